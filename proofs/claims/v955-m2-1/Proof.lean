import JvmDerived
import JvmDerived.Pilot.@@N@@Statement
import JvmDerived.Pilot.@@N@@Code
set_option linter.unusedVariables false
set_option linter.unusedSimpArgs false
/- laws to paste: Road.backV, Road.chN, Road.codOf (cut by pick.py; bodies as the Statement names them) -/
namespace Jvm.Pilot.@@N@@
namespace StrChars
open Jvm Sem ClassFile Op Lib Jvm.Stand Jvm.Free.XT Jvm.Free.ALB Jvm.Free.JM Jvm.Free
open Jvm.Lib.Cold (StaticIs)
/-- a char array whose places are chars -/
def Ch (a : Addr) (A : Cell) (U : State) : Prop := Arr .char a A U ∧ Typed .char A
theorem Ch.mv {a : Addr} {A : Cell} {U U' : State} (h : Ch a A U) (hal : U.vm.Alike U'.vm) (hh : U'.heap = U.heap) : Ch a A U' := ⟨h.1.mv hal hh, h.2⟩
theorem Ch.keep {a : Addr} {A : Cell} {U U' : State} (h : Ch a A U) (hal : U.vm.Alike U'.vm) (hk : U'.heap[a]? = some A) : Ch a A U' := ⟨h.1.keep hal hk, h.2⟩
/-- what place i of a char[]'s cell holds -/
def cv (A : Cell) (i : Nat) : Int32 := match A.slots[i]? with | some (.int x) => x | _ => 0
theorem Ch.get {a : Addr} {A : Cell} {U : State} (h : Ch a A U) {i : Nat} (hi : i < A.slots.size) : A.slots[i]? = some (.int (cv A i)) := by
  have e := Array.getElem?_eq_getElem hi
  have f := h.2 i _ e
  unfold cv; rw [e]
  generalize A.slots[i] = v at f
  cases v <;> simp [fits] at f ⊢
/-- the byte that i2b leaves of a char -/
def lo8 (x : Int32) : Int32 := x.toInt8.toInt32
theorem fits_lo8 (y : Int32) : fits .byte (.int (lo8 y)) = true := by
  have h1 := y.toInt8.le_toInt
  have h2 := y.toInt8.toInt_lt
  simp only [lo8, fits, Bool.and_eq_true, decide_eq_true_eq, Int32.le_iff_toInt_le, Int8.toInt_toInt32, show (-128 : Int32).toInt = -128 from by decide, show (127 : Int32).toInt = 127 from by decide]
  omega
/-- A' is A but that each place j of lo .. hi - 1 holds f j -/
def Laid (A A' : Cell) (lo hi : Nat) (f : Nat → Value) : Prop := A'.cls = A.cls ∧ A'.vm = A.vm ∧ A'.slots.size = A.slots.size ∧ ∀ i, A'.slots[i]? = if lo ≤ i ∧ i < hi then some (f i) else A.slots[i]?
theorem Laid.zero (A : Cell) (lo : Nat) (f : Nat → Value) : Laid A A lo (lo + 0) f := ⟨rfl, rfl, rfl, fun i => by rw [if_neg (by omega)]⟩
theorem Laid.step {A Ak : Cell} {lo k : Nat} {f : Nat → Value} {v : Value} (h : Laid A Ak lo k f) (hlo : lo ≤ k) (hk : k < Ak.slots.size) (hv : v = f k) : Laid A (Ak.setSlot k v) lo (k + 1) f := by
  refine ⟨h.1, h.2.1, by simpa [Cell.setSlot] using h.2.2.1, fun i => ?_⟩
  by_cases e : k = i
  · subst e; rw [Cell.slots_setSlot_self v hk, if_pos (by omega), hv]
  · rw [Cell.slots_setSlot_ne v e, h.2.2.2 i]
    by_cases q : lo ≤ i ∧ i < k
    · rw [if_pos q, if_pos (by omega)]
    · rw [if_neg q, if_neg (by omega)]
def U16 : String := "java/lang/StringUTF16"
namespace Cmp5
def yN : MethodName := ⟨"java/lang/StringUTF16", "compress", "([CI[BII)I"⟩
abbrev yB : ByteArray := jdk_52_method_21_code
theorem d0 : decode yB 0 = .ok (.iconst 0, 1) := by decide +kernel
theorem d1 : decode yB 1 = .ok (.istore 5, 2) := by decide +kernel
theorem d3 : decode yB 3 = .ok (.iload 5, 2) := by decide +kernel
theorem d5 : decode yB 5 = .ok (.iload 4, 2) := by decide +kernel
theorem d7 : decode yB 7 = .ok (.if_icmp (.ge) 37, 3) := by decide +kernel
theorem d10 : decode yB 10 = .ok (.aload_n 0, 1) := by decide +kernel
theorem d11 : decode yB 11 = .ok (.iload_n 1, 1) := by decide +kernel
theorem d12 : decode yB 12 = .ok (.caload, 1) := by decide +kernel
theorem d13 : decode yB 13 = .ok (.istore 6, 2) := by decide +kernel
theorem d15 : decode yB 15 = .ok (.iload 6, 2) := by decide +kernel
theorem d17 : decode yB 17 = .ok (.sipush 255, 3) := by decide +kernel
theorem d20 : decode yB 20 = .ok (.if_icmp (.le) 6, 3) := by decide +kernel
theorem d26 : decode yB 26 = .ok (.aload_n 2, 1) := by decide +kernel
theorem d27 : decode yB 27 = .ok (.iload_n 3, 1) := by decide +kernel
theorem d28 : decode yB 28 = .ok (.iload 6, 2) := by decide +kernel
theorem d30 : decode yB 30 = .ok (.i2b, 1) := by decide +kernel
theorem d31 : decode yB 31 = .ok (.bastore, 1) := by decide +kernel
theorem d32 : decode yB 32 = .ok (.iinc 1 1, 3) := by decide +kernel
theorem d35 : decode yB 35 = .ok (.iinc 3 1, 3) := by decide +kernel
theorem d38 : decode yB 38 = .ok (.iinc 5 1, 3) := by decide +kernel
theorem d41 : decode yB 41 = .ok (.goto (-38), 3) := by decide +kernel
theorem d44 : decode yB 44 = .ok (.iload 4, 2) := by decide +kernel
theorem d46 : decode yB 46 = .ok (.ireturn, 1) := by decide +kernel
def site : List Cond := []
def tab : Cond := tabOf yN yB 7 (some .int) site
def P (b : Addr) (A : Cell) (d : Addr) (B : Cell) (o q len : Nat) (args : Array Value) (s : State) : Prop := args = #[.ref b, .int (Int32.ofNat o), .ref d, .int (Int32.ofNat q), .int (Int32.ofNat len)] ∧ Ch b A s ∧ Arr .byte d B s ∧ b ≠ d ∧ o + len ≤ A.slots.size ∧ q + len ≤ B.slots.size ∧ ∀ i, i < len → ¬ 255 < cv A (o + i)
def E (b : Addr) (A : Cell) (d : Addr) (B : Cell) (o q len : Nat) (r : Option Value) (s u : State) : Prop := r = some (.int (Int32.ofNat len)) ∧ ∃ B', Put d B' s u ∧ Laid B B' q (q + len) (fun j => Value.int (lo8 (cv A (o + (j - q)))))
/-- no char of the range above 255: len; the places written hold each char's low byte -/
theorem law (l : Launch) (b : Addr) (A : Cell) (d : Addr) (B : Cell) (o q len : Nat) : Law l yN 5 5 0 0 yB 7 (some .int) site (P b A d B o q len) (E b A d B o q len) (copyLocs d q len) 0 0 := by
  refine Law.of_walk (plainFor_of_name (by decide +kernel)) (by decide +kernel) (by decide +kernel) (by decide) (fun _ _ h => by rw [h.1]; rfl) (fun _ U U' hal hh h => ⟨h.1, h.2.1.mv hal hh, h.2.2.1.mv hal hh, h.2.2.2⟩) (fun r U U' V V' h1 hal h2 h => ⟨h.1, h.2.elim fun B' q => ⟨B', q.1.mv h1 h2, q.2⟩⟩) ?_
  intro p e s m args below meth c s₁ X0 hexec hbytes hml hret hlk hnm hown hh0 W hP
  obtain ⟨rfl, hA, hB, hne, l1, l2, hp⟩ := hP
  have c1 : Steps p.tables e below (s₁.setTop (entryFrame m #[.ref b, .int (Int32.ofNat o), .ref d, .int (Int32.ofNat q), .int (Int32.ofNat len)] 7)) (s₁.setTop (mkF m 0 #[.val (.ref b), .val (.int (Int32.ofNat o)), .val (.ref d), .val (.int (Int32.ofNat q)), .val (.int (Int32.ofNat len)), .unset, .unset] [])) := entry rfl
  have hA0 := hA.1.mv X0.warmed.alike hh0
  have hB0 := hB.mv X0.warmed.alike hh0
  have a31 := hA.1.2.2.2
  have c2 : Steps p.tables e below (s₁.setTop (entryFrame m #[.ref b, .int (Int32.ofNat o), .ref d, .int (Int32.ofNat q), .int (Int32.ofNat len)] 7)) (s₁.setTop (mkF m 3 #[.val (.ref b), .val (.int (Int32.ofNat o)), .val (.ref d), .val (.int (Int32.ofNat q)), .val (.int (Int32.ofNat len)), .val (.int 0), .unset] [])) := c1.trans (by
    refine iconstV X0.here hexec rfl 0 (hb hbytes d0) (by decide) ?_
    refine XS.istore X0.here hexec rfl (hb hbytes d1) rfl rfl ?_
    exact Steps.refl _)
  have loop : ∀ (r i : Nat), i + r = len → ∀ (z : Slot), (z = .unset ∨ ∃ w, z = .val w ∧ w.category = 1) → ∀ (Tl : State) (Bk : Cell), Stand p l e { frames := 0, locals := 0, cells := 0, slots := 0 } s m #[.ref b, .int (Int32.ofNat o), .ref d, .int (Int32.ofNat q), .int (Int32.ofNat len)] below meth c Tl ([] ++ copyLocs d q i) 0 0 → Put d Bk s₁ Tl → Laid B Bk q (q + i) (fun j => Value.int (lo8 (cv A (o + (j - q))))) →
      Steps p.tables e below (s₁.setTop (entryFrame m #[.ref b, .int (Int32.ofNat o), .ref d, .int (Int32.ofNat q), .int (Int32.ofNat len)] 7)) (Tl.setTop (mkF m 3 #[.val (.ref b), .val (.int (Int32.ofNat (o + i))), .val (.ref d), .val (.int (Int32.ofNat (q + i))), .val (.int (Int32.ofNat len)), .val (.int (Int32.ofNat i)), z] [])) → ∃ (T' : State) (B' : Cell) (z' : Slot), Stand p l e { frames := 0, locals := 0, cells := 0, slots := 0 } s m #[.ref b, .int (Int32.ofNat o), .ref d, .int (Int32.ofNat q), .int (Int32.ofNat len)] below meth c T' ([] ++ copyLocs d q len) 0 0 ∧ Put d B' s₁ T' ∧ Laid B B' q (q + len) (fun j => Value.int (lo8 (cv A (o + (j - q))))) ∧
      Steps p.tables e below (s₁.setTop (entryFrame m #[.ref b, .int (Int32.ofNat o), .ref d, .int (Int32.ofNat q), .int (Int32.ofNat len)] 7)) (T'.setTop (mkF m 3 #[.val (.ref b), .val (.int (Int32.ofNat (o + len))), .val (.ref d), .val (.int (Int32.ofNat (q + len))), .val (.int (Int32.ofNat len)), .val (.int (Int32.ofNat len)), z'] [])) := by
    intro r
    induction r with
    | zero =>
      intro i hi z hz Tl Bk Xl pl fl cl
      have hil : i = len := by omega
      rw [hil] at Xl fl cl
      exact ⟨Tl, Bk, z, Xl, pl, fl, cl⟩
    | succ r ih =>
      intro i hi z hz Tl Bk Xl pl fl cl
      have all := X0.warmed.alike.symm.trans Xl.warmed.alike
      have hAl := hA0.keep all (pl.other hne hA0.1)
      have hBk := hB0.like all pl.1 fl.1 fl.2.1 fl.2.2.1
      have hlt : q + i < Bk.slots.size := by rw [fl.2.2.1]; omega
      have c3 : Steps p.tables e below (s₁.setTop (entryFrame m #[.ref b, .int (Int32.ofNat o), .ref d, .int (Int32.ofNat q), .int (Int32.ofNat len)] 7)) (Tl.setTop (mkF m 12 #[.val (.ref b), .val (.int (Int32.ofNat (o + i))), .val (.ref d), .val (.int (Int32.ofNat (q + i))), .val (.int (Int32.ofNat len)), .val (.int (Int32.ofNat i)), z] [.int (Int32.ofNat (o + i)), .ref b])) := cl.trans (by
        refine XS.iload Xl.here hexec rfl (hb hbytes d3) rfl ?_
        refine XS.iload Xl.here hexec rfl (hb hbytes d5) rfl ?_
        refine XS.icmpNo Xl.here hexec rfl (hb hbytes d7) rfl (ii_ge_f (lt32 (by omega) (by omega))) ?_
        refine XS.aloadN Xl.here hexec rfl (hb hbytes d10) rfl rfl ?_
        refine XS.iloadN Xl.here hexec rfl (hb hbytes d11) rfl ?_
        exact Steps.refl _)
      have c4 : Steps p.tables e below (s₁.setTop (entryFrame m #[.ref b, .int (Int32.ofNat o), .ref d, .int (Int32.ofNat q), .int (Int32.ofNat len)] 7)) (Tl.setTop (mkF m 13 #[.val (.ref b), .val (.int (Int32.ofNat (o + i))), .val (.ref d), .val (.int (Int32.ofNat (q + i))), .val (.int (Int32.ofNat len)), .val (.int (Int32.ofNat i)), z] [.int (cv A (o + i))])) := c3.trans (by
        refine Xl.aget hexec hAl rfl (hA.get (i := o + i) (by omega)) rfl rfl (hb hbytes d12) ?_
        exact Steps.refl _)
      have c5 : Steps p.tables e below (s₁.setTop (entryFrame m #[.ref b, .int (Int32.ofNat o), .ref d, .int (Int32.ofNat q), .int (Int32.ofNat len)] 7)) (Tl.setTop (mkF m 15 #[.val (.ref b), .val (.int (Int32.ofNat (o + i))), .val (.ref d), .val (.int (Int32.ofNat (q + i))), .val (.int (Int32.ofNat len)), .val (.int (Int32.ofNat i)), .val (.int (cv A (o + i)))] [])) := c4.trans (by
        refine XS.istoreS Xl.here hexec rfl (hb hbytes d13) rfl rfl hz ?_
        exact Steps.refl _)
      have c6 : Steps p.tables e below (s₁.setTop (entryFrame m #[.ref b, .int (Int32.ofNat o), .ref d, .int (Int32.ofNat q), .int (Int32.ofNat len)] 7)) (Tl.setTop (mkF m 31 #[.val (.ref b), .val (.int (Int32.ofNat (o + i))), .val (.ref d), .val (.int (Int32.ofNat (q + i))), .val (.int (Int32.ofNat len)), .val (.int (Int32.ofNat i)), .val (.int (cv A (o + i)))] [.int (lo8 (cv A (o + i))), .int (Int32.ofNat (q + i)), .ref d])) := c5.trans (by
        refine XS.iload Xl.here hexec rfl (hb hbytes d15) rfl ?_
        refine sipushV Xl.here hexec rfl 255 (hb hbytes d17) (by decide) ?_
        refine XS.icmpYes Xl.here hexec rfl (pc0 := 20) rfl (hb hbytes d20) rfl (ii_le_t (hp i (by omega))) (by decide) rfl ?_
        refine XS.aloadN Xl.here hexec rfl (hb hbytes d26) rfl rfl ?_
        refine XS.iloadN Xl.here hexec rfl (hb hbytes d27) rfl ?_
        refine XS.iload Xl.here hexec rfl (hb hbytes d28) rfl ?_
        refine i2b Xl.here hexec rfl (hb hbytes d30) rfl ?_
        exact Steps.refl _)
      obtain ⟨T7, X7, p7, st7⟩ := Xl.aput hexec hBk rfl hlt rfl (fits_lo8 (cv A (o + i))) (g := (mkF m 31 #[.val (.ref b), .val (.int (Int32.ofNat (o + i))), .val (.ref d), .val (.int (Int32.ofNat (q + i))), .val (.int (Int32.ofNat len)), .val (.int (Int32.ofNat i)), .val (.int (cv A (o + i)))] [.int (lo8 (cv A (o + i))), .int (Int32.ofNat (q + i)), .ref d])) rfl (rest := []) rfl (hb hbytes d31)
      have c8 : Steps p.tables e below (s₁.setTop (entryFrame m #[.ref b, .int (Int32.ofNat o), .ref d, .int (Int32.ofNat q), .int (Int32.ofNat len)] 7)) (T7.setTop (mkF m 32 #[.val (.ref b), .val (.int (Int32.ofNat (o + i))), .val (.ref d), .val (.int (Int32.ofNat (q + i))), .val (.int (Int32.ofNat len)), .val (.int (Int32.ofNat i)), .val (.int (cv A (o + i)))] [])) := c6.trans (st7 _ (Steps.refl _))
      have c9 : Steps p.tables e below (s₁.setTop (entryFrame m #[.ref b, .int (Int32.ofNat o), .ref d, .int (Int32.ofNat q), .int (Int32.ofNat len)] 7)) (T7.setTop (mkF m 3 #[.val (.ref b), .val (.int (Int32.ofNat (o + i) + 1)), .val (.ref d), .val (.int (Int32.ofNat (q + i) + 1)), .val (.int (Int32.ofNat len)), .val (.int (Int32.ofNat i + 1)), .val (.int (cv A (o + i)))] [])) := c8.trans (by
        refine iincV X7.here hexec rfl 1 (hb hbytes d32) (by decide) rfl rfl ?_
        refine iincV X7.here hexec rfl 1 (hb hbytes d35) (by decide) rfl rfl ?_
        refine iincV X7.here hexec rfl 1 (hb hbytes d38) (by decide) rfl rfl ?_
        refine XS.goto X7.here hexec rfl (pc0 := 41) rfl (hb hbytes d41) (by decide) rfl ?_
        exact Steps.refl _)
      have c10 : Steps p.tables e below (s₁.setTop (entryFrame m #[.ref b, .int (Int32.ofNat o), .ref d, .int (Int32.ofNat q), .int (Int32.ofNat len)] 7)) (T7.setTop (mkF m 3 #[.val (.ref b), .val (.int (Int32.ofNat (o + (i + 1)))), .val (.ref d), .val (.int (Int32.ofNat (q + (i + 1)))), .val (.int (Int32.ofNat len)), .val (.int (Int32.ofNat (i + 1))), .val (.int (cv A (o + i)))] [])) := by
        have := c9
        rw [succ32, succ32, succ32] at this
        exact this
      exact ih (i + 1) (by omega) _ (Or.inr ⟨_, rfl, rfl⟩) T7 _ (by rw [copyLocs_step, ← List.append_assoc]; exact X7) (pl.trans p7) (fl.step (by omega) hlt (by simp)) c10
  obtain ⟨T9, B9, z9, X9, p9, f9, g9⟩ := loop len 0 (by omega) .unset (Or.inl rfl) s₁ B (by simpa [copyLocs] using X0) ⟨hB0.1, fun _ _ => rfl, rfl⟩ (Laid.zero _ _ _) c2
  have c11 : Steps p.tables e below (s₁.setTop (entryFrame m #[.ref b, .int (Int32.ofNat o), .ref d, .int (Int32.ofNat q), .int (Int32.ofNat len)] 7)) (T9.setTop (mkF m 46 #[.val (.ref b), .val (.int (Int32.ofNat (o + len))), .val (.ref d), .val (.int (Int32.ofNat (q + len))), .val (.int (Int32.ofNat len)), .val (.int (Int32.ofNat len)), z9] [.int (Int32.ofNat len)])) := g9.trans (by
    refine XS.iload X9.here hexec rfl (hb hbytes d3) rfl ?_
    refine XS.iload X9.here hexec rfl (hb hbytes d5) rfl ?_
    refine XS.icmpYes X9.here hexec rfl (pc0 := 7) rfl (hb hbytes d7) rfl (ii_ge_t (nlt32 (by omega) (Nat.le_refl _))) (by decide) rfl ?_
    refine XS.iload X9.here hexec rfl (hb hbytes d44) rfl ?_
    exact Steps.refl _)
  exact ⟨T9, some (.int (Int32.ofNat len)), _, _, _, X9, by simp, rfl, rfl, (fun h => by cases h), ⟨rfl, B9, p9.from hh0, f9⟩, fun fs hl => c11.trans (X9.ireturnOut hexec hret rfl (Or.inl rfl) (hb hbytes d46) hl)⟩
end Cmp5
namespace Cmp3
def yN : MethodName := ⟨"java/lang/StringUTF16", "compress", "([CII)[B"⟩
abbrev yB : ByteArray := jdk_52_method_16_code
theorem d0 : decode yB 0 = .ok (.iload_n 2, 1) := by decide +kernel
theorem d1 : decode yB 1 = .ok (.newarray .byte, 2) := by decide +kernel
theorem d3 : decode yB 3 = .ok (.astore_n 3, 1) := by decide +kernel
theorem d4 : decode yB 4 = .ok (.aload_n 0, 1) := by decide +kernel
theorem d5 : decode yB 5 = .ok (.iload_n 1, 1) := by decide +kernel
theorem d6 : decode yB 6 = .ok (.aload_n 3, 1) := by decide +kernel
theorem d7 : decode yB 7 = .ok (.iconst 0, 1) := by decide +kernel
theorem d8 : decode yB 8 = .ok (.iload_n 2, 1) := by decide +kernel
theorem d9 : decode yB 9 = .ok (.invokestatic 115, 3) := by decide +kernel
theorem d12 : decode yB 12 = .ok (.istore 4, 2) := by decide +kernel
theorem d14 : decode yB 14 = .ok (.iload 4, 2) := by decide +kernel
theorem d16 : decode yB 16 = .ok (.iload_n 2, 1) := by decide +kernel
theorem d17 : decode yB 17 = .ok (.if_icmp (.eq) 40, 3) := by decide +kernel
theorem d57 : decode yB 57 = .ok (.aload_n 3, 1) := by decide +kernel
theorem d58 : decode yB 58 = .ok (.areturn, 1) := by decide +kernel
def site : List Cond := [.arrayClass .byte, Cmp5.tab] ++ staticW U16 115 Cmp5.yN
def tab : Cond := tabOf yN yB 6 (some (.array .byte)) site
def P (b : Addr) (A : Cell) (o len : Nat) (args : Array Value) (s : State) : Prop := args = #[.ref b, .int (Int32.ofNat o), .int (Int32.ofNat len)] ∧ Ch b A s ∧ o + len ≤ A.slots.size ∧ len ≤ 536870912 ∧ ∀ i, i < len → ¬ 255 < cv A (o + i)
def E (b : Addr) (A : Cell) (o len : Nat) (r : Option Value) (s u : State) : Prop := NewArr .byte "[B" len (fun j => .int (lo8 (cv A (o + j)))) r s u ∧ u.heap.size = s.heap.size + 1
/-- no char of the range above 255: a new byte[] of their low bytes -/
theorem law (l : Launch) (b : Addr) (A : Cell) (o len : Nat) : Law l yN 3 3 1 18 yB 6 (some (.array .byte)) site (P b A o len) (E b A o len) [] 1 len := by
  refine Law.of_walk (plainFor_of_name (by decide +kernel)) (by decide +kernel) (by decide +kernel) (by decide) (fun _ _ h => by rw [h.1]; rfl) (fun _ U U' hal hh h => ⟨h.1, h.2.1.mv hal hh, h.2.2⟩) (fun r U U' V V' h1 hal h2 h => ⟨NewArr.mv r U U' V V' h1 hal h2 h.1, by rw [h1, h2]; exact h.2⟩) ?_
  intro p e s m args below meth c s₁ X0 hexec hbytes hml hret hlk hnm hown hh0 W hP
  obtain ⟨rfl, hA, l1, l2, hp⟩ := hP
  have a31 := hA.1.2.2.2
  have c1 : Steps p.tables e below (s₁.setTop (entryFrame m #[.ref b, .int (Int32.ofNat o), .int (Int32.ofNat len)] 6)) (s₁.setTop (mkF m 0 #[.val (.ref b), .val (.int (Int32.ofNat o)), .val (.int (Int32.ofNat len)), .unset, .unset, .unset] [])) := entry rfl
  have c2 : Steps p.tables e below (s₁.setTop (entryFrame m #[.ref b, .int (Int32.ofNat o), .int (Int32.ofNat len)] 6)) (s₁.setTop (mkF m 1 #[.val (.ref b), .val (.int (Int32.ofNat o)), .val (.int (Int32.ofNat len)), .unset, .unset, .unset] [.int (Int32.ofNat len)])) := c1.trans (by
    refine XS.iloadN X0.here hexec rfl (hb hbytes d0) rfl ?_
    exact Steps.refl _)
  obtain ⟨T3, B3, X3, ba3, bs3, bv3, bh3, bf3, st3⟩ := X0.anew hexec (atype := .byte) (wk W (.arrayClass .byte)) rfl (by show len * 1 ≤ _; omega) (by omega) (g := (mkF m 1 #[.val (.ref b), .val (.int (Int32.ofNat o)), .val (.int (Int32.ofNat len)), .unset, .unset, .unset] [.int (Int32.ofNat len)])) rfl (hb hbytes d1) (rest := []) rfl (Nat.le_refl _) (by show 0 + len ≤ len; omega)
  rw [hh0] at ba3 st3
  have kp3 : XT.Kept s T3 := (XT.Kept.of_eq hh0).push bh3
  have hA3 := hA.keep X3.warmed.alike (kp3 _ _ hA.1.1)
  have hne : b ≠ s.heap.size := hA.1.ne
  have c4 : Steps p.tables e below (s₁.setTop (entryFrame m #[.ref b, .int (Int32.ofNat o), .int (Int32.ofNat len)] 6)) (T3.setTop (mkF m 3 #[.val (.ref b), .val (.int (Int32.ofNat o)), .val (.int (Int32.ofNat len)), .unset, .unset, .unset] [.ref s.heap.size])) := c2.trans (st3 _ (Steps.refl _))
  have c5 : Steps p.tables e below (s₁.setTop (entryFrame m #[.ref b, .int (Int32.ofNat o), .int (Int32.ofNat len)] 6)) (T3.setTop (mkF m 9 #[.val (.ref b), .val (.int (Int32.ofNat o)), .val (.int (Int32.ofNat len)), .val (.ref s.heap.size), .unset, .unset] [.int (Int32.ofNat len), .int 0, .ref s.heap.size, .int (Int32.ofNat o), .ref b])) := c4.trans (by
    refine XS.astoreN X3.here hexec rfl (hb hbytes d3) rfl rfl rfl ?_
    refine XS.aloadN X3.here hexec rfl (hb hbytes d4) rfl rfl ?_
    refine XS.iloadN X3.here hexec rfl (hb hbytes d5) rfl ?_
    refine XS.aloadN X3.here hexec rfl (hb hbytes d6) rfl rfl ?_
    refine iconstV X3.here hexec rfl 0 (hb hbytes d7) (by decide) ?_
    refine XS.iloadN X3.here hexec rfl (hb hbytes d8) rfl ?_
    exact Steps.refl _)
  obtain ⟨v6, T6, X6, E6, g6⟩ := X3.callS hexec (Cmp5.law l b A s.heap.size B3 o 0 len) hown (wks W (staticW U16 115 Cmp5.yN)) (wk W Cmp5.tab) (W := 0) (Nat.le_of_ble_eq_true rfl) (Nat.le_of_ble_eq_true rfl) (Nat.le_refl _) (by show 0 + len + 0 ≤ len; omega) (g := (mkF m 9 #[.val (.ref b), .val (.int (Int32.ofNat o)), .val (.int (Int32.ofNat len)), .val (.ref s.heap.size), .unset, .unset] [.int (Int32.ofNat len), .int (Int32.ofNat 0), .ref s.heap.size, .int (Int32.ofNat o), .ref b])) rfl (by rw [hml]; rfl) c5 (argsL := [.ref b, .int (Int32.ofNat o), .ref s.heap.size, .int (Int32.ofNat 0), .int (Int32.ofNat len)]) (rest := []) rfl rfl (by show 2 * 0 + 0 ≤ _; decide) (hb hbytes d9) (⟨rfl, hA3, ba3, hne, l1, by rw [bs3]; simp, hp⟩)
  obtain ⟨rfl, B6, p6, f6⟩ := E6
  have c7 : Steps p.tables e below (s₁.setTop (entryFrame m #[.ref b, .int (Int32.ofNat o), .int (Int32.ofNat len)] 6)) (T6.setTop (mkF m 12 #[.val (.ref b), .val (.int (Int32.ofNat o)), .val (.int (Int32.ofNat len)), .val (.ref s.heap.size), .unset, .unset] [.int (Int32.ofNat len)])) := g6
  have c8 : Steps p.tables e below (s₁.setTop (entryFrame m #[.ref b, .int (Int32.ofNat o), .int (Int32.ofNat len)] 6)) (T6.setTop (mkF m 58 #[.val (.ref b), .val (.int (Int32.ofNat o)), .val (.int (Int32.ofNat len)), .val (.ref s.heap.size), .val (.int (Int32.ofNat len)), .unset] [.ref s.heap.size])) := c7.trans (by
    refine XS.istore X6.here hexec rfl (hb hbytes d12) rfl rfl ?_
    refine XS.iload X6.here hexec rfl (hb hbytes d14) rfl ?_
    refine XS.iloadN X6.here hexec rfl (hb hbytes d16) rfl ?_
    refine XS.icmpYes X6.here hexec rfl (pc0 := 17) rfl (hb hbytes d17) rfl (ii_eq_t rfl) (by decide) rfl ?_
    refine XS.aloadN X6.here hexec rfl (hb hbytes d57) rfl rfl ?_
    exact Steps.refl _)
  have X8 := X6.wide (L' := []) (cells' := 1) (slots' := len) (fun x hx hlt => by
    simp only [List.nil_append, copyLocs, List.mem_map, List.mem_range] at hx
    obtain ⟨i, -, rfl⟩ := hx
    exact absurd hlt (Nat.lt_irrefl _)) (Nat.le_refl _) (by omega)
  exact ⟨T6, some (.ref s.heap.size), _, _, _, X8, rfl, rfl, rfl, (fun h => by cases h), ⟨⟨rfl, B6, ba3.like (X3.warmed.alike.symm.trans X6.warmed.alike) p6.1 f6.1 f6.2.1 f6.2.2.1, f6.2.1.trans bv3, by rw [X6.warmed.alike.findClass, f6.1]; exact bf3, by rw [f6.2.2.1, bs3]; simp, fun j hj => by rw [f6.2.2.2 j, if_pos (by omega)]; rfl, kp3.put p6 (Nat.le_refl _)⟩, by rw [p6.2.2, bh3, hh0]; simp⟩, fun fs hl => c8.trans (X8.areturnOut hexec rfl hret rfl (hb hbytes d58) hl)⟩
end Cmp3
namespace CodL
def yN : MethodName := ⟨"java/lang/StringUTF16", "coderFromArrayLen", "([BI)B"⟩
abbrev yB : ByteArray := jdk_52_method_15_code
theorem d0 : decode yB 0 = .ok (.iload_n 1, 1) := by decide +kernel
theorem d1 : decode yB 1 = .ok (.aload_n 0, 1) := by decide +kernel
theorem d2 : decode yB 2 = .ok (.arraylength, 1) := by decide +kernel
theorem d3 : decode yB 3 = .ok (.isub, 1) := by decide +kernel
theorem d4 : decode yB 4 = .ok (.bipush 31, 2) := by decide +kernel
theorem d6 : decode yB 6 = .ok (.iushr, 1) := by decide +kernel
theorem d7 : decode yB 7 = .ok (.i2b, 1) := by decide +kernel
theorem d8 : decode yB 8 = .ok (.ireturn, 1) := by decide +kernel
def site : List Cond := []
def tab : Cond := tabOf yN yB 2 (some .byte) site
def P (d : Addr) (B : Cell) (args : Array Value) (s : State) : Prop := args = #[.ref d, .int (Int32.ofNat B.slots.size)] ∧ Arr .byte d B s
def E (r : Option Value) (s u : State) : Prop := XT.PureE (some (.int 0)) r s u
/-- an array as long as the number of chars: LATIN1 -/
theorem law (l : Launch) (d : Addr) (B : Cell) : Law l yN 2 2 0 0 yB 2 (some .byte) site (P d B) E [] 0 0 := by
  refine Law.of_walk (plainFor_of_name (by decide +kernel)) (by decide +kernel) (by decide +kernel) (by decide) (fun _ _ h => by rw [h.1]; rfl) (fun _ U U' hal hh h => ⟨h.1, h.2.mv hal hh⟩) (fun r U U' V V' h1 hal h2 h => XT.PureE.mv r U U' V V' h1 hal h2 h) ?_
  intro p e s m args below meth c s₁ X0 hexec hbytes hml hret hlk hnm hown hh0 W hP
  obtain ⟨rfl, hB⟩ := hP
  have hB0 := hB.mv X0.warmed.alike hh0
  have c1 : Steps p.tables e below (s₁.setTop (entryFrame m #[.ref d, .int (Int32.ofNat B.slots.size)] 2)) (s₁.setTop (mkF m 0 #[.val (.ref d), .val (.int (Int32.ofNat B.slots.size))] [])) := entry rfl
  have c2 : Steps p.tables e below (s₁.setTop (entryFrame m #[.ref d, .int (Int32.ofNat B.slots.size)] 2)) (s₁.setTop (mkF m 2 #[.val (.ref d), .val (.int (Int32.ofNat B.slots.size))] [.ref d, .int (Int32.ofNat B.slots.size)])) := c1.trans (by
    refine XS.iloadN X0.here hexec rfl (hb hbytes d0) rfl ?_
    refine XS.aloadN X0.here hexec rfl (hb hbytes d1) rfl rfl ?_
    exact Steps.refl _)
  have c3 : Steps p.tables e below (s₁.setTop (entryFrame m #[.ref d, .int (Int32.ofNat B.slots.size)] 2)) (s₁.setTop (mkF m 8 #[.val (.ref d), .val (.int (Int32.ofNat B.slots.size))] [.int (lo8 (ushr (Int32.ofNat B.slots.size - Int32.ofNat B.slots.size) 31))])) := c2.trans (by
    refine X0.alen hexec hB0 rfl rfl (hb hbytes d2) ?_
    refine XS.isub X0.here hexec rfl (hb hbytes d3) rfl ?_
    refine bipushV X0.here hexec rfl 31 (hb hbytes d4) (by decide) ?_
    refine iushr X0.here hexec rfl (hb hbytes d6) rfl ?_
    refine i2b X0.here hexec rfl (hb hbytes d7) rfl ?_
    exact Steps.refl _)
  have e0 : lo8 (ushr (Int32.ofNat B.slots.size - Int32.ofNat B.slots.size) 31) = 0 := by rw [Int32.sub_self]; decide
  rw [e0] at c3
  exact ⟨s₁, some (.int 0), _, _, _, X0, rfl, rfl, rfl, (fun h => by cases h), ⟨rfl, hh0⟩, fun fs hl => c3.trans (X0.ireturnOut hexec hret rfl (Or.inr (Or.inr (Or.inl rfl))) (hb hbytes d8) hl)⟩
end CodL
/-- the String at a is Latin-1 over a new byte[] (the heap's one new cell): the low bytes of the len chars of A from o on; every cell but a is kept -/
def Got (a : Addr) (D : Cell) (fV fC : Field) (A : Cell) (o len : Nat) (r : Option Value) (s u : State) : Prop := r = none ∧ ∃ D' V : Cell, Blank "java/lang/String" a D' u ∧ Same D D' [fV.slot, fC.slot] ∧ D'.slots[fV.slot]? = some (.ref s.heap.size) ∧ D'.slots[fC.slot]? = some (.int 0) ∧ Arr .byte s.heap.size V u ∧ V.vm = .none ∧ u.vm.findClass "[B" = some V.cls ∧ V.slots.size = len ∧ (∀ j, j < len → V.slots[j]? = some (.int (lo8 (cv A (o + j))))) ∧ (∀ (y : Addr) (c : Cell), y ≠ a → s.heap[y]? = some c → u.heap[y]? = some c) ∧ u.heap.size = s.heap.size + 1
theorem Got.mv {a : Addr} {D A : Cell} {fV fC : Field} {o len : Nat} : ∀ r (U U' V V' : State), U'.heap = U.heap → V.vm.Alike V'.vm → V'.heap = V.heap → Got a D fV fC A o len r U V → Got a D fV fC A o len r U' V' :=
  fun r U U' V V' h1 hal h2 ⟨e0, D', X, a1, a2, a3, a4, a5, a6, a7, a8, a9, a10, a11⟩ => ⟨e0, D', X, a1.mv hal h2, a2, by rw [h1]; exact a3, a4, by rw [h1]; exact a5.mv hal h2, a6, by rw [hal.findClass]; exact a7, a8, a9, by rw [h1, h2]; exact a10, by rw [h1, h2]; exact a11⟩
namespace New4
def yN : MethodName := ⟨"java/lang/String", "<init>", "([CIILjava/lang/Void;)V"⟩
abbrev yB : ByteArray := jdk_42_method_149_code
theorem d0 : decode yB 0 = .ok (.aload_n 0, 1) := by decide +kernel
theorem d1 : decode yB 1 = .ok (.invokespecial 1, 3) := by decide +kernel
theorem d4 : decode yB 4 = .ok (.iload_n 3, 1) := by decide +kernel
theorem d5 : decode yB 5 = .ok (.ifCond (.ne) 22, 3) := by decide +kernel
theorem d27 : decode yB 27 = .ok (.getstatic 38, 3) := by decide +kernel
theorem d30 : decode yB 30 = .ok (.ifCond (.eq) 28, 3) := by decide +kernel
theorem d33 : decode yB 33 = .ok (.aload_n 1, 1) := by decide +kernel
theorem d34 : decode yB 34 = .ok (.iload_n 2, 1) := by decide +kernel
theorem d35 : decode yB 35 = .ok (.iload_n 3, 1) := by decide +kernel
theorem d36 : decode yB 36 = .ok (.invokestatic 177, 3) := by decide +kernel
theorem d39 : decode yB 39 = .ok (.astore 5, 2) := by decide +kernel
theorem d41 : decode yB 41 = .ok (.aload_n 0, 1) := by decide +kernel
theorem d42 : decode yB 42 = .ok (.aload 5, 2) := by decide +kernel
theorem d44 : decode yB 44 = .ok (.iload_n 3, 1) := by decide +kernel
theorem d45 : decode yB 45 = .ok (.invokestatic 47, 3) := by decide +kernel
theorem d48 : decode yB 48 = .ok (.putfield 15, 3) := by decide +kernel
theorem d51 : decode yB 51 = .ok (.aload_n 0, 1) := by decide +kernel
theorem d52 : decode yB 52 = .ok (.aload 5, 2) := by decide +kernel
theorem d54 : decode yB 54 = .ok (.putfield 9, 3) := by decide +kernel
theorem d57 : decode yB 57 = .ok (.return_, 1) := by decide +kernel
def site : List Cond := [.fieldLink "java/lang/String" 38 "java/lang/String" "COMPACT_STRINGS" "Z", Cmp3.tab, CodL.tab, .laysFinal "java/lang/String" "java/lang/String" "value" "[B", .fieldLink "java/lang/String" 9 "java/lang/String" "value" "[B", .laysFinal "java/lang/String" "java/lang/String" "coder" "B", .fieldLink "java/lang/String" 15 "java/lang/String" "coder" "B"] ++ objW "java/lang/String" 1 ++ staticW "java/lang/String" 177 Cmp3.yN ++ staticW "java/lang/String" 47 CodL.yN
def tab : Cond := tabOf yN yB 6 none site
def P (a : Addr) (D : Cell) (fV fC : Field) (b : Addr) (A : Cell) (z : Int32) (o len : Nat) (args : Array Value) (s : State) : Prop := args = #[.ref a, .ref b, .int (Int32.ofNat o), .int (Int32.ofNat len), .null] ∧ Blank "java/lang/String" a D s ∧ Found "java/lang/String" "value" "[B" fV s ∧ Found "java/lang/String" "coder" "B" fC s ∧ Ch b A s ∧ StaticIs s "java/lang/String" "COMPACT_STRINGS" "Z" (.int z) ∧ ¬ z = 0 ∧ 0 < len ∧ o + len ≤ A.slots.size ∧ len ≤ 536870912 ∧ ∀ i, i < len → ¬ 255 < cv A (o + i)
def E (a : Addr) (D : Cell) (fV fC : Field) (A : Cell) (o len : Nat) (r : Option Value) (s u : State) : Prop := Got a D fV fC A o len r s u
/-- len > 0, no char of the range above 255: a Latin-1 String of their low bytes -/
theorem law (l : Launch) (a : Addr) (D : Cell) (fV fC : Field) (b : Addr) (A : Cell) (z : Int32) (o len : Nat) : Law l yN 5 4 2 35 yB 6 none site (P a D fV fC b A z o len) (E a D fV fC A o len) [⟨a, fC.slot⟩, ⟨a, fV.slot⟩] 1 len := by
  refine Law.of_walk (plainFor_of_name (by decide +kernel)) (by decide +kernel) (by decide +kernel) (by decide) (fun _ _ h => by rw [h.1]; rfl) (fun _ U U' hal hh h => ⟨h.1, h.2.1.mv hal hh, h.2.2.1.al hal, h.2.2.2.1.al hal, h.2.2.2.2.1.mv hal hh, h.2.2.2.2.2.1.there hal hh, h.2.2.2.2.2.2⟩) (fun r U U' V V' h1 hal h2 h => Got.mv r U U' V V' h1 hal h2 h) ?_
  intro p e s m args below meth c s₁ X0 hexec hbytes hml hret hlk hnm hown hh0 W hP
  obtain ⟨rfl, hB, f1, f2, hA, s1, hz, l0, l1, l2, hp⟩ := hP
  have a31 := hA.1.2.2.2
  have c1 : Steps p.tables e below (s₁.setTop (entryFrame m #[.ref a, .ref b, .int (Int32.ofNat o), .int (Int32.ofNat len), .null] 6)) (s₁.setTop (mkF m 0 #[.val (.ref a), .val (.ref b), .val (.int (Int32.ofNat o)), .val (.int (Int32.ofNat len)), .val .null, .unset] [])) := entry rfl
  have c2 : Steps p.tables e below (s₁.setTop (entryFrame m #[.ref a, .ref b, .int (Int32.ofNat o), .int (Int32.ofNat len), .null] 6)) (s₁.setTop (mkF m 1 #[.val (.ref a), .val (.ref b), .val (.int (Int32.ofNat o)), .val (.int (Int32.ofNat len)), .val .null, .unset] [.ref a])) := c1.trans (by
    refine XS.aloadN X0.here hexec rfl (hb hbytes d0) rfl rfl ?_
    exact Steps.refl _)
  obtain ⟨T3, X3, q3, st3⟩ := X0.oinit hexec hown (wks W (objW "java/lang/String" 1)) (g := (mkF m 1 #[.val (.ref a), .val (.ref b), .val (.int (Int32.ofNat o)), .val (.int (Int32.ofNat len)), .val .null, .unset] [.ref a])) rfl (by rw [hml]; rfl) (rest := []) rfl (hb hbytes d1) (W := 0) (by show 2 * 0 + 0 ≤ _; decide) (Nat.le_of_ble_eq_true rfl) (Nat.le_of_ble_eq_true rfl)
  have hh3 := q3.trans hh0
  have c4 : Steps p.tables e below (s₁.setTop (entryFrame m #[.ref a, .ref b, .int (Int32.ofNat o), .int (Int32.ofNat len), .null] 6)) (T3.setTop (mkF m 27 #[.val (.ref a), .val (.ref b), .val (.int (Int32.ofNat o)), .val (.int (Int32.ofNat len)), .val .null, .unset] [])) := (c2.trans (st3 _ (Steps.refl _))).trans (by
    refine XS.iloadN X3.here hexec rfl (hb hbytes d4) rfl ?_
    refine XS.ifYes X3.here hexec rfl (pc0 := 5) rfl (hb hbytes d5) rfl (i0_ne_t (nz32 (by omega) l0)) (by decide) rfl ?_
    exact Steps.refl _)
  obtain ⟨T5, X5, q5, st5⟩ := X3.sget hexec hown (wk W (.fieldLink "java/lang/String" 38 "java/lang/String" "COMPACT_STRINGS" "Z")) s1 (fun _ _ h => by rw [hh3]; exact h) (g := (mkF m 27 #[.val (.ref a), .val (.ref b), .val (.int (Int32.ofNat o)), .val (.int (Int32.ofNat len)), .val .null, .unset] [])) rfl (hb hbytes d27)
  have hh5 := q5.trans hh3
  have c6 : Steps p.tables e below (s₁.setTop (entryFrame m #[.ref a, .ref b, .int (Int32.ofNat o), .int (Int32.ofNat len), .null] 6)) (T5.setTop (mkF m 30 #[.val (.ref a), .val (.ref b), .val (.int (Int32.ofNat o)), .val (.int (Int32.ofNat len)), .val .null, .unset] [.int z])) := c4.trans (st5 _ (Steps.refl _))
  have c7 : Steps p.tables e below (s₁.setTop (entryFrame m #[.ref a, .ref b, .int (Int32.ofNat o), .int (Int32.ofNat len), .null] 6)) (T5.setTop (mkF m 36 #[.val (.ref a), .val (.ref b), .val (.int (Int32.ofNat o)), .val (.int (Int32.ofNat len)), .val .null, .unset] [.int (Int32.ofNat len), .int (Int32.ofNat o), .ref b])) := c6.trans (by
    refine XS.ifNo X5.here hexec rfl (hb hbytes d30) rfl (i0_eq_f hz) ?_
    refine XS.aloadN X5.here hexec rfl (hb hbytes d33) rfl rfl ?_
    refine XS.iloadN X5.here hexec rfl (hb hbytes d34) rfl ?_
    refine XS.iloadN X5.here hexec rfl (hb hbytes d35) rfl ?_
    exact Steps.refl _)
  obtain ⟨v8, T8, X8, E8, g8⟩ := X5.callS hexec (Cmp3.law l b A o len) hown (wks W (staticW "java/lang/String" 177 Cmp3.yN)) (wk W Cmp3.tab) (W := 0) (Nat.le_of_ble_eq_true rfl) (Nat.le_of_ble_eq_true rfl) (Nat.le_refl _) (by show 0 + len ≤ len; omega) (g := (mkF m 36 #[.val (.ref a), .val (.ref b), .val (.int (Int32.ofNat o)), .val (.int (Int32.ofNat len)), .val .null, .unset] [.int (Int32.ofNat len), .int (Int32.ofNat o), .ref b])) rfl (by rw [hml]; rfl) c7 (argsL := [.ref b, .int (Int32.ofNat o), .int (Int32.ofNat len)]) (rest := []) rfl rfl (by show 2 * 0 + 0 ≤ _; decide) (hb hbytes d36) (⟨rfl, hA.mv X5.warmed.alike hh5, l1, l2, hp⟩)
  obtain ⟨e8, z8⟩ := E8
  obtain ⟨rfl, N, n1, n2, n3, n4, n5, n6⟩ := NewArr.mv _ T5 s _ _ hh5.symm (Vm.Alike.refl _) rfl e8
  rw [hh5] at z8
  have hB1 := hB.keep X8.warmed.alike (n6 _ _ hB.1)
  have hne : s.heap.size ≠ a := (Nat.ne_of_lt (Array.getElem?_eq_some_iff.mp hB.1).1).symm
  have c9 : Steps p.tables e below (s₁.setTop (entryFrame m #[.ref a, .ref b, .int (Int32.ofNat o), .int (Int32.ofNat len), .null] 6)) (T8.setTop (mkF m 39 #[.val (.ref a), .val (.ref b), .val (.int (Int32.ofNat o)), .val (.int (Int32.ofNat len)), .val .null, .unset] [.ref s.heap.size])) := g8
  have c10 : Steps p.tables e below (s₁.setTop (entryFrame m #[.ref a, .ref b, .int (Int32.ofNat o), .int (Int32.ofNat len), .null] 6)) (T8.setTop (mkF m 45 #[.val (.ref a), .val (.ref b), .val (.int (Int32.ofNat o)), .val (.int (Int32.ofNat len)), .val .null, .val (.ref s.heap.size)] [.int (Int32.ofNat N.slots.size), .ref s.heap.size, .ref a])) := by
    have hc : Steps p.tables e below (s₁.setTop (entryFrame m #[.ref a, .ref b, .int (Int32.ofNat o), .int (Int32.ofNat len), .null] 6)) (T8.setTop (mkF m 45 #[.val (.ref a), .val (.ref b), .val (.int (Int32.ofNat o)), .val (.int (Int32.ofNat len)), .val .null, .val (.ref s.heap.size)] [.int (Int32.ofNat len), .ref s.heap.size, .ref a])) := c9.trans (by
      refine XS.astore X8.here hexec rfl (hb hbytes d39) rfl rfl rfl ?_
      refine XS.aloadN X8.here hexec rfl (hb hbytes d41) rfl rfl ?_
      refine XS.aload X8.here hexec rfl (hb hbytes d42) rfl rfl ?_
      refine XS.iloadN X8.here hexec rfl (hb hbytes d44) rfl ?_
      exact Steps.refl _)
    rw [n4]; exact hc
  obtain ⟨v11, T11, X11, E11, g11⟩ := X8.callS hexec (CodL.law l s.heap.size N) hown (wks W (staticW "java/lang/String" 47 CodL.yN)) (wk W CodL.tab) (W := 1) (Nat.le_of_ble_eq_true rfl) (Nat.le_of_ble_eq_true rfl) (Nat.le_refl _) (by show 0 + len + 0 ≤ len; omega) (g := (mkF m 45 #[.val (.ref a), .val (.ref b), .val (.int (Int32.ofNat o)), .val (.int (Int32.ofNat len)), .val .null, .val (.ref s.heap.size)] [.int (Int32.ofNat N.slots.size), .ref s.heap.size, .ref a])) rfl (by rw [hml]; rfl) c10 (argsL := [.ref s.heap.size, .int (Int32.ofNat N.slots.size)]) (rest := [.ref a]) rfl rfl (by show 2 * 0 + (1 + 0) ≤ _; decide) (hb hbytes d45) (⟨rfl, n1⟩)
  obtain ⟨rfl, q11⟩ := E11
  have hB11 := hB1.mv (X8.warmed.alike.symm.trans X11.warmed.alike) q11
  have c12 : Steps p.tables e below (s₁.setTop (entryFrame m #[.ref a, .ref b, .int (Int32.ofNat o), .int (Int32.ofNat len), .null] 6)) (T11.setTop (mkF m 48 #[.val (.ref a), .val (.ref b), .val (.int (Int32.ofNat o)), .val (.int (Int32.ofNat len)), .val .null, .val (.ref s.heap.size)] [.int 0, .ref a])) := g11
  obtain ⟨T13, X13, p13, bl13, sl13, st13⟩ := X11.finit hexec hown (wk W (.fieldLink "java/lang/String" 15 "java/lang/String" "coder" "B")) (Or.inr ⟨_, (wk W (.laysFinal "java/lang/String" "java/lang/String" "coder" "B"))⟩) (Or.inl ⟨rfl, hnm⟩) f2 (Or.inl rfl) hB11 (t := .byte) (by decide +kernel) rfl (g := (mkF m 48 #[.val (.ref a), .val (.ref b), .val (.int (Int32.ofNat o)), .val (.int (Int32.ofNat len)), .val .null, .val (.ref s.heap.size)] [.int 0, .ref a])) rfl (rest := []) rfl (hb hbytes d48)
  have c14 : Steps p.tables e below (s₁.setTop (entryFrame m #[.ref a, .ref b, .int (Int32.ofNat o), .int (Int32.ofNat len), .null] 6)) (T13.setTop (mkF m 54 #[.val (.ref a), .val (.ref b), .val (.int (Int32.ofNat o)), .val (.int (Int32.ofNat len)), .val .null, .val (.ref s.heap.size)] [.ref s.heap.size, .ref a])) := (c12.trans (st13 _ (Steps.refl _))).trans (by
    refine XS.aloadN X13.here hexec rfl (hb hbytes d51) rfl rfl ?_
    refine XS.aload X13.here hexec rfl (hb hbytes d52) rfl rfl ?_
    exact Steps.refl _)
  obtain ⟨T15, X15, p15, bl15, sl15, st15⟩ := X13.finit hexec hown (wk W (.fieldLink "java/lang/String" 9 "java/lang/String" "value" "[B")) (Or.inr ⟨_, (wk W (.laysFinal "java/lang/String" "java/lang/String" "value" "[B"))⟩) (Or.inl ⟨rfl, hnm⟩) f1 (Or.inl rfl) bl13 (t := (.array .byte)) (by decide +kernel) rfl (g := (mkF m 54 #[.val (.ref a), .val (.ref b), .val (.int (Int32.ofNat o)), .val (.int (Int32.ofNat len)), .val .null, .val (.ref s.heap.size)] [.ref s.heap.size, .ref a])) rfl (rest := []) rfl (hb hbytes d54)
  have c16 : Steps p.tables e below (s₁.setTop (entryFrame m #[.ref a, .ref b, .int (Int32.ofNat o), .int (Int32.ofNat len), .null] 6)) (T15.setTop (mkF m 57 #[.val (.ref a), .val (.ref b), .val (.int (Int32.ofNat o)), .val (.int (Int32.ofNat len)), .val .null, .val (.ref s.heap.size)] [])) := c14.trans (st15 _ (Steps.refl _))
  have ap := apart (Or.inr ⟨_, (wk W (.laysFinal "java/lang/String" "java/lang/String" "value" "[B"))⟩) (Or.inr ⟨_, (wk W (.laysFinal "java/lang/String" "java/lang/String" "coder" "B"))⟩) f1 f2 (t₁ := .array .byte) (t₂ := .byte) (by decide +kernel) (by decide +kernel) (by decide)
  have al := X8.warmed.alike.symm.trans X15.warmed.alike
  have n7 : T11.heap[s.heap.size]? = some N := by rw [q11]; exact n1.1
  exact ⟨T15, none, _, _, _, X15, by simp, rfl, by omega, (fun _ => rfl), ⟨rfl, _, N, bl15, ((Same.refl D _).set _ (by simp)).set _ (by simp), sl15, (Cell.slots_setSlot_ne _ ap).trans sl13, n1.keep al (p15.other hne (p13.other hne n7)), n2, by rw [al.findClass]; exact n3, n4, n5, fun y c h1 h2 => p15.other h1 (p13.other h1 (by rw [q11]; exact n6 y c h2)), by rw [p15.2.2, p13.2.2, q11]; exact z8⟩, fun fs hl => c16.trans (X15.returnOut hexec hret (hb hbytes d57) hl)⟩
end New4
namespace New1
def yN : MethodName := ⟨"java/lang/String", "<init>", "([C)V"⟩
abbrev yB : ByteArray := jdk_42_method_3_code
theorem d0 : decode yB 0 = .ok (.aload_n 0, 1) := by decide +kernel
theorem d1 : decode yB 1 = .ok (.aload_n 1, 1) := by decide +kernel
theorem d2 : decode yB 2 = .ok (.iconst 0, 1) := by decide +kernel
theorem d3 : decode yB 3 = .ok (.aload_n 1, 1) := by decide +kernel
theorem d4 : decode yB 4 = .ok (.arraylength, 1) := by decide +kernel
theorem d5 : decode yB 5 = .ok (.aconst_null, 1) := by decide +kernel
theorem d6 : decode yB 6 = .ok (.invokespecial 27, 3) := by decide +kernel
theorem d9 : decode yB 9 = .ok (.return_, 1) := by decide +kernel
def site : List Cond := [New4.tab] ++ initW "java/lang/String" 27 New4.yN
def tab : Cond := tabOf yN yB 2 none site
def P (a : Addr) (D : Cell) (fV fC : Field) (b : Addr) (A : Cell) (z : Int32) (args : Array Value) (s : State) : Prop := args = #[.ref a, .ref b] ∧ Blank "java/lang/String" a D s ∧ Found "java/lang/String" "value" "[B" fV s ∧ Found "java/lang/String" "coder" "B" fC s ∧ Ch b A s ∧ StaticIs s "java/lang/String" "COMPACT_STRINGS" "Z" (.int z) ∧ ¬ z = 0 ∧ 0 < A.slots.size ∧ A.slots.size ≤ 536870912 ∧ ∀ i, i < A.slots.size → ¬ 255 < cv A i
def E (a : Addr) (D : Cell) (fV fC : Field) (A : Cell) (r : Option Value) (s u : State) : Prop := Got a D fV fC A 0 A.slots.size r s u
/-- new String(chars), not empty, no char above 255: a Latin-1 String of their low bytes -/
theorem law (l : Launch) (a : Addr) (D : Cell) (fV fC : Field) (b : Addr) (A : Cell) (z : Int32) : Law l yN 2 1 3 52 yB 2 none site (P a D fV fC b A z) (E a D fV fC A) [⟨a, fC.slot⟩, ⟨a, fV.slot⟩] 1 A.slots.size := by
  refine Law.of_walk (plainFor_of_name (by decide +kernel)) (by decide +kernel) (by decide +kernel) (by decide) (fun _ _ h => by rw [h.1]; rfl) (fun _ U U' hal hh h => ⟨h.1, h.2.1.mv hal hh, h.2.2.1.al hal, h.2.2.2.1.al hal, h.2.2.2.2.1.mv hal hh, h.2.2.2.2.2.1.there hal hh, h.2.2.2.2.2.2⟩) (fun r U U' V V' h1 hal h2 h => Got.mv r U U' V V' h1 hal h2 h) ?_
  intro p e s m args below meth c s₁ X0 hexec hbytes hml hret hlk hnm hown hh0 W hP
  obtain ⟨rfl, hB, f1, f2, hA, s1, hz, l0, l2, hp⟩ := hP
  have c1 : Steps p.tables e below (s₁.setTop (entryFrame m #[.ref a, .ref b] 2)) (s₁.setTop (mkF m 0 #[.val (.ref a), .val (.ref b)] [])) := entry rfl
  have c2 : Steps p.tables e below (s₁.setTop (entryFrame m #[.ref a, .ref b] 2)) (s₁.setTop (mkF m 6 #[.val (.ref a), .val (.ref b)] [.null, .int (Int32.ofNat A.slots.size), .int 0, .ref b, .ref a])) := c1.trans (by
    refine XS.aloadN X0.here hexec rfl (hb hbytes d0) rfl rfl ?_
    refine XS.aloadN X0.here hexec rfl (hb hbytes d1) rfl rfl ?_
    refine iconstV X0.here hexec rfl 0 (hb hbytes d2) (by decide) ?_
    refine XS.aloadN X0.here hexec rfl (hb hbytes d3) rfl rfl ?_
    refine X0.alen hexec (hA.1.mv X0.warmed.alike hh0) rfl rfl (hb hbytes d4) ?_
    refine XS.aconstNull X0.here hexec rfl (hb hbytes d5) ?_
    exact Steps.refl _)
  obtain ⟨v3, T3, X3, E3, g3⟩ := X0.callN hexec (New4.law l a D fV fC b A z 0 A.slots.size) rfl hown (wks W (initW "java/lang/String" 27 New4.yN)) (W New4.tab (by simp only [site, List.mem_cons, List.mem_append, true_or, or_true])) (W := 0) (Nat.le_of_ble_eq_true rfl) (Nat.le_of_ble_eq_true rfl) (Nat.le_refl _) (by show 0 + A.slots.size ≤ A.slots.size; omega) (g := (mkF m 6 #[.val (.ref a), .val (.ref b)] [.null, .int (Int32.ofNat A.slots.size), .int (Int32.ofNat 0), .ref b, .ref a])) rfl (by rw [hml]; rfl) c2 (argsL := [.ref b, .int (Int32.ofNat 0), .int (Int32.ofNat A.slots.size), .null]) (rest := []) rfl rfl (by show 2 * 0 + 0 ≤ _; decide) (hb hbytes d6) (⟨rfl, hB.mv X0.warmed.alike hh0, f1.al X0.warmed.alike, f2.al X0.warmed.alike, hA.mv X0.warmed.alike hh0, s1.there X0.warmed.alike hh0, hz, l0, by omega, l2, fun i hi => by rw [Nat.zero_add]; exact hp i hi⟩)
  have e0 := Got.mv _ s₁ s _ _ hh0.symm (Vm.Alike.refl _) rfl E3
  obtain rfl := e0.1
  have c4 : Steps p.tables e below (s₁.setTop (entryFrame m #[.ref a, .ref b] 2)) (T3.setTop (mkF m 9 #[.val (.ref a), .val (.ref b)] [])) := g3
  exact ⟨T3, none, _, _, _, X3, by simp, rfl, by omega, (fun _ => rfl), e0, fun fs hl => c4.trans (X3.returnOut hexec hret (hb hbytes d9) hl)⟩
theorem pays {l : Launch} {R : Room} {p : Program} {e : Env} {below : List Frame} {s : State} {sargs : Array Value} {len W : Nat} (a : Addr) (D : Cell) (fV fC : Field) (b : Addr) (A : Cell) (z : Int32) (htab : tab.before sargs s = true) (hfr : 4 ≤ R.frames) (hlo : W + 65 ≤ R.locals) :
    Back l R p e below s sargs yN len W (fun A₁ a₁ => A₁.cells + 1 ≤ R.cells ∧ A₁.slots + A.slots.size ≤ R.slots ∧ P a D fV fC b A z a₁ A₁.U) (fun A₁ _ v₁ B₁ => E a D fV fC A v₁ A₁.U B₁.U ∧ B₁.locs = A₁.locs ++ [⟨a, fC.slot⟩, ⟨a, fV.slot⟩] ∧ B₁.cells = A₁.cells + 1 ∧ B₁.slots = A₁.slots + A.slots.size) :=
  (law l a D fV fC b A z).pays htab hfr (by omega)
end New1
/-- the byte, read back as charAt reads it, is the char -/
theorem lo8_mask {x : Int32} (h0 : ¬ x < 0) (h1 : ¬ 255 < x) : lo8 x &&& 255 = x := by
  have t : ∀ k : Fin 256, lo8 (Int32.ofNat k.val) &&& 255 = Int32.ofNat k.val := by decide +kernel
  rw [Int32.lt_iff_toInt_lt] at h0 h1
  have e0 : (0 : Int32).toInt = 0 := rfl
  have e1 : (255 : Int32).toInt = 255 := rfl
  obtain ⟨k, hk⟩ : ∃ k : Nat, x.toInt = k := ⟨x.toInt.toNat, by omega⟩
  have hx : x = Int32.ofNat k := Int32.toInt_inj.mp (by rw [hk, Int32.toInt_ofNat_small (by omega)])
  rw [hx]
  exact t ⟨k, by omega⟩
end StrChars
namespace StrChars.Road
open Jvm Sem ClassFile Op Lib Jvm.Stand Jvm.Free Jvm.Free.XT
open Jvm.Lib.Cold (StaticIs)
abbrev ST : String := "java/lang/String"
/-- every table word that New1's law asks, flat -/
abbrev words : List Jvm.Cond := [.code New1.yN New1.yB 2 none, .initialized ST, .methodLink ST 27 New4.yN, .instanceMethod New4.yN,
  .code New4.yN New4.yB 6 none, .fieldLink ST 38 ST "COMPACT_STRINGS" "Z", .laysFinal ST ST "value" "[B", .fieldLink ST 9 ST "value" "[B", .laysFinal ST ST "coder" "B", .fieldLink ST 15 ST "coder" "B",
  .methodLink ST 1 Lib.objectInit, .instanceMethod Lib.objectInit, .code Lib.objectInit ⟨#[0xb1]⟩ 1 none, .methodLink ST 177 Cmp3.yN, .static Cmp3.yN, .methodLink ST 47 CodL.yN, .static CodL.yN,
  .code Cmp3.yN Cmp3.yB 6 (some (.array .byte)), .initialized U16, .arrayClass .byte, .methodLink U16 115 Cmp5.yN, .static Cmp5.yN, .code Cmp5.yN Cmp5.yB 7 (some .int), .code CodL.yN CodL.yB 2 (some .byte)]
theorem tab_of {a : Array Value} {s : State} (h : ∀ w ∈ words, w.before a s = true) : New1.tab.before a s = true := by
  have h5 : Cmp5.tab.before a s = true := unparts (wk h (.code Cmp5.yN Cmp5.yB 7 (some .int))) (wks h (.initialized Cmp5.yN.cls :: Cmp5.site))
  have hc : CodL.tab.before a s = true := unparts (wk h (.code CodL.yN CodL.yB 2 (some .byte))) (wks h (.initialized CodL.yN.cls :: CodL.site))
  have q5 : ∀ w ∈ Cmp5.tab :: words, w.before a s = true := fun w hw => (List.mem_cons.mp hw).elim (fun e => e ▸ h5) (h w)
  have h3 : Cmp3.tab.before a s = true := unparts (wk q5 (.code Cmp3.yN Cmp3.yB 6 (some (.array .byte)))) (wks q5 (.initialized Cmp3.yN.cls :: Cmp3.site))
  have q3 : ∀ w ∈ Cmp3.tab :: CodL.tab :: words, w.before a s = true := fun w hw => (List.mem_cons.mp hw).elim (fun e => e ▸ h3) fun hw => (List.mem_cons.mp hw).elim (fun e => e ▸ hc) (h w)
  have h4 : New4.tab.before a s = true := unparts (wk q3 (.code New4.yN New4.yB 6 none)) (wks q3 (.initialized New4.yN.cls :: New4.site))
  have q4 : ∀ w ∈ New4.tab :: words, w.before a s = true := fun w hw => (List.mem_cons.mp hw).elim (fun e => e ▸ h4) (h w)
  exact unparts (wk q4 (.code New1.yN New1.yB 2 none)) (wks q4 (.initialized New1.yN.cls :: New1.site))
/-- the words ride from the start Z to the walk's own state -/
theorem moved {Z s : State} {a0 args : Array Value} (hZ : Z.Warmed39 s.vm) (hw : ∀ d ∈ words, d.before a0 Z = true) : ∀ d ∈ words, d.before args s = true := fun d hd => by
  have q := hw d hd
  have t : ∀ d ∈ words, d = .arrayClass .byte ∨ (d.onTables && d.keepsFace) = true := by decide +kernel
  rcases t d hd with rfl | t
  · exact RoadKit.mvA hZ q
  · exact RoadKit.mv hZ q t
/-- WHAT COMES BACK, over the tables of the start Z: h the heap at the call, h' behind it -/
def Q (Z : State) (x : Addr) (A : Cell) (h : Heap) (v : Option Value) (h' : Heap) (L : List Loc) : Prop := v = none ∧ (∀ y ∈ L, y.base = x) ∧ RoadKit.Keep h h' [x] ∧ h'.size = h.size + 1 ∧ RoadKit.Exa Z h' x ST ∧ RoadKit.Fld Z h' x ST "value" "[B" (.ref h.size) ∧ RoadKit.Fld Z h' x ST "coder" "B" (.int 0) ∧
  (∃ V : Cell, RoadKit.Arr Z h' h.size V .byte ∧ V.vm = .none ∧ Z.vm.findClass "[B" = some V.cls ∧ V.slots.size = A.slots.size ∧ ∀ j, j < A.slots.size → V.slots[j]? = some (.int (lo8 (cv A j)))) ∧
  ∀ (O n d : String) (w : Value), RoadKit.Fld Z h x O n d w → RoadKit.slotOf Z O n d ≠ RoadKit.slotOf Z ST "value" "[B" → RoadKit.slotOf Z O n d ≠ RoadKit.slotOf Z ST "coder" "B" → RoadKit.Fld Z h' x O n d w
/-- **new String(chars) AT A CALL, IN THE ROAD'S FORM**: for specialBack behind newO: x the fresh String, b the char[] with the cell A -/
theorem back {p : Program} {l : Launch} {e : Env} {R : Room} {s : State} {args : Array Value} {below : List Frame} {len W : Nat} {Z : State} {a0 : Array Value} {h : Heap} (hZ : Z.Warmed39 s.vm) (hw : ∀ d ∈ words, d.before a0 Z = true) {kI : Nat} (wi : (Jvm.Cond.instantiable ST kI).before a0 Z = true)
    {x b : Addr} {A : Cell} {z : Int32} {v0 c0 : Value} (E : RoadKit.Exa Z h x ST) (V : RoadKit.Fld Z h x ST "value" "[B" v0) (C : RoadKit.Fld Z h x ST "coder" "B" c0) (K : RoadKit.Arr Z h b A .char) (hty : Typed .char A) (S : RoadKit.Sta Z h ST "COMPACT_STRINGS" "Z" (.int z)) (hz : ¬ z = 0)
    (l0 : 0 < A.slots.size) (l2 : A.slots.size ≤ 536870912) (hp : ∀ i, i < A.slots.size → ¬ 255 < cv A i) (hfr : 4 ≤ R.frames) (hlo : W + 65 ≤ R.locals) :
    Back l R p e below s args New1.yN len W (fun P a => a = #[.ref x, .ref b] ∧ P.U.heap = h ∧ P.cells + 1 ≤ R.cells ∧ P.slots + A.slots.size ≤ R.slots)
      (fun P _ v B => ∃ L, Q Z x A h v B.U.heap L ∧ B.locs = P.locs ++ L ∧ B.cells = P.cells + 1 ∧ B.slots = P.slots + A.slots.size) := by
  intro m meth c P g ig mk a X hg hsize hdg hW hn hp'
  obtain ⟨rfl, rfl, r1, r2⟩ := hp'
  have al : Z.vm.Alike P.U.vm := hZ.alike.trans X.warmed.alike
  obtain ⟨D, cfV, kV, iV, fV, hD, gV, stV, knV, obV, asV, slV⟩ := id V
  obtain ⟨D', cfC, kC, iC, fC, hD', gC, stC, -, -, asC, slC⟩ := id C
  cases hD.symm.trans hD'
  obtain ⟨D2, kD, e1, e2, e3, e4, e5⟩ := id E
  cases hD.symm.trans e1
  obtain ⟨c2, k2, i1, i2, i3, -⟩ := Cond.instantiable_spec wi
  cases e2.symm.trans i1
  cases e3.symm.trans i2
  obtain ⟨kU, u1, u2⟩ := al.2.2 _ _ e3
  have hB : Blank ST x D P.U := ⟨hD, ⟨knV, fun q hq => by rw [hq] at obV; cases obV⟩, by rw [al.findClass]; exact e2, kU, u1, by rw [u2]; exact i3, by rw [u2]; exact e5 i3⟩
  have F1 : Found ST "value" "[B" fV P.U := ⟨SBG.found_only al ⟨cfV, kV, iV, gV⟩, stV⟩
  have F2 : Found ST "coder" "B" fC P.U := ⟨SBG.found_only al ⟨cfC, kC, iC, gC⟩, stC⟩
  have hA : Ch b A P.U := ⟨⟨K.1, State.isArrayOf_alike al K.2.1, K.2.2, by omega⟩, hty⟩
  have hS : StaticIs P.U ST "COMPACT_STRINGS" "Z" (.int z) := by
    obtain ⟨cfS, iS, kS, fS, st, cS, t1, t2, t3, t4, t5, t6, t7⟩ := S
    exact StaticIs.there (s := { Z with heap := P.U.heap }) ⟨cfS, iS, kS, fS, st, cS, t1, t2, t3, t4, t5, (fun q => by rw [q] at t6; cases t6), t7⟩ al rfl
  obtain ⟨v, B, X', ⟨⟨hv, E', V', q1, q2, q3, q4, q5, q6, q7, q8, q9, q10, q11⟩, hl, hc, hs⟩, st⟩ := New1.pays x D fV fC b A z (tab_of (moved hZ hw)) hfr hlo m meth c P g ig mk _ X hg hsize hdg hW hn ⟨r1, r2, rfl, hB, F1, F2, hA, hS, hz, l0, l2, hp⟩
  have al' : Z.vm.Alike B.U.vm := hZ.alike.trans X'.warmed.alike
  have hsz : E'.slots.size = D.slots.size := by
    obtain ⟨-, -, -, kB, w1, w2, w3⟩ := q1
    obtain ⟨kB', y1, y2⟩ := al'.2.2 _ _ e3
    rw [q2.2.1] at w1
    cases w1.symm.trans y1
    rw [w3, e5 i3, y2]
  refine ⟨v, B, X', ⟨_, ⟨hv, ?_, ⟨by omega, fun y cy hy hn' => q10 y cy (by simpa using hn') hy, fun y cy hy => ?_⟩, q11, ⟨E', _, q1.1, by rw [q2.2.1]; exact e2, by rw [q2.2.1]; exact e3, by rw [q2.1]; exact obV, fun _ => by rw [hsz]; exact e5 i3⟩,
    ⟨E', cfV, kV, iV, fV, q1.1, gV, stV, by rw [q2.1]; exact knV, by rw [q2.1]; exact obV, by rw [q2.2.1]; exact asV, q3⟩, ⟨E', cfC, kC, iC, fC, q1.1, gC, stC, by rw [q2.1]; exact knV, by rw [q2.1]; exact obV, by rw [q2.2.1]; exact asC, q4⟩,
    ⟨V', ⟨q5.1, State.isArrayOf_alike al'.symm q5.2.1, q5.2.2.1⟩, q6, by rw [← al'.findClass]; exact q7, q8, fun j hj => by have := q9 j hj; rwa [Nat.zero_add] at this⟩, fun O n d w F n1 n2 => ?_⟩, hl, hc, hs⟩, st⟩
  · intro y hy
    simp only [List.mem_cons, List.not_mem_nil, or_false] at hy
    rcases hy with rfl | rfl <;> rfl
  · by_cases q : y = x
    · subst q
      cases hD.symm.trans hy
      exact ⟨E', q1.1, q2.2.1, q2.1, hsz⟩
    · exact ⟨cy, q10 y cy q hy, rfl, rfl, rfl⟩
  · obtain ⟨D3, cf, k, i, f, g1, g2, g3, g4, g5, g6, g7⟩ := F
    cases hD.symm.trans g1
    simp only [RoadKit.slotOf, g2, gV, gC, Option.map_some, Option.getD_some] at n1 n2
    exact ⟨E', cf, k, i, f, q1.1, g2, g3, by rw [q2.1]; exact g4, by rw [q2.1]; exact g5, by rw [q2.2.1]; exact g6, by rw [q2.2.2 f.slot (by simp [n1, n2])]; exact g7⟩
end StrChars.Road
namespace StrChars.Road
open Jvm Sem ClassFile Op Lib Jvm.Stand Jvm.Free Jvm.Free.XT
/-- WHAT COMES BACK, the byte[] as a list of values -/
def QA (Z : State) (x : Addr) (zn : Int32) (cs : List Int32) (h : Heap) (v : Option Value) (h' : Heap) (L : List Loc) : Prop := v = none ∧ (∀ y ∈ L, y.base = x) ∧ RoadKit.Keep h h' [x] ∧ h'.size = h.size + 1 ∧ RoadKit.Exa Z h' x ST ∧ RoadKit.Fld Z h' x ST "value" "[B" (.ref h.size) ∧ RoadKit.Fld Z h' x ST "coder" "B" (.int 0) ∧
  (∃ kb, Z.vm.findClass "[B" = some kb ∧ RoadKit.Arv Z h' h.size kb .byte zn (cs.map fun c => .int (lo8 c)) (.int 0)) ∧
  ∀ (O n d : String) (w : Value), RoadKit.Fld Z h x O n d w → RoadKit.slotOf Z O n d ≠ RoadKit.slotOf Z ST "value" "[B" → RoadKit.slotOf Z O n d ≠ RoadKit.slotOf Z ST "coder" "B" → RoadKit.Fld Z h' x O n d w
/-- **new String(chars) AT A CALL, THE ARRAYS AS LISTS**: the char[] at b holds cs, not empty, no char above 255 -/
theorem backArv {p : Program} {l : Launch} {e : Env} {R : Room} {s : State} {args : Array Value} {below : List Frame} {len W : Nat} {Z : State} {a0 : Array Value} {h : Heap} (hZ : Z.Warmed39 s.vm) (hw : ∀ d ∈ words, d.before a0 Z = true) {kI : Nat} (wi : (Jvm.Cond.instantiable ST kI).before a0 Z = true)
    {x b : Addr} {k : ClassId} {zn z : Int32} {cs : List Int32} {dv v0 c0 : Value} (E : RoadKit.Exa Z h x ST) (V : RoadKit.Fld Z h x ST "value" "[B" v0) (C : RoadKit.Fld Z h x ST "coder" "B" c0) (K : RoadKit.Arv Z h b k .char zn (cs.map Value.int) dv) (S : RoadKit.Sta Z h ST "COMPACT_STRINGS" "Z" (.int z)) (hz : ¬ z = 0)
    (hlen : zn.toNatClampNeg = cs.length) (h0 : 0 < cs.length) (hbig : cs.length ≤ 536870912) (hall : ∀ c ∈ cs, ¬ 255 < c) (hfr : 4 ≤ R.frames) (hlo : W + 65 ≤ R.locals) :
    Back l R p e below s args New1.yN len W (fun P a => a = #[.ref x, .ref b] ∧ P.U.heap = h ∧ P.cells + 1 ≤ R.cells ∧ P.slots + cs.length ≤ R.slots)
      (fun P _ v B => ∃ L, QA Z x zn cs h v B.U.heap L ∧ B.locs = P.locs ++ L ∧ B.cells = P.cells + 1 ∧ B.slots = P.slots + cs.length) := by
  obtain ⟨A, K1, K2, K3, K4, K5, K6⟩ := K
  have e : A.slots.size = cs.length := K3.trans hlen
  have hat : ∀ (i : Nat) (hi : i < cs.length), A.slots[i]? = some (.int cs[i]) := fun i hi => by rw [K5 i (by omega)]; simp [List.getD_eq_getElem?_getD, hi]
  have hcv : ∀ (i : Nat) (hi : i < cs.length), cv A i = cs[i] := fun i hi => by unfold cv; rw [hat i hi]
  have hty : Typed .char A := fun i v hv => by
    have hi : i < A.slots.size := (Array.getElem?_eq_some_iff.mp hv).1
    have q := K5 i hi
    rw [hv] at q
    rw [Option.some.inj q]
    exact K6 i hi
  refine Back.mono (back hZ hw wi E V C K1 hty S hz (by omega) (by omega) (fun i hi => by rw [hcv i (by omega)]; exact hall _ (List.getElem_mem _)) hfr hlo) (fun P a hp => ⟨hp.1, hp.2.1, hp.2.2.1, by rw [e]; exact hp.2.2.2⟩) (fun P a v B hp hq => ?_)
  obtain ⟨L, ⟨q1, q2, q3, q4, q5, q6, q7, ⟨V', v1, v2, v3, v4, v5⟩, q9⟩, hl, hc, hs⟩ := hq
  refine ⟨L, ⟨q1, q2, q3, q4, q5, q6, q7, ⟨V'.cls, v3, V', v1, rfl, by rw [v4, e, hlen], K4, fun i hi => ?_, fun i hi => ?_⟩, q9⟩, hl, hc, by rw [hs, e]⟩
  · have hi' : i < cs.length := by omega
    rw [v5 i (by omega), hcv i hi']; simp [List.getD_eq_getElem?_getD, hi']
  · have hi' : i < cs.length := by omega
    simp only [List.getD_eq_getElem?_getD, List.getElem?_map, List.getElem?_eq_getElem hi', Option.map_some, Option.getD_some]
    exact fits_lo8 _
end StrChars.Road
namespace StrChars.Road
open Jvm Sem ClassFile Op Lib Jvm.Stand Jvm.Free Jvm.Free.XT
/-- WHAT COMES BACK, in the writer's own shape -/
def QV (Z : State) (x : Addr) (N : Int32) (bs : List Int32) (h : Heap) (n0 : Nat) (v : Option Value) (h' : Heap) (L : List Loc) : Prop := v = none ∧ RoadKit.Fr n0 L ∧ RoadKit.Keep h h' [x] ∧ RoadKit.Exa Z h' x ST ∧ RoadKit.Fld Z h' x ST "coder" "B" (.int 0) ∧
  ∃ (t : Addr) (kb : ClassId), n0 ≤ t ∧ h.size ≤ t ∧ ¬ t = x ∧ RoadKit.Fld Z h' x ST "value" "[B" (.ref t) ∧ RoadKit.Arv Z h' t kb .byte N (bs.map Value.int) (.int 0)
/-- **new String(chars) AT A CALL, FOR THE WRITER**: a char[] of n known ints, each 0 to 255 -/
theorem backV {p : Program} {l : Launch} {e : Env} {R : Room} {s : State} {args : Array Value} {below : List Frame} {len W : Nat} {Z : State} {a0 : Array Value} {h : Heap} (hZ : Z.Warmed39 s.vm) (hw : ∀ d ∈ words, d.before a0 Z = true) {kI : Nat} (wi : (Jvm.Cond.instantiable ST kI).before a0 Z = true)
    {x b : Addr} {kC : ClassId} {cs bs : List Int32} {d v0 c0 : Value} {z N : Int32} {n n0 : Nat} (hx0 : n0 ≤ x) (hh0 : n0 ≤ h.size) (E : RoadKit.Exa Z h x ST) (V : RoadKit.Fld Z h x ST "value" "[B" v0) (C : RoadKit.Fld Z h x ST "coder" "B" c0) (K : RoadKit.Arv Z h b kC .char N (cs.map Value.int) d) (S : RoadKit.Sta Z h ST "COMPACT_STRINGS" "Z" (.int z)) (hz : ¬ z = 0)
    (hn : cs.length = n) (hN : N = Int32.ofNat n) (l0 : 0 < n) (l2 : n ≤ 4000) (hp : ∀ c ∈ cs, ¬ c < 0 ∧ ¬ (255 : Int32) < c) (hb : bs = cs.map (fun c => c.toInt8.toInt32)) (hfr : 4 ≤ R.frames) (hlo : W + 65 ≤ R.locals) :
    Back l R p e below s args (⟨"java/lang/String", "<init>", "([C)V"⟩ : MethodName) len W (fun P a => a = #[.ref x, .ref b] ∧ P.U.heap = h ∧ P.cells + 1 ≤ R.cells ∧ P.slots + n ≤ R.slots)
      (fun P _ v B => ∃ L, QV Z x N bs h n0 v B.U.heap L ∧ B.locs = P.locs ++ L ∧ B.cells = P.cells + 1 ∧ B.slots = P.slots + n) := by
  subst hn hN hb
  refine Back.mono (backArv hZ hw wi E V C K S hz (n32 (by omega)) l0 (by omega) (fun c hc => (hp c hc).2) hfr hlo) (fun P a hp => hp) (fun P a v B hp hq => ?_)
  obtain ⟨L, ⟨q1, q2, q3, q4, q5, q6, q7, ⟨kb, v1, v2⟩, q9⟩, hl, hc, hs⟩ := hq
  exact ⟨L, ⟨q1, fun y hy => by rw [q2 y hy]; exact hx0, q3, q5, q7, h.size, kb, hh0, Nat.le_refl _, Nat.ne_of_gt E.lt, q6, by rw [List.map_map]; exact v2⟩, hl, hc, hs⟩
end StrChars.Road
namespace StrChars
open Jvm Sem ClassFile Op Lib Jvm.Stand Jvm.Free.XT Jvm.Free.ALB Jvm.Free.JM Jvm.Free
open Jvm.Lib.Cold (StaticIs)
def hi8 (x : Int32) : Int32 := lo8 (x >>> ((8 : Int32) &&& 31))
/-- what StringUTF16.getChar makes of two bytes -/
def pairCh (u v : Int32) : Int32 := (((u &&& 255) <<< ((0 : Int32) &&& 31)) ||| ((v &&& 255) <<< ((8 : Int32) &&& 31))).toUInt32.toUInt16.toUInt32.toInt32
theorem lo8_and (x : Int32) : (lo8 x &&& 255).toBitVec.toNat = x.toBitVec.toNat % 256 := by
  have h : (lo8 x).toBitVec = (x.toBitVec.signExtend 8).signExtend 32 := by rw [lo8, Int8.toBitVec_toInt32, Int32.toBitVec_toInt8]
  rw [Int32.toBitVec_and, BitVec.toNat_and, h]
  have e : ((x.toBitVec.signExtend 8).signExtend 32).toNat % 256 = x.toBitVec.toNat % 256 := by
    rw [BitVec.toNat_signExtend]
    have hlt := x.toBitVec.isLt
    simp only [BitVec.toNat_setWidth, BitVec.toNat_signExtend]
    split <;> split <;> omega
  rw [← e]
  exact Nat.and_two_pow_sub_one_eq_mod _ 8
theorem pair_says {c : Int32} (h0 : ¬ c < 0) (h1 : ¬ 65535 < c) : pairCh (lo8 c) (hi8 c) = c := by
  rw [Int32.lt_iff_toInt_lt] at h0 h1
  have e0 : (0 : Int32).toInt = 0 := rfl
  have e1 : (65535 : Int32).toInt = 65535 := rfl
  have hc : c.toInt = c.toBitVec.toNat := by
    have := c.toBitVec.isLt
    have e : c.toInt = c.toBitVec.toInt := rfl
    rw [e] at h0 h1
    rw [e]
    rw [BitVec.toInt_eq_toNat_cond] at h0 h1 ⊢
    split at h0 <;> split <;> omega
  have hn : c.toBitVec.toNat < 65536 := by omega
  have a1 := lo8_and c
  have a2 : (hi8 c &&& 255).toBitVec.toNat = c.toBitVec.toNat / 256 := by
    rw [hi8, lo8_and]
    have e : ((8 : Int32) &&& 31) = 8 := by decide
    rw [e, Int32.toBitVec_shiftRight]
    have e2 : ((8 : Int32).toBitVec.smod 32) = 8#32 := by decide
    rw [e2, BitVec.sshiftRight_eq', BitVec.toNat_sshiftRight_of_msb_false (by rw [BitVec.msb_eq_false_iff_two_mul_lt]; omega)]
    show c.toBitVec.toNat >>> 8 % 256 = _
    rw [Nat.shiftRight_eq_div_pow]
    omega
  unfold pairCh
  apply Int32.toBitVec_inj.mp
  apply BitVec.eq_of_toNat_eq
  have f0 : ((0 : Int32) &&& 31) = 0 := by decide
  have f8 : ((8 : Int32) &&& 31) = 8 := by decide
  rw [f0, f8]
  have g : (((lo8 c &&& 255) <<< (0 : Int32)) ||| ((hi8 c &&& 255) <<< (8 : Int32))).toBitVec.toNat = c.toBitVec.toNat := by
    rw [Int32.toBitVec_or, Int32.toBitVec_shiftLeft, Int32.toBitVec_shiftLeft]
    have s0 : ((0 : Int32).toBitVec.smod 32) = 0#32 := by decide
    have s8 : ((8 : Int32).toBitVec.smod 32) = 8#32 := by decide
    rw [s0, s8, BitVec.toNat_or]
    simp only [BitVec.shiftLeft_eq', BitVec.toNat_shiftLeft, a1, a2]
    show (c.toBitVec.toNat % 256) <<< 0 % 2 ^ 32 ||| (c.toBitVec.toNat / 256) <<< 8 % 2 ^ 32 = _
    rw [Nat.shiftLeft_zero, Nat.mod_eq_of_lt (show c.toBitVec.toNat % 256 < 2 ^ 32 by omega), Nat.mod_eq_of_lt (show (c.toBitVec.toNat / 256) <<< 8 < 2 ^ 32 by rw [Nat.shiftLeft_eq]; omega), Nat.or_comm, ← Nat.shiftLeft_add_eq_or_of_lt (by omega), Nat.shiftLeft_eq]
    omega
  show BitVec.toNat (((((lo8 c &&& 255) <<< (0 : Int32)) ||| ((hi8 c &&& 255) <<< (8 : Int32))).toBitVec.setWidth 16).setWidth 32) = _
  rw [BitVec.toNat_setWidth, BitVec.toNat_setWidth, g]
  omega
end StrChars
namespace StrChars
open Jvm Sem ClassFile Op Lib Jvm.Stand Jvm.Free.XT Jvm.Free.ALB Jvm.Free.JM Jvm.Free
open Jvm.Lib.Cold (StaticIs)
/-- charAt's cast of a byte read back -/
def chr8 (u : Int32) : Int32 := (u &&& 255).toUInt32.toUInt16.toUInt32.toInt32
theorem chr8_lo8 {c : Int32} (h0 : ¬ c < 0) (h1 : ¬ 255 < c) : chr8 (lo8 c) = c := by
  have t : ∀ k : Fin 256, (Int32.ofNat k.val).toUInt32.toUInt16.toUInt32.toInt32 = Int32.ofNat k.val := by decide +kernel
  unfold chr8
  rw [lo8_mask h0 h1]
  rw [Int32.lt_iff_toInt_lt] at h0 h1
  have e0 : (0 : Int32).toInt = 0 := rfl
  have e1 : (255 : Int32).toInt = 255 := rfl
  obtain ⟨k, hk⟩ : ∃ k : Nat, c.toInt = k := ⟨c.toInt.toNat, by omega⟩
  have hx : c = Int32.ofNat k := Int32.toInt_inj.mp (by rw [hk, Int32.toInt_ofNat_small (by omega)])
  rw [hx]
  exact t ⟨k, by omega⟩
theorem narrow_ch {c : Int32} (h0 : ¬ c < 0) (h1 : ¬ 65535 < c) : narrow .char (.int c) = .int c := by
  have q : narrow .char (.int (pairCh (lo8 c) (hi8 c))) = .int (pairCh (lo8 c) (hi8 c)) := narrow_c _
  rwa [pair_says h0 h1] at q
/-- the array's cell V codes the n chars f 0 .. f (n - 1) by the coder cd, as the JDK does: coder 1 just where some char is above 255 -/
def Cod (cd : Int32) (n : Nat) (f : Nat → Int32) (V : Cell) : Prop := (cd = 0 ∧ V.slots.size = n ∧ ∀ j, j < n → V.slots[j]? = some (.int (lo8 (f j))) ∧ ¬ 255 < f j) ∨ (cd = 1 ∧ V.slots.size = 2 * n ∧ (∀ j, j < n → V.slots[2 * j]? = some (.int (lo8 (f j))) ∧ V.slots[2 * j + 1]? = some (.int (hi8 (f j)))) ∧ ∃ j, j < n ∧ 255 < f j)
theorem Cod.cd {cd : Int32} {n : Nat} {f : Nat → Int32} {V : Cell} (h : Cod cd n f V) : cd = 0 ∨ cd = 1 := h.imp (fun q => q.1) fun q => q.1
/-- **x is a String of the n chars f 0 .. f (n - 1)**, Latin-1 or UTF-16; its array at t has the cell V -/
def Txt (x t : Addr) (V : Cell) (cd : Int32) (n : Nat) (f : Nat → Int32) (U : State) : Prop := Exact "java/lang/String" x U ∧ Has x "java/lang/String" "value" "[B" (.ref t) U ∧ Has x "java/lang/String" "coder" "B" (.int cd) U ∧ XT.Arr .byte t V U ∧ Cod cd n f V ∧ ∀ j, j < n → ¬ f j < 0 ∧ ¬ 65535 < f j
theorem Txt.mv {x t : Addr} {V : Cell} {cd : Int32} {n : Nat} {f : Nat → Int32} {U U' : State} (h : Txt x t V cd n f U) (hal : U.vm.Alike U'.vm) (hh : U'.heap = U.heap) : Txt x t V cd n f U' := ⟨h.1.mv hal hh, h.2.1.mv hal hh, h.2.2.1.mv hal hh, h.2.2.2.1.mv hal hh, h.2.2.2.2⟩
namespace IsL
def yN : MethodName := ⟨"java/lang/String", "isLatin1", "()Z"⟩
abbrev yB : ByteArray := jdk_42_method_154_code
theorem d0 : decode yB 0 = .ok (.getstatic 38, 3) := by decide +kernel
theorem d3 : decode yB 3 = .ok (.ifCond (.eq) 14, 3) := by decide +kernel
theorem d6 : decode yB 6 = .ok (.aload_n 0, 1) := by decide +kernel
theorem d7 : decode yB 7 = .ok (.getfield 15, 3) := by decide +kernel
theorem d10 : decode yB 10 = .ok (.ifCond (.ne) 7, 3) := by decide +kernel
theorem d13 : decode yB 13 = .ok (.iconst 1, 1) := by decide +kernel
theorem d14 : decode yB 14 = .ok (.goto 4, 3) := by decide +kernel
theorem d17 : decode yB 17 = .ok (.iconst 0, 1) := by decide +kernel
theorem d18 : decode yB 18 = .ok (.ireturn, 1) := by decide +kernel
def site : List Cond := [.fieldLink "java/lang/String" 38 "java/lang/String" "COMPACT_STRINGS" "Z", .fieldLink "java/lang/String" 15 "java/lang/String" "coder" "B"]
def tab : Cond := tabOf yN yB 1 (some .boolean) site
def P (x : Addr) (cd z : Int32) (args : Array Value) (s : State) : Prop := args = #[.ref x] ∧ Has x "java/lang/String" "coder" "B" (.int cd) s ∧ (cd = 0 ∨ cd = 1) ∧ StaticIs s "java/lang/String" "COMPACT_STRINGS" "Z" (.int z) ∧ ¬ z = 0
def E (cd : Int32) (r : Option Value) (s u : State) : Prop := XT.PureE (some (.int (1 - cd))) r s u
theorem law (l : Launch) (x : Addr) (cd z : Int32) : Law l yN 1 0 0 0 yB 1 (some .boolean) site (P x cd z) (E cd) [] 0 0 := by
  refine Law.of_walk (plainFor_of_name (by decide +kernel)) (by decide +kernel) (by decide +kernel) (by decide) (fun _ _ h => by rw [h.1]; rfl) (fun _ U U' hal hh h => ⟨h.1, h.2.1.mv hal hh, h.2.2.1, h.2.2.2.1.there hal hh, h.2.2.2.2⟩) (fun r U U' V V' h1 hal h2 h => XT.PureE.mv r U U' V V' h1 hal h2 h) ?_
  intro p e s m args below meth c s₁ X0 hexec hbytes hml hret hlk hnm hown hh0 W hP
  obtain ⟨rfl, hx, hc, s1, hz⟩ := hP
  have c1 : Steps p.tables e below (s₁.setTop (entryFrame m #[.ref x] 1)) (s₁.setTop (mkF m 0 #[.val (.ref x)] [])) := entry rfl
  obtain ⟨T2, X2, q2, st2⟩ := X0.sget hexec hown (wk W (.fieldLink "java/lang/String" 38 "java/lang/String" "COMPACT_STRINGS" "Z")) s1 (fun _ _ h => by rw [hh0]; exact h) (g := (mkF m 0 #[.val (.ref x)] [])) rfl (hb hbytes d0)
  have hh2 := q2.trans hh0
  have c3 : Steps p.tables e below (s₁.setTop (entryFrame m #[.ref x] 1)) (T2.setTop (mkF m 7 #[.val (.ref x)] [.ref x])) := (c1.trans (st2 _ (Steps.refl _))).trans (by
    refine XS.ifNo X2.here hexec rfl (hb hbytes d3) rfl (i0_eq_f hz) ?_
    refine XS.aloadN X2.here hexec rfl (hb hbytes d6) rfl rfl ?_
    exact Steps.refl _)
  obtain ⟨T4, X4, q4, st4⟩ := X2.hget hexec hown (wk W (.fieldLink "java/lang/String" 15 "java/lang/String" "coder" "B")) (hx.mv X2.warmed.alike hh2) (g := (mkF m 7 #[.val (.ref x)] [.ref x])) rfl (rest := []) rfl (hb hbytes d7)
  have c5 : Steps p.tables e below (s₁.setTop (entryFrame m #[.ref x] 1)) (T4.setTop (mkF m 10 #[.val (.ref x)] [.int cd])) := c3.trans (st4 _ (Steps.refl _))
  have c6 : Steps p.tables e below (s₁.setTop (entryFrame m #[.ref x] 1)) (T4.setTop (mkF m 18 #[.val (.ref x)] [.int (1 - cd)])) := by
    rcases hc with rfl | rfl
    · exact c5.trans (by
        refine XS.ifNo X4.here hexec rfl (hb hbytes d10) rfl (i0_ne_f rfl) ?_
        refine iconstV X4.here hexec rfl 1 (hb hbytes d13) (by decide) ?_
        refine XS.goto X4.here hexec rfl (pc0 := 14) rfl (hb hbytes d14) (by decide) rfl ?_
        exact Steps.refl _)
    · exact c5.trans (by
        refine XS.ifYes X4.here hexec rfl (pc0 := 10) rfl (hb hbytes d10) rfl (i0_ne_t (by decide)) (by decide) rfl ?_
        refine iconstV X4.here hexec rfl 0 (hb hbytes d17) (by decide) ?_
        exact Steps.refl _)
  exact ⟨T4, some (.int (1 - cd)), _, _, _, X4, rfl, rfl, rfl, (fun h => by cases h), ⟨rfl, q4.trans hh2⟩, fun fs hl => c6.trans (X4.ireturnOut hexec hret (by rcases hc with rfl | rfl <;> rfl) (Or.inr (Or.inl rfl)) (hb hbytes d18) hl)⟩
end IsL
namespace LChA
def yN : MethodName := ⟨"java/lang/StringLatin1", "charAt", "([BI)C"⟩
abbrev yB : ByteArray := jdk_43_method_2_code
theorem d0 : decode yB 0 = .ok (.iload_n 1, 1) := by decide +kernel
theorem d1 : decode yB 1 = .ok (.aload_n 0, 1) := by decide +kernel
theorem d2 : decode yB 2 = .ok (.arraylength, 1) := by decide +kernel
theorem d3 : decode yB 3 = .ok (.invokestatic 9, 3) := by decide +kernel
theorem d6 : decode yB 6 = .ok (.aload_n 0, 1) := by decide +kernel
theorem d7 : decode yB 7 = .ok (.iload_n 1, 1) := by decide +kernel
theorem d8 : decode yB 8 = .ok (.baload, 1) := by decide +kernel
theorem d9 : decode yB 9 = .ok (.sipush 255, 3) := by decide +kernel
theorem d12 : decode yB 12 = .ok (.iand, 1) := by decide +kernel
theorem d13 : decode yB 13 = .ok (.i2c, 1) := by decide +kernel
theorem d14 : decode yB 14 = .ok (.ireturn, 1) := by decide +kernel
def site : List Cond := [JO.Str_checkIndex.tab] ++ staticW "java/lang/StringLatin1" 9 JO.Str_checkIndex.yN
def tab : Cond := tabOf yN yB 2 (some .char) site
def P (t : Addr) (V : Cell) (i : Nat) (u : Int32) (fm : Value) (args : Array Value) (s : State) : Prop := args = #[.ref t, .int (Int32.ofNat i)] ∧ XT.Arr .byte t V s ∧ V.slots[i]? = some (.int u) ∧ (StaticIs s "jdk/internal/util/Preconditions" "SIOOBE_FORMATTER" "Ljava/util/function/BiFunction;" fm ∧ fm.isRef = true)
def E (u : Int32) (r : Option Value) (s w : State) : Prop := XT.PureE (some (.int (chr8 u))) r s w
theorem law (l : Launch) (t : Addr) (V : Cell) (i : Nat) (u : Int32) (fm : Value) : Law l yN 2 2 2 27 yB 2 (some .char) site (P t V i u fm) (E u) [] 0 0 := by
  refine Law.of_walk (plainFor_of_name (by decide +kernel)) (by decide +kernel) (by decide +kernel) (by decide) (fun _ _ h => by rw [h.1]; rfl) (fun _ U U' hal hh h => ⟨h.1, h.2.1.mv hal hh, h.2.2.1, h.2.2.2.1.there hal hh, h.2.2.2.2⟩) (fun r U U' V V' h1 hal h2 h => XT.PureE.mv r U U' V V' h1 hal h2 h) ?_
  intro p e s m args below meth c s₁ X0 hexec hbytes hml hret hlk hnm hown hh0 W hP
  obtain ⟨rfl, hV, hu, s1, rf⟩ := hP
  have v31 := hV.2.2.2
  have hi : i < V.slots.size := (Array.getElem?_eq_some_iff.mp hu).1
  have c1 : Steps p.tables e below (s₁.setTop (entryFrame m #[.ref t, .int (Int32.ofNat i)] 2)) (s₁.setTop (mkF m 0 #[.val (.ref t), .val (.int (Int32.ofNat i))] [])) := entry rfl
  have c2 : Steps p.tables e below (s₁.setTop (entryFrame m #[.ref t, .int (Int32.ofNat i)] 2)) (s₁.setTop (mkF m 3 #[.val (.ref t), .val (.int (Int32.ofNat i))] [.int (Int32.ofNat V.slots.size), .int (Int32.ofNat i)])) := c1.trans (by
    refine XS.iloadN X0.here hexec rfl (hb hbytes d0) rfl ?_
    refine XS.aloadN X0.here hexec rfl (hb hbytes d1) rfl rfl ?_
    refine X0.alen hexec (hV.mv X0.warmed.alike hh0) rfl rfl (hb hbytes d2) ?_
    exact Steps.refl _)
  obtain ⟨v3, T3, X3, E3, g3⟩ := X0.callS hexec (JO.Str_checkIndex.law l (Int32.ofNat i) (Int32.ofNat V.slots.size) fm) hown (wks W (staticW "java/lang/StringLatin1" 9 JO.Str_checkIndex.yN)) (wk W JO.Str_checkIndex.tab) (W := 0) (Nat.le_of_ble_eq_true rfl) (Nat.le_of_ble_eq_true rfl) (Nat.le_refl _) (Nat.le_refl _) (g := (mkF m 3 #[.val (.ref t), .val (.int (Int32.ofNat i))] [.int (Int32.ofNat V.slots.size), .int (Int32.ofNat i)])) rfl (by rw [hml]; rfl) c2 (argsL := [.int (Int32.ofNat i), .int (Int32.ofNat V.slots.size)]) (rest := []) rfl rfl (by show 2 * 0 + 0 ≤ _; decide) (hb hbytes d3) (⟨rfl, rf, s1.there X0.warmed.alike hh0, Int32.ofNat_not_neg (by omega), lt32 v31 hi⟩)
  obtain ⟨rfl, q3⟩ := E3
  have hh3 := q3.trans hh0
  have c4 : Steps p.tables e below (s₁.setTop (entryFrame m #[.ref t, .int (Int32.ofNat i)] 2)) (T3.setTop (mkF m 14 #[.val (.ref t), .val (.int (Int32.ofNat i))] [.int (chr8 u)])) := Steps.trans g3 (by
    refine XS.aloadN X3.here hexec rfl (hb hbytes d6) rfl rfl ?_
    refine XS.iloadN X3.here hexec rfl (hb hbytes d7) rfl ?_
    refine X3.aget hexec (hV.mv X3.warmed.alike hh3) rfl hu rfl rfl (hb hbytes d8) ?_
    refine sipushV X3.here hexec rfl 255 (hb hbytes d9) (by decide) ?_
    refine XS.iand X3.here hexec rfl (hb hbytes d12) rfl ?_
    refine i2c X3.here hexec rfl (hb hbytes d13) rfl ?_
    exact Steps.refl _)
  exact ⟨T3, some (.int (chr8 u)), _, _, _, X3, rfl, rfl, rfl, (fun h => by cases h), ⟨rfl, hh3⟩, fun fs hl => c4.trans (X3.ireturnOut hexec hret (narrow_c _) (Or.inr (Or.inr (Or.inr (Or.inl rfl)))) (hb hbytes d14) hl)⟩
end LChA
end StrChars
namespace StrChars.Road
open Jvm Sem ClassFile Op Lib Jvm.Stand Jvm.Free Jvm.Free.XT
open Jvm.Lib.Cold (StaticIs)
theorem consq {a : Array Value} {s : State} {c : Jvm.Cond} {L : List Jvm.Cond} (h0 : c.before a s = true) (h : ∀ w ∈ L, w.before a s = true) : ∀ w ∈ c :: L, w.before a s = true := fun w hw => (List.mem_cons.mp hw).elim (fun e => e ▸ h0) (h w)
/-- the bytes of the chars cs, low before high -/
def wideBytes : List Int32 → List Value
  | [] => []
  | c :: cs => .int (lo8 c) :: .int (hi8 c) :: wideBytes cs
theorem wide_lo (d : Value) : ∀ (cs : List Int32) (j : Nat), j < cs.length → (wideBytes cs).getD (2 * j) d = .int (lo8 (cs.getD j 0))
  | [], j, h => absurd h (Nat.not_lt_zero j)
  | c :: cs, 0, _ => rfl
  | c :: cs, j + 1, h => by
    have q := wide_lo d cs j (by simpa using h)
    rw [show 2 * (j + 1) = 2 * j + 1 + 1 from by omega]
    simpa [wideBytes] using q
theorem wide_hi (d : Value) : ∀ (cs : List Int32) (j : Nat), j < cs.length → (wideBytes cs).getD (2 * j + 1) d = .int (hi8 (cs.getD j 0))
  | [], j, h => absurd h (Nat.not_lt_zero j)
  | c :: cs, 0, _ => rfl
  | c :: cs, j + 1, h => by
    have q := wide_hi d cs j (by simpa using h)
    rw [show 2 * (j + 1) + 1 = 2 * j + 1 + 1 + 1 from by omega]
    simpa [wideBytes] using q
theorem low_at (d : Value) (cs : List Int32) (j : Nat) (h : j < cs.length) : (cs.map fun c => Value.int (lo8 c)).getD j d = .int (lo8 (cs.getD j 0)) := by
  simp [List.getD_eq_getElem?_getD, h]
/-- an array of N2 bytes vs codes the chars cs by the coder cd -/
def CodA (cs : List Int32) (cd N2 : Int32) (vs : List Value) : Prop := (cd = 0 ∧ N2 = Int32.ofNat cs.length ∧ vs = (cs.map fun c => Value.int (lo8 c)) ∧ ∀ c ∈ cs, ¬ 255 < c) ∨ (cd = 1 ∧ N2 = Int32.ofNat (2 * cs.length) ∧ vs = wideBytes cs ∧ ∃ c ∈ cs, 255 < c)
theorem CodA.cod {cs : List Int32} {cd N2 : Int32} {vs : List Value} {V : Cell} (h : CodA cs cd N2 vs) (hn : 2 * cs.length < 2 ^ 31) (hs : V.slots.size = N2.toNatClampNeg) (hv : RoadKit.Has V vs (.int 0)) : Cod cd cs.length (fun j => cs.getD j 0) V := by
  rcases h with ⟨rfl, rfl, rfl, h⟩ | ⟨rfl, rfl, rfl, c, hc, hw⟩
  · rw [n32 (by omega)] at hs
    exact Or.inl ⟨rfl, hs, fun j hj => ⟨by rw [hv j (by omega), low_at _ _ _ hj], by
      have e : cs.getD j 0 = cs[j] := by simp [List.getD_eq_getElem?_getD, hj]
      show ¬ 255 < cs.getD j 0
      rw [e]; exact h _ (List.getElem_mem _)⟩⟩
  · rw [n32 (by omega)] at hs
    obtain ⟨j, hj, rfl⟩ := List.getElem_of_mem hc
    exact Or.inr ⟨rfl, hs, fun j hj => ⟨by rw [hv _ (by omega), wide_lo _ _ _ hj], by rw [hv _ (by omega), wide_hi _ _ _ hj]⟩, j, hj, by
      have e : cs.getD j 0 = cs[j] := by simp [List.getD_eq_getElem?_getD, hj]
      show 255 < cs.getD j 0
      rw [e]; exact hw⟩
/-- an object of exactly java/lang/String, its two fields found: as the laws ask it -/
theorem strObj {Z U : State} {a0 : Array Value} {kI : Nat} (wi : (Jvm.Cond.instantiable ST kI).before a0 Z = true) (al : Z.vm.Alike U.vm) {x : Addr} {v0 c0 : Value} (E : RoadKit.Exa Z U.heap x ST) (V : RoadKit.Fld Z U.heap x ST "value" "[B" v0) (C : RoadKit.Fld Z U.heap x ST "coder" "B" c0) :
    ∃ (D : Cell) (fV fC : Field), Blank ST x D U ∧ Found ST "value" "[B" fV U ∧ Found ST "coder" "B" fC U ∧ D.slots[fV.slot]? = some v0 ∧ D.slots[fC.slot]? = some c0 ∧ RoadKit.slotOf Z ST "value" "[B" = fV.slot ∧ RoadKit.slotOf Z ST "coder" "B" = fC.slot := by
  obtain ⟨D, cfV, kV, iV, fV, hD, gV, stV, knV, obV, asV, slV⟩ := V
  obtain ⟨D', cfC, kC, iC, fC, hD', gC, stC, -, -, asC, slC⟩ := C
  cases hD.symm.trans hD'
  obtain ⟨D2, kD, e1, e2, e3, e4, e5⟩ := E
  cases hD.symm.trans e1
  obtain ⟨c2, k2, i1, i2, i3, -⟩ := Cond.instantiable_spec wi
  cases e2.symm.trans i1
  cases e3.symm.trans i2
  obtain ⟨kU, u1, u2⟩ := al.2.2 _ _ e3
  exact ⟨D, fV, fC, ⟨hD, ⟨knV, fun q hq => by rw [hq] at obV; cases obV⟩, by rw [al.findClass]; exact e2, kU, u1, by rw [u2]; exact i3, by rw [u2]; exact e5 i3⟩, ⟨SBG.found_only al ⟨cfV, kV, iV, gV⟩, stV⟩, ⟨SBG.found_only al ⟨cfC, kC, iC, gC⟩, stC⟩, slV, slC, by simp [RoadKit.slotOf, gV], by simp [RoadKit.slotOf, gC]⟩
theorem sta_is {Z U : State} (al : Z.vm.Alike U.vm) {C n d : String} {v : Value} (S : RoadKit.Sta Z U.heap C n d v) : StaticIs U C n d v := by
  obtain ⟨cfS, iS, kS, fS, st, cS, t1, t2, t3, t4, t5, t6, t7⟩ := S
  exact StaticIs.there (s := { Z with heap := U.heap }) ⟨cfS, iS, kS, fS, st, cS, t1, t2, t3, t4, t5, (fun q => by rw [q] at t6; cases t6), t7⟩ al rfl
end StrChars.Road
namespace StrChars.Road
open Jvm Sem ClassFile Op Lib Jvm.Stand Jvm.Free Jvm.Free.XT
open Jvm.Lib.Cold (StaticIs)
/-- the road's facts of a String, as the laws ask it -/
theorem txt_of {Z U : State} {a0 : Array Value} {kI : Nat} (wi : (Jvm.Cond.instantiable ST kI).before a0 Z = true) (al : Z.vm.Alike U.vm) {x t : Addr} {kb : ClassId} {cs : List Int32} {cd N2 : Int32} {vs : List Value} (E : RoadKit.Exa Z U.heap x ST) (V : RoadKit.Fld Z U.heap x ST "value" "[B" (.ref t)) (C : RoadKit.Fld Z U.heap x ST "coder" "B" (.int cd)) (K : RoadKit.Arv Z U.heap t kb .byte N2 vs (.int 0)) (hc : CodA cs cd N2 vs) (hb : ∀ c ∈ cs, ¬ c < 0 ∧ ¬ (65535 : Int32) < c) (l2 : cs.length ≤ 4000) :
    ∃ A, Txt x t A cd cs.length (fun j => cs.getD j 0) U := by
  obtain ⟨A, K1, K2, K3, K4, K5, K6⟩ := K
  have hcod := hc.cod (by omega) K3 K5
  obtain ⟨D, fV, fC, hB, F1, F2, g1, g2, -, -⟩ := strObj wi al E V C
  exact ⟨A, ⟨_, hB.2.2.1, D, hB.1, rfl, by cases q : D.vm <;> first | rfl | exact absurd q (hB.2.1.2 _)⟩, Has.of hB F1 g1, Has.of hB F2 g2, ⟨K1.1, State.isArrayOf_alike al K1.2.1, K1.2.2, by rcases hcod with ⟨-, q, -⟩ | ⟨-, q, -⟩ <;> omega⟩, hcod, fun j hj => by
    have e : cs.getD j 0 = cs[j] := by simp [List.getD_eq_getElem?_getD, hj]
    show ¬ cs.getD j 0 < 0 ∧ ¬ 65535 < cs.getD j 0
    rw [e]; exact hb _ (List.getElem_mem _)⟩
end StrChars.Road
namespace StrChars
open Jvm Sem ClassFile Op Lib Jvm.Stand Jvm.Free.XT Jvm.Free.ALB Jvm.Free.JM Jvm.Free
open Jvm.Lib.Cold (StaticIs)
namespace ChN
def yN : MethodName := ⟨"java/lang/String", "charAt", "(I)C"⟩
abbrev yB : ByteArray := jdk_42_method_56_code
theorem d0 : decode yB 0 = .ok (.aload_n 0, 1) := by decide +kernel
theorem d1 : decode yB 1 = .ok (.invokevirtual 492, 3) := by decide +kernel
theorem d4 : decode yB 4 = .ok (.ifCond (.eq) 12, 3) := by decide +kernel
theorem d7 : decode yB 7 = .ok (.aload_n 0, 1) := by decide +kernel
theorem d8 : decode yB 8 = .ok (.getfield 9, 3) := by decide +kernel
theorem d11 : decode yB 11 = .ok (.iload_n 1, 1) := by decide +kernel
theorem d12 : decode yB 12 = .ok (.invokestatic 495, 3) := by decide +kernel
theorem d15 : decode yB 15 = .ok (.ireturn, 1) := by decide +kernel
def site : List Cond := [.fieldLink "java/lang/String" 9 "java/lang/String" "value" "[B", IsL.tab, LChA.tab] ++ virtW "java/lang/String" 492 "java/lang/String" IsL.yN IsL.yN ++ staticW "java/lang/String" 495 LChA.yN
def tab : Cond := tabOf yN yB 2 (some .char) site
def P (x t : Addr) (V : Cell) (n : Nat) (f : Nat → Int32) (z : Int32) (fm : Value) (i : Nat) (args : Array Value) (s : State) : Prop := args = #[.ref x, .int (Int32.ofNat i)] ∧ Txt x t V 0 n f s ∧ i < n ∧ StaticIs s "java/lang/String" "COMPACT_STRINGS" "Z" (.int z) ∧ ¬ z = 0 ∧ StaticIs s "jdk/internal/util/Preconditions" "SIOOBE_FORMATTER" "Ljava/util/function/BiFunction;" fm ∧ fm.isRef = true
def E (f : Nat → Int32) (i : Nat) (r : Option Value) (s u : State) : Prop := XT.PureE (some (.int (f i))) r s u
/-- charAt(i) of a Latin-1 String of n chars, i < n: f i -/
theorem law (l : Launch) (x t : Addr) (V : Cell) (n : Nat) (f : Nat → Int32) (z : Int32) (fm : Value) (i : Nat) : Law l yN 2 1 3 40 yB 2 (some .char) site (P x t V n f z fm i) (E f i) [] 0 0 := by
  refine Law.of_walk (plainFor_of_name (by decide +kernel)) (by decide +kernel) (by decide +kernel) (by decide) (fun _ _ h => by rw [h.1]; rfl) (fun _ U U' hal hh h => ⟨h.1, h.2.1.mv hal hh, h.2.2.1, h.2.2.2.1.there hal hh, h.2.2.2.2.1, h.2.2.2.2.2.1.there hal hh, h.2.2.2.2.2.2⟩) (fun r U U' V V' h1 hal h2 h => XT.PureE.mv r U U' V V' h1 hal h2 h) ?_
  intro p e s m args below meth c s₁ X0 hexec hbytes hml hret hlk hnm hown hh0 W hP
  obtain ⟨rfl, hx, hi, s1, hz, s3, rf⟩ := hP
  have v31 := hx.2.2.2.1.2.2.2
  have hr := hx.2.2.2.2.2 i hi
  have hx0 := hx.mv X0.warmed.alike hh0
  have c1 : Steps p.tables e below (s₁.setTop (entryFrame m #[.ref x, .int (Int32.ofNat i)] 2)) (s₁.setTop (mkF m 1 #[.val (.ref x), .val (.int (Int32.ofNat i))] [.ref x])) := Steps.trans (entry rfl) (by
    show Steps p.tables e below (s₁.setTop (mkF m 0 #[.val (.ref x), .val (.int (Int32.ofNat i))] [])) _
    refine XS.aloadN X0.here hexec rfl (hb hbytes d0) rfl rfl ?_
    exact Steps.refl _)
  obtain ⟨v2, T2, X2, E2, g2⟩ := X0.callV hexec (IsL.law l x 0 z) hown (wks W (virtW "java/lang/String" 492 "java/lang/String" IsL.yN IsL.yN)) rfl (by decide) (wk W IsL.tab) (W := 0) (Nat.le_of_ble_eq_true rfl) (Nat.le_of_ble_eq_true rfl) (Nat.le_refl _) (Nat.le_refl _) (hx0.1.fc X0.warmed.alike) hx0.1.is (g := (mkF m 1 #[.val (.ref x), .val (.int (Int32.ofNat i))] [.ref x])) rfl (by rw [hml]; rfl) c1 (argsL := []) (rest := []) rfl rfl (by show 2 * 0 + 0 ≤ _; decide) (hb hbytes d1) (⟨rfl, hx0.2.2.1, hx.2.2.2.2.1.cd, s1.there X0.warmed.alike hh0, hz⟩)
  obtain ⟨rfl, q2⟩ := E2
  have hh2 := q2.trans hh0
  have hx2 := hx.mv X2.warmed.alike hh2
  obtain ⟨-, k1, k2⟩ | ⟨k0, -⟩ := hx.2.2.2.2.1
  · have c3 : Steps p.tables e below (s₁.setTop (entryFrame m #[.ref x, .int (Int32.ofNat i)] 2)) (T2.setTop (mkF m 8 #[.val (.ref x), .val (.int (Int32.ofNat i))] [.ref x])) := Steps.trans g2 (by
      refine XS.ifNo X2.here hexec rfl (hb hbytes d4) rfl (i0_eq_f (by decide)) ?_
      refine XS.aloadN X2.here hexec rfl (hb hbytes d7) rfl rfl ?_
      exact Steps.refl _)
    obtain ⟨T4, X4, q4, st4⟩ := X2.hget hexec hown (wk W (.fieldLink "java/lang/String" 9 "java/lang/String" "value" "[B")) hx2.2.1 (g := (mkF m 8 #[.val (.ref x), .val (.int (Int32.ofNat i))] [.ref x])) rfl (rest := []) rfl (hb hbytes d8)
    have hh4 := q4.trans hh2
    have c5 : Steps p.tables e below (s₁.setTop (entryFrame m #[.ref x, .int (Int32.ofNat i)] 2)) (T4.setTop (mkF m 12 #[.val (.ref x), .val (.int (Int32.ofNat i))] [.int (Int32.ofNat i), .ref t])) := (c3.trans (st4 _ (Steps.refl _))).trans (by
      refine XS.iloadN X4.here hexec rfl (hb hbytes d11) rfl ?_
      exact Steps.refl _)
    obtain ⟨v6, T6, X6, E6, g6⟩ := X4.callS hexec (LChA.law l t V i (lo8 (f i)) fm) hown (wks W (staticW "java/lang/String" 495 LChA.yN)) (wk W LChA.tab) (W := 0) (Nat.le_of_ble_eq_true rfl) (Nat.le_of_ble_eq_true rfl) (Nat.le_refl _) (Nat.le_refl _) (g := (mkF m 12 #[.val (.ref x), .val (.int (Int32.ofNat i))] [.int (Int32.ofNat i), .ref t])) rfl (by rw [hml]; rfl) c5 (argsL := [.ref t, .int (Int32.ofNat i)]) (rest := []) rfl rfl (by show 2 * 0 + 0 ≤ _; decide) (hb hbytes d12) (⟨rfl, hx.2.2.2.1.mv X4.warmed.alike hh4, (k2 i hi).1, s3.there X4.warmed.alike hh4, rf⟩)
    obtain ⟨rfl, q6⟩ := E6
    rw [chr8_lo8 hr.1 (k2 i hi).2] at g6
    exact ⟨T6, some (.int (f i)), _, _, _, X6, rfl, rfl, rfl, (fun h => by cases h), ⟨rfl, q6.trans hh4⟩, fun fs hl => Steps.trans g6 (X6.ireturnOut hexec hret (narrow_ch hr.1 hr.2) (Or.inr (Or.inr (Or.inr (Or.inl rfl)))) (hb hbytes d15) hl)⟩
  · exact absurd k0 (by decide)
theorem pays {l : Launch} {R : Room} {p : Program} {e : Env} {below : List Frame} {s : State} {sargs : Array Value} {len W : Nat} (x t : Addr) (V : Cell) (n : Nat) (f : Nat → Int32) (z : Int32) (fm : Value) (i : Nat) (htab : tab.before sargs s = true) (hfr : 4 ≤ R.frames) (hlo : W + 53 ≤ R.locals) :
    Back l R p e below s sargs yN len W (fun A₁ a₁ => A₁.cells + 0 ≤ R.cells ∧ A₁.slots + 0 ≤ R.slots ∧ P x t V n f z fm i a₁ A₁.U) (fun A₁ _ v₁ B₁ => E f i v₁ A₁.U B₁.U ∧ B₁.locs = A₁.locs ++ [] ∧ B₁.cells = A₁.cells + 0 ∧ B₁.slots = A₁.slots + 0) :=
  (law l x t V n f z fm i).pays htab hfr (by omega)
end ChN
end StrChars
namespace StrChars.Road
open Jvm Sem ClassFile Op Lib Jvm.Stand Jvm.Free Jvm.Free.XT
open Jvm.Lib.Cold (StaticIs)
/-- the words of String.charAt(int), the Latin-1 road alone -/
abbrev wordsChN : List Jvm.Cond := [.code ChN.yN ChN.yB 2 (some .char), .initialized ST, .fieldLink ST 9 ST "value" "[B", .fieldLink ST 38 ST "COMPACT_STRINGS" "Z", .fieldLink ST 15 ST "coder" "B", .code IsL.yN IsL.yB 1 (some .boolean), .methodLink ST 492 IsL.yN, .declares IsL.yN, .selects ST IsL.yN IsL.yN, .instanceMethod IsL.yN,
  .methodLink ST 495 LChA.yN, .static LChA.yN, .code LChA.yN LChA.yB 2 (some .char), .initialized "java/lang/StringLatin1", .methodLink "java/lang/StringLatin1" 9 JO.Str_checkIndex.yN, .static JO.Str_checkIndex.yN, .code JO.Str_checkIndex.yN JO.Str_checkIndex.yB 2 none,
  .fieldLink ST 1053 "jdk/internal/util/Preconditions" "SIOOBE_FORMATTER" "Ljava/util/function/BiFunction;", .methodLink ST 1059 JC.PreCheck.yN, .static JC.PreCheck.yN, .code JC.PreCheck.yN JC.PreCheck.yB 3 (some .int), .initialized "jdk/internal/util/Preconditions"]
theorem tabChN_of {a : Array Value} {s : State} (h : ∀ w ∈ wordsChN, w.before a s = true) : ChN.tab.before a s = true := by
  have hp : JC.PreCheck.tab.before a s = true := unparts (wk h (.code JC.PreCheck.yN JC.PreCheck.yB 3 (some .int))) (wks h (.initialized JC.PreCheck.yN.cls :: JC.PreCheck.site))
  have qk := consq hp h
  have hk : JO.Str_checkIndex.tab.before a s = true := unparts (wk qk (.code JO.Str_checkIndex.yN JO.Str_checkIndex.yB 2 none)) (wks qk (.initialized JO.Str_checkIndex.yN.cls :: JO.Str_checkIndex.site))
  have ql := consq hk h
  have hl : LChA.tab.before a s = true := unparts (wk ql (.code LChA.yN LChA.yB 2 (some .char))) (wks ql (.initialized LChA.yN.cls :: LChA.site))
  have hi : IsL.tab.before a s = true := unparts (wk h (.code IsL.yN IsL.yB 1 (some .boolean))) (wks h (.initialized IsL.yN.cls :: IsL.site))
  have q := consq hi (consq hl h)
  exact unparts (wk q (.code ChN.yN ChN.yB 2 (some .char))) (wks q (.initialized ChN.yN.cls :: ChN.site))
theorem movedChN {Z s : State} {a0 args : Array Value} (hZ : Z.Warmed39 s.vm) (hw : ∀ d ∈ wordsChN, d.before a0 Z = true) : ∀ d ∈ wordsChN, d.before args s = true := fun d hd => by
  have t : ∀ d ∈ wordsChN, (d.onTables && d.keepsFace) = true := by decide +kernel
  exact RoadKit.mv hZ (hw d hd) (t d hd)
/-- **charAt(i) OF A LATIN-1 STRING**, i < n: the char -/
theorem chN {p : Program} {l : Launch} {e : Env} {R : Room} {s : State} {args : Array Value} {below : List Frame} {len W : Nat} {Z : State} {a0 : Array Value} {h : Heap} (hZ : Z.Warmed39 s.vm) (hw : ∀ d ∈ wordsChN, d.before a0 Z = true) {kI : Nat} (wi : (Jvm.Cond.instantiable ST kI).before a0 Z = true)
    {x t : Addr} {kb : ClassId} {cs : List Int32} {N2 z : Int32} {vs : List Value} {fm : Value} {i : Nat} {j : Int32} (E : RoadKit.Exa Z h x ST) (V : RoadKit.Fld Z h x ST "value" "[B" (.ref t)) (C : RoadKit.Fld Z h x ST "coder" "B" (.int 0)) (K : RoadKit.Arv Z h t kb .byte N2 vs (.int 0)) (hc : CodA cs 0 N2 vs) (hb : ∀ c ∈ cs, ¬ c < 0 ∧ ¬ (65535 : Int32) < c)
    (S : RoadKit.Sta Z h ST "COMPACT_STRINGS" "Z" (.int z)) (hz : ¬ z = 0) (F : RoadKit.Sta Z h "jdk/internal/util/Preconditions" "SIOOBE_FORMATTER" "Ljava/util/function/BiFunction;" fm) (rf : fm.isRef = true) (l2 : cs.length ≤ 4000) (hi : i < cs.length) (hj : j = Int32.ofNat i) (hfr : 4 ≤ R.frames) (hlo : W + 53 ≤ R.locals) :
    Back l R p e below s args (⟨"java/lang/String", "charAt", "(I)C"⟩ : MethodName) len W (fun P a => a = #[.ref x, .int j] ∧ P.U.heap = h ∧ P.cells + 0 ≤ R.cells ∧ P.slots + 0 ≤ R.slots)
      (fun P _ v B => ∃ L, (v = some (.int (cs.getD i 0)) ∧ L = [] ∧ B.U.heap = h) ∧ B.locs = P.locs ++ L ∧ B.cells = P.cells + 0 ∧ B.slots = P.slots + 0) := by
  subst hj
  intro m meth c P g ig mk a X hg hsize hdg hW hn hp'
  obtain ⟨rfl, rfl, r1, r2⟩ := hp'
  have al : Z.vm.Alike P.U.vm := hZ.alike.trans X.warmed.alike
  obtain ⟨A, hx⟩ := txt_of wi al E V C K hc hb l2
  obtain ⟨v, B, X', ⟨⟨hv, hh⟩, hl, hk, hs⟩, st⟩ := ChN.pays x t A cs.length (fun j => cs.getD j 0) z fm i (tabChN_of (movedChN hZ hw)) hfr hlo m meth c P g ig mk _ X hg hsize hdg hW hn ⟨r1, r2, rfl, hx, hi, sta_is al S, hz, sta_is al F, rf⟩
  exact ⟨v, B, X', ⟨[], ⟨hv, rfl, hh⟩, hl, hk, hs⟩, st⟩
/-- what backV says of its String, as the contracts of this text ask it: cs's low bytes, coder 0 -/
theorem codOf {cs : List Int32} {n : Nat} (hn : cs.length = n) (hb : ∀ c ∈ cs, ¬ 255 < c) : CodA cs 0 (Int32.ofNat n) ((cs.map lo8).map Value.int) := Or.inl ⟨rfl, by rw [hn], by simp [List.map_map, Function.comp_def], hb⟩
end StrChars.Road
end Jvm.Pilot.@@N@@
namespace Jvm.Pilot.@@N@@
open Jvm Jvm.ClassFile Sem Op Lib Jvm.Free Jvm.Stand Jvm.LawKit Jvm.RoadKit Bundle Jvm.Pilot.@@N@@.Jvm.D
abbrev CL : List (String × Nat) := []
/-! OWN KIT: a forward form of the walk (Rc: the run has come to pc with these locals, this stack and this heap), over the library's Stand. -/
section OwnKit
open Jvm.Free.SB Jvm.Free.SBG
def Sx (Z : State) (h : Heap) (Ds : List Addr) (a : Addr) (units : Array UInt16) : Prop :=
  ∃ (q : SQ) (cS : ClassId), q.sa = a ∧ Sl q cS ({ Z with heap := h } : State) ∧ (∃ kS : Class, Z.vm.classes[cS]? = some kS ∧ kS.kind = .ordinary ∧ q.sC.slots.size = kS.instanceTypes.size) ∧ Z.vm.findClass "[B" = some q.SA.cls ∧ q.SA.slots = stringBytes units ∧ q.sa ∉ Ds ∧ q.sd ∉ Ds
theorem own_al (Z : State) : Z.vm.Alike Z.vm := (State.Warmed39.refl Z).alike
theorem Sx.keep {Z : State} {h h' : Heap} {Ds ws : List Addr} {a : Addr} {u : Array UInt16} (F : Sx Z h Ds a u) (K : Keep h h' ws) (q : ∀ x ∈ ws, x ∈ Ds) : Sx Z h' Ds a u := by
  obtain ⟨s, cS, h1, h2, h3, h4, h5, h6, h7⟩ := F
  exact ⟨s, cS, h1, Sl.carry (U := ({ Z with heap := h } : State)) (U' := ({ Z with heap := h' } : State)) (own_al Z) (K.2.1 _ _ h2.1.1 (fun m => h6 (q _ m))) (K.2.1 _ _ h2.1.2.2.2.2.2.2.2.2.2.1 (fun m => h7 (q _ m))) h2, h3, h4, h5, h6, h7⟩
theorem Sx.less {Z : State} {h : Heap} {Ds Ds' : List Addr} {a : Addr} {u : Array UInt16} (F : Sx Z h Ds a u) (q : ∀ x ∈ Ds', x ∈ Ds) : Sx Z h Ds' a u := by
  obtain ⟨s, cS, h1, h2, h3, h4, h5, h6, h7⟩ := F
  exact ⟨s, cS, h1, h2, h3, h4, h5, fun m => h6 (q _ m), fun m => h7 (q _ m)⟩
theorem Sx.more {Z : State} {h : Heap} {Ds : List Addr} {a b : Addr} {u : Array UInt16} (F : Sx Z h Ds a u) (hb : h.size ≤ b) : Sx Z h (b :: Ds) a u := by
  obtain ⟨s, cS, h1, h2, h3, h4, h5, h6, h7⟩ := F
  have l1 : s.sa < h.size := (Array.getElem?_eq_some_iff.mp h2.1.1).1
  have l2 : s.sd < h.size := (Array.getElem?_eq_some_iff.mp h2.1.2.2.2.2.2.2.2.2.2.1).1
  refine ⟨s, cS, h1, h2, h3, h4, h5, fun m => ?_, fun m => ?_⟩
  · rcases List.mem_cons.mp m with e | e
    · exact absurd e (Nat.ne_of_lt (Nat.lt_of_lt_of_le l1 hb))
    · exact h6 e
  · rcases List.mem_cons.mp m with e | e
    · exact absurd e (Nat.ne_of_lt (Nat.lt_of_lt_of_le l2 hb))
    · exact h7 e
def Lk (Z : State) : Prop := ∀ (own : String) (idx : Nat), (own, idx) ∈ CL → ∃ (a0 : Array Value) (text : String), (Jvm.Cond.stringLink own idx text).before a0 Z = true ∧ (∀ c ∈ text.toList, c.toNat < 256) ∧ ∀ d ∈ Bundle.stringAtoms, d.before a0 Z = true
def JJ (Z : State) (n0 : Nat) (vm : Vm) (h : Heap) (Ds : List Addr) : Prop :=
  Old Z n0 h ∧ (CL = [] → Z.WarmedH vm) ∧ (∀ x ∈ Ds, n0 ≤ x ∧ x < h.size) ∧ Lk Z ∧
    ∀ (own : String) (idx : Nat), (own, idx) ∈ CL → ∀ (c : ClassId) (k : Class) (cf : ClassFile) (i : Nat) (units : Array UInt16) (a : Addr), vm.findClass own = some c → vm.classes[c]? = some k → k.cf = some cf →
      cf.constantPool[idx]? = some (.string i) → cf.constantPool[i]? = some (.utf8 units) →
      (k.resolved[idx]? = some (some (.string a)) ∨ (k.resolved[idx]? = some none ∧ vm.interned.find? (fun p => p.1 == units) = some (units, a))) → Sx Z h Ds a units
theorem JJ.keep {Z : State} {n0 : Nat} {vm : Vm} {h h' : Heap} {Ds ws : List Addr} (J : JJ Z n0 vm h Ds) (K : Keep h h' ws) (q : ∀ x ∈ ws, x ∈ Ds) : JJ Z n0 vm h' Ds :=
  ⟨J.1.keep K (fun x hx => (J.2.2.1 x (q x hx)).1), J.2.1, fun x hx => ⟨(J.2.2.1 x hx).1, Nat.lt_of_lt_of_le (J.2.2.1 x hx).2 K.1⟩, J.2.2.2.1, fun o i hm c k cf j u a q1 q2 q3 q4 q5 q6 => (J.2.2.2.2 o i hm c k cf j u a q1 q2 q3 q4 q5 q6).keep K q⟩
theorem JJ.ext {Z : State} {n0 : Nat} {vm : Vm} {h h' : Heap} {Ds : List Addr} (J : JJ Z n0 vm h Ds) (E : Ext h h') : JJ Z n0 vm h' Ds := J.keep ((Keep.refl h []).ext E) (fun x hx => nomatch hx)
theorem JJ.less {Z : State} {n0 : Nat} {vm : Vm} {h : Heap} {Ds Ds' : List Addr} (J : JJ Z n0 vm h Ds) (q : ∀ x ∈ Ds', x ∈ Ds) : JJ Z n0 vm h Ds' :=
  ⟨J.1, J.2.1, fun x hx => J.2.2.1 x (q x hx), J.2.2.2.1, fun o i hm c k cf j u a q1 q2 q3 q4 q5 q6 => (J.2.2.2.2 o i hm c k cf j u a q1 q2 q3 q4 q5 q6).less q⟩
theorem own_n0 {Z : State} {n0 : Nat} {h : Heap} (X : Old Z n0 h) : n0 ≤ h.size := X.1 ▸ X.2.1
theorem JJ.born {Z : State} {n0 : Nat} {vm : Vm} {h h' : Heap} {Ds : List Addr} (J : JJ Z n0 vm h Ds) (E : Ext h h') (hb : h.size < h'.size) : JJ Z n0 vm h' (h.size :: Ds) := by
  refine ⟨J.1.ext E, J.2.1, fun x hx => ?_, J.2.2.2.1, fun o i hm c k cf j u a q1 q2 q3 q4 q5 q6 => ((J.2.2.2.2 o i hm c k cf j u a q1 q2 q3 q4 q5 q6).more (Nat.le_refl _)).keep ((Keep.refl h []).ext E) (fun x hx => nomatch hx)⟩
  rcases List.mem_cons.mp hx with e | e
  · subst e; exact ⟨own_n0 J.1, hb⟩
  · exact ⟨(J.2.2.1 x e).1, Nat.lt_of_lt_of_le (J.2.2.1 x e).2 E.1⟩
theorem JJ.step {Z t : State} {n0 : Nat} {vm' : Vm} {h : Heap} {Ds : List Addr} (J : JJ Z n0 t.vm h Ds) (hZ : Z.Warmed39 t.vm) (hW : t.Warmed39 vm')
    (hint : vm'.interned = t.vm.interned ∨ ∃ (u : Array UInt16) (a' : Addr), vm'.interned = t.vm.interned.push (u, a') ∧ (t.vm.interned.find? (fun p => p.1 == u) = none → Sx Z h Ds a' u)) (hcl : CL = [] → Z.WarmedH vm') : JJ Z n0 vm' h Ds := by
  refine ⟨J.1, hcl, J.2.2.1, J.2.2.2.1, fun own idx hm c k' cf i units a hc' hk' hcf' hp hu hor => ?_⟩
  obtain ⟨a0, text, w, hlat, -⟩ := J.2.2.2.1 own idx hm
  have hal : t.vm.Alike vm' := hW.alike
  have hc : t.vm.findClass own = some c := by rw [← hal.findClass]; exact hc'
  have wt : (Jvm.Cond.stringLink own idx text).before a0 t = true := mvS (s := t) (vm0 := t.vm) hZ w
  obtain ⟨k, cf0, i0, units0, hk, hcf, hp0, hu0, hnm, htext, -⟩ := Cond.stringLink_spec hc wt
  obtain ⟨k'', hk'', hke, -, ee, -⟩ := hW.2.2.2 c k hk
  cases hk'.symm.trans hk''
  have hcfk : k'.cf = k.cf := by rw [hke]
  cases (hcfk ▸ hcf').symm.trans hcf
  cases hp.symm.trans hp0
  cases hu.symm.trans hu0
  have base := fun a => J.2.2.2.2 own idx hm c k cf i units a hc hk hcf hp hu
  have hfind : ∀ a, vm'.interned.find? (fun p => p.1 == units) = some (units, a) → k.resolved[idx]? = some none → Sx Z h Ds a units := by
    intro a hf hop
    rcases hint with e | ⟨u, a', e, hS⟩
    · rw [e] at hf; exact base a (Or.inr ⟨hop, hf⟩)
    · rw [e, Array.find?_push] at hf
      cases hs : t.vm.interned.find? (fun p => p.1 == units) with
      | some pr =>
        rw [hs] at hf
        have hpr : pr = (units, a) := by simpa using hf
        exact base a (Or.inr ⟨hop, by rw [hs, hpr]⟩)
      | none =>
        rw [hs, Option.none_or] at hf
        by_cases hb : (u == units) = true
        · have hu' : u = units := by simpa using hb
          subst hu'
          have : a' = a := by simpa using hf
          subst this
          exact hS hs
        · simp [hb] at hf
  rcases ee idx with e0 | ⟨hop, r, e1, hr | ⟨a3, t', si, us, rfl, -, q3, q4, q5⟩⟩
  · rcases hor with h0 | ⟨h0, hf⟩
    · exact base a (Or.inl (e0 ▸ h0))
    · exact hfind a hf (e0 ▸ h0)
  · exfalso
    cases r <;> simp [State.rightAt, hk, hcf, hnm] at hr
  · rw [hcf] at q3 q4
    have e3 : si = i := by
      have := q3.symm.trans hp
      simpa using this
    subst e3
    have e4 : us = units := by simpa [ConstantPool.utf8?, hu] using q4.symm
    subst e4
    rcases hor with h0 | ⟨h0, -⟩
    · have ea : a3 = a := by have := e1.symm.trans h0; simpa using this
      subst ea
      exact hfind a3 q5 hop
    · have := e1.symm.trans h0; simp at this
theorem JJ.warm {Z t : State} {n0 : Nat} {vm' : Vm} {h : Heap} {Ds : List Addr} (J : JJ Z n0 t.vm h Ds) (hZ : Z.Warmed39 t.vm) (hW : t.WarmedH vm') : JJ Z n0 vm' h Ds :=
  J.step hZ hW.wide (Or.inl hW.interned_eq) (fun e => State.WarmedH.trans (J.2.1 e) hW)
abbrev Cx : Type := Program × Launch × Env × State × MethodId × Array Value × List Frame × Method × Code × State
abbrev Cx.p (C : Cx) : Program := C.1
abbrev Cx.l (C : Cx) : Launch := C.2.1
abbrev Cx.e (C : Cx) : Env := C.2.2.1
abbrev Cx.s (C : Cx) : State := C.2.2.2.1
abbrev Cx.m (C : Cx) : MethodId := C.2.2.2.2.1
abbrev Cx.args (C : Cx) : Array Value := C.2.2.2.2.2.1
abbrev Cx.below (C : Cx) : List Frame := C.2.2.2.2.2.2.1
abbrev Cx.meth (C : Cx) : Method := C.2.2.2.2.2.2.2.1
abbrev Cx.c (C : Cx) : Code := C.2.2.2.2.2.2.2.2.1
abbrev Cx.s0 (C : Cx) : State := C.2.2.2.2.2.2.2.2.2
/-- the run has come to pc -/
def Rc (C : Cx) (R : Room) (own : String) (bs : ByteArray) (ml : Nat) (Z : State) (n0 ce sl pc : Nat) (Ls : Array Slot) (S : List Value) (h : Heap) (Ds : List Addr) : Prop :=
  ∃ (T : State) (locs : List Loc) (vm0 : Vm) (k0 : Nat), Stand C.p C.l C.e R (C.s.setVm vm0) C.m C.args C.below C.meth C.c T locs ce sl ∧ C.s.Since vm0 k0 ∧ k0 ≤ h.size ∧ Z.Warmed39 vm0 ∧ JJ Z n0 vm0 h Ds ∧ T.heap = h ∧ Fr n0 locs ∧
    (C.p.tables.exec = Jvm.exec ∧ C.c.code = bs ∧ C.c.maxLocals = ml ∧ vm0.findClass own = some C.m.cls ∧ C.meth.locks = false) ∧
    ∀ t, Steps C.p.tables C.e C.below (T.setTop (mkF C.m pc Ls S)) t → Steps C.p.tables C.e C.below C.s0 t
/-- the invocation has ended -/
def Done (C : Cx) (Z : State) (n0 : Nat) (Q : Option Value → Heap → List Addr → Prop) (kc ks : Nat) : Prop :=
  ∃ (t : State) (o : Outcome), Steps C.p.tables C.e C.below C.s0 t ∧ t.status = .running ∧ Ended t C.below o ∧ ∃ (v : Option Value) (L : List Loc) (Ds : List Addr), o = .returned v ∧ Q v t.heap Ds ∧ JJ Z n0 t.vm t.heap Ds ∧ Fr n0 L ∧ ReturnedEndW C.s o t L kc ks
/-- a contract -/
def Ctr (l : Launch) (Z : State) (y : MethodName) (bytes : ByteArray) (maxL : Nat) (ret : Option FieldType) (ws : List Jvm.Cond) (rm : Room) (as' : Array Value) (h : Heap) (n0 : Nat) (Ds : List Addr) (Q : Option Value → Heap → List Addr → Prop) : Prop :=
  MetFree l y (head1 (Jvm.Cond.code y bytes maxL ret :: ws) rm) (fun a U => a = as' ∧ Z.Warmed39 U.vm ∧ U.heap = h ∧ JJ Z n0 U.vm h Ds) (fun _ _ _ _ _ => True)
    (fun _ U o U' => ∃ (v : Option Value) (L : List Loc) (Ds' : List Addr), o = .returned v ∧ Q v U'.heap Ds' ∧ JJ Z n0 U'.vm U'.heap Ds' ∧ Fr n0 L ∧ ReturnedEndW U o U' L rm.cells rm.slots)
theorem ctr_of {l : Launch} {Z : State} {y : MethodName} {bytes : ByteArray} {maxL : Nat} {ret : Option FieldType} {ws : List Jvm.Cond} {rm : Room} {as' : Array Value} {h : Heap} {n0 : Nat} {Ds : List Addr} {Q : Option Value → Heap → List Addr → Prop} {Ls : Array Slot}
    (pf : plainFor y = true) (ef : ∀ m : MethodId, entryFrame m as' maxL = mkF m 0 Ls [])
    (wk : ∀ C : Cx, C.l = l → C.meth.sig.returnType = ret → C.meth.name = y.name → Rc C rm y.cls bytes maxL Z n0 0 0 0 Ls [] h Ds → Done C Z n0 Q rm.cells rm.slots) : Ctr l Z y bytes maxL ret ws rm as' h n0 Ds Q := by
  refine MetFree.of_bodySF pf hisR ?_
  intro p e s m args below meth c s₁ Bd hml0 hP hK
  obtain ⟨rfl, hZ, hh, hJ⟩ := hP
  have X0 : Stand p l e rm s m args below meth c s₁ [] 0 0 := Stand.of_body Bd
  have e0 : s₁.heap = h := by rw [← hh, Bd.state]; rfl
  have hown : s.vm.findClass y.cls = some m.cls := findClass_of_methodNamed Bd.named
  have hnm := (name_of_methodNamed Bd.named Bd.method).1
  have hlk : meth.locks = false := BodyLoose.notSynchronized Bd
  exact wk (p, l, e, s, m, args, below, meth, c, s₁.setTop (entryFrame m args maxL)) rfl Bd.returns hnm
    ⟨s₁, [], s.vm, 0, X0, (State.WarmedH.refl s).since 0, Nat.zero_le _, hZ, hJ, e0, Fr.nil n0, ⟨Bd.exec, Bd.bytes, hml0, hown, hlk⟩, fun t k => castTop (ef m) k⟩
theorem ctrBack {l : Launch} {R : Room} {p : Program} {e : Env} {below : List Frame} {s : State} {args : Array Value} {Z : State} {a0 : Array Value} {h : Heap} {n0 : Nat} {Ds : List Addr} {y : MethodName} {bytes : ByteArray} {maxL : Nat} {ret : Option FieldType} {rm : Room} {len W : Nat} {as' : Array Value} {Q : Option Value → Heap → List Addr → Prop}
    (hM : Ctr l Z y bytes maxL ret [] rm as' h n0 Ds Q) (hZ : Z.Warmed39 s.vm) (hJ : JJ Z n0 s.vm h Ds) (wc : (Jvm.Cond.code y bytes maxL ret).before a0 Z = true) (wz : (Jvm.Cond.initialized y.cls).before a0 Z = true) (hf : rm.frames + 1 ≤ R.frames) (hl : W + (maxL + 11) + rm.locals ≤ R.locals) :
    BackS l R p e below s args y len W (fun A a => a = as' ∧ A.U.heap = h ∧ A.cells + rm.cells ≤ R.cells ∧ A.slots + rm.slots ≤ R.slots)
      (fun A _ v B => ∃ (L : List Loc) (Ds' : List Addr), Q v B.U.heap Ds' ∧ JJ Z n0 B.U.vm B.U.heap Ds' ∧ Fr n0 L ∧ B.locs = A.locs ++ L ∧ B.cells = A.cells + rm.cells ∧ B.slots = A.slots + rm.slots) :=
  BackS.of_freeW (bytes := bytes) (maxL := maxL) (ret := ret) (E := fun _ _ o t L k n => k = rm.cells ∧ n = rm.slots ∧ ∃ (v : Option Value) (Ds' : List Addr), o = .returned v ∧ Q v t.heap Ds' ∧ JJ Z n0 t.vm t.heap Ds' ∧ Fr n0 L) hM hf hl
    (fun m meth c A a Y hp => have hU : Z.Warmed39 A.U.vm := wtrans hZ Y.warmed
      ⟨by show (Jvm.Cond.and _ .tt).before a A.U = true; rw [Cond.before_and, mv hU wc]; rfl, mv hU wc, mv hU wz, hp.2.2.1, hp.2.2.2⟩)
    (fun m meth c A a g mk Y hp => ⟨hp.1, wtrans hZ Y.warmed, hp.2.1, hJ.warm hZ Y.warmed⟩) (fun _ _ _ _ _ _ _ _ _ => trivial)
    (fun _ _ _ _ ⟨v, L, Ds', h1, h2, h3, h4, h5⟩ => ⟨L, _, _, h5, rfl, rfl, v, Ds', h1, h2, h3, h4⟩)
    (fun m meth c A a g mk v t L k n Y hp _ _ ⟨e1, e2, v', Ds', e3, e4, e5, e6⟩ => by cases e3; subst e1 e2; exact ⟨L, Ds', e4, e5, e6, rfl, rfl, rfl⟩)
variable {C : Cx} {R : Room} {own : String} {bs : ByteArray} {ml : Nat} {Z : State} {n0 ce sl pc : Nat} {Ls : Array Slot} {S rest : List Value} {h : Heap} {Ds : List Addr} {a0 : Array Value}
theorem Rc.go {pc' : Nat} {Ls' : Array Slot} {S' : List Value} (H : Rc C R own bs ml Z n0 ce sl pc Ls S h Ds) (f : ∀ T t, At T C.m C.c C.below → C.p.tables.exec = Jvm.exec → C.c.code = bs → Steps C.p.tables C.e C.below (T.setTop (mkF C.m pc' Ls' S')) t → Steps C.p.tables C.e C.below (T.setTop (mkF C.m pc Ls S)) t) : Rc C R own bs ml Z n0 ce sl pc' Ls' S' h Ds := by
  obtain ⟨T, locs, vm0, k0, X, h1, h2, h3, h4, h5, h6, h7, k⟩ := H
  exact ⟨T, locs, vm0, k0, X, h1, h2, h3, h4, h5, h6, h7, fun t ht => k _ (f T t X.here h7.1 h7.2.1 ht)⟩
theorem Rc.goX {pc' : Nat} {Ls' : Array Slot} {S' : List Value} (H : Rc C R own bs ml Z n0 ce sl pc Ls S h Ds) (f : ∀ (s : State) (T : State) (locs : List Loc) t, Stand C.p C.l C.e R s C.m C.args C.below C.meth C.c T locs ce sl → Z.Warmed39 s.vm → s.vm.findClass own = some C.m.cls → T.heap = h → C.p.tables.exec = Jvm.exec → C.c.code = bs → Steps C.p.tables C.e C.below (T.setTop (mkF C.m pc' Ls' S')) t → Steps C.p.tables C.e C.below (T.setTop (mkF C.m pc Ls S)) t) : Rc C R own bs ml Z n0 ce sl pc' Ls' S' h Ds := by
  obtain ⟨T, locs, vm0, k0, X, h1, h2, h3, h4, h5, h6, h7, k⟩ := H
  exact ⟨T, locs, vm0, k0, X, h1, h2, h3, h4, h5, h6, h7, fun t ht => k _ (f _ T locs t X h3 h7.2.2.2.1 h5 h7.1 h7.2.1 ht)⟩
theorem Rc.stk {S' : List Value} (H : Rc C R own bs ml Z n0 ce sl pc Ls S h Ds) (e : S = S') : Rc C R own bs ml Z n0 ce sl pc Ls S' h Ds := e ▸ H
theorem Rc.loc {Ls' : Array Slot} (H : Rc C R own bs ml Z n0 ce sl pc Ls S h Ds) (e : Ls = Ls') : Rc C R own bs ml Z n0 ce sl pc Ls' S h Ds := e ▸ H
theorem Rc.old (H : Rc C R own bs ml Z n0 ce sl pc Ls S h Ds) : Old Z n0 h := by
  obtain ⟨T, locs, vm0, k0, X, h1, h2, h3, h4, h5, h6, h7, k⟩ := H
  exact h4.1
theorem Rc.mem (H : Rc C R own bs ml Z n0 ce sl pc Ls S h Ds) {x : Addr} (hx : x ∈ Ds) : n0 ≤ x ∧ x < h.size := by
  obtain ⟨T, locs, vm0, k0, X, h1, h2, h3, h4, h5, h6, h7, k⟩ := H
  exact h4.2.2.1 x hx
theorem Rc.mono {ce' sl' : Nat} (H : Rc C R own bs ml Z n0 ce sl pc Ls S h Ds) (h1 : ce ≤ ce') (h2 : sl ≤ sl') : Rc C R own bs ml Z n0 ce' sl' pc Ls S h Ds := by
  obtain ⟨T, locs, vm0, k0, X, r⟩ := H
  exact ⟨T, locs, vm0, k0, X.mono h1 h2, r⟩
theorem Rc.less {Ds' : List Addr} (H : Rc C R own bs ml Z n0 ce sl pc Ls S h Ds) (q : ∀ x ∈ Ds', x ∈ Ds) : Rc C R own bs ml Z n0 ce sl pc Ls S h Ds' := by
  obtain ⟨T, locs, vm0, k0, X, h1, h2, h3, h4, r⟩ := H
  exact ⟨T, locs, vm0, k0, X, h1, h2, h3, h4.less q, r⟩
theorem Rc.iload {pc' : Nat} {k : Nat} {v : Int32} (H : Rc C R own bs ml Z n0 ce sl pc Ls S h Ds) (hd : decode bs pc = .ok (.iload k, 2)) (hl : Ls[k]? = some (.val (.int v))) (hp : pc + 2 = pc') : Rc C R own bs ml Z n0 ce sl pc' Ls (.int v :: S) h Ds := by
  subst hp
  exact H.go fun T t hA hx hby kk => XS.iload hA hx rfl (hb hby hd) hl kk
theorem Rc.iloadN {pc' : Nat} {k : Fin 4} {v : Int32} (H : Rc C R own bs ml Z n0 ce sl pc Ls S h Ds) (hd : decode bs pc = .ok (.iload_n k, 1)) (hl : Ls[k.val]? = some (.val (.int v))) (hp : pc + 1 = pc') : Rc C R own bs ml Z n0 ce sl pc' Ls (.int v :: S) h Ds := by
  subst hp
  exact H.go fun T t hA hx hby kk => XS.iloadN hA hx rfl (hb hby hd) hl kk
theorem Rc.aload {pc' : Nat} {k : Nat} {v : Value} (H : Rc C R own bs ml Z n0 ce sl pc Ls S h Ds) (hd : decode bs pc = .ok (.aload k, 2)) (hl : Ls[k]? = some (.val v)) (hv : v.isRef = true) (hp : pc + 2 = pc') : Rc C R own bs ml Z n0 ce sl pc' Ls (v :: S) h Ds := by
  subst hp
  exact H.go fun T t hA hx hby kk => XS.aload hA hx rfl (hb hby hd) hl hv kk
theorem Rc.aloadN {pc' : Nat} {k : Fin 4} {v : Value} (H : Rc C R own bs ml Z n0 ce sl pc Ls S h Ds) (hd : decode bs pc = .ok (.aload_n k, 1)) (hl : Ls[k.val]? = some (.val v)) (hv : v.isRef = true) (hp : pc + 1 = pc') : Rc C R own bs ml Z n0 ce sl pc' Ls (v :: S) h Ds := by
  subst hp
  exact H.go fun T t hA hx hby kk => XS.aloadN hA hx rfl (hb hby hd) hl hv kk
theorem Rc.lload {pc' : Nat} {k : Nat} {v : Int64} (H : Rc C R own bs ml Z n0 ce sl pc Ls S h Ds) (hd : decode bs pc = .ok (.lload k, 2)) (hl : Ls[k]? = some (.val (.long v))) (hp : pc + 2 = pc') : Rc C R own bs ml Z n0 ce sl pc' Ls (.long v :: S) h Ds := by
  subst hp
  exact H.go fun T t hA hx hby kk => XS.lload hA hx rfl (hb hby hd) hl kk
theorem Rc.lloadN {pc' : Nat} {k : Fin 4} {v : Int64} (H : Rc C R own bs ml Z n0 ce sl pc Ls S h Ds) (hd : decode bs pc = .ok (.lload_n k, 1)) (hl : Ls[k.val]? = some (.val (.long v))) (hp : pc + 1 = pc') : Rc C R own bs ml Z n0 ce sl pc' Ls (.long v :: S) h Ds := by
  subst hp
  exact H.go fun T t hA hx hby kk => XS.lloadN hA hx rfl (hb hby hd) hl kk
theorem Rc.istore {pc' : Nat} {k : Nat} {x : Int32} {l' : Array Slot} (H : Rc C R own bs ml Z n0 ce sl pc Ls (.int x :: rest) h Ds) (hd : decode bs pc = .ok (.istore k, 2)) (hl : storeLocals Ls k (.int x) = some l') (hp : pc + 2 = pc') : Rc C R own bs ml Z n0 ce sl pc' l' rest h Ds := by
  subst hp
  exact H.go fun T t hA hx hby kk => XS.istore hA hx rfl (hb hby hd) rfl hl kk
theorem Rc.istoreN {pc' : Nat} {k : Fin 4} {x : Int32} {l' : Array Slot} (H : Rc C R own bs ml Z n0 ce sl pc Ls (.int x :: rest) h Ds) (hd : decode bs pc = .ok (.istore_n k, 1)) (hl : storeLocals Ls k.val (.int x) = some l') (hp : pc + 1 = pc') : Rc C R own bs ml Z n0 ce sl pc' l' rest h Ds := by
  subst hp
  exact H.go fun T t hA hx hby kk => XS.istoreN hA hx rfl (hb hby hd) rfl hl kk
theorem Rc.astore {pc' : Nat} {k : Nat} {x : Value} {l' : Array Slot} (H : Rc C R own bs ml Z n0 ce sl pc Ls (x :: rest) h Ds) (hd : decode bs pc = .ok (.astore k, 2)) (hv : x.isRef = true) (hl : storeLocals Ls k x = some l') (hp : pc + 2 = pc') : Rc C R own bs ml Z n0 ce sl pc' l' rest h Ds := by
  subst hp
  exact H.go fun T t hA hx hby kk => XS.astore hA hx rfl (hb hby hd) rfl hv hl kk
theorem Rc.astoreN {pc' : Nat} {k : Fin 4} {x : Value} {l' : Array Slot} (H : Rc C R own bs ml Z n0 ce sl pc Ls (x :: rest) h Ds) (hd : decode bs pc = .ok (.astore_n k, 1)) (hv : x.isRef = true) (hl : storeLocals Ls k.val x = some l') (hp : pc + 1 = pc') : Rc C R own bs ml Z n0 ce sl pc' l' rest h Ds := by
  subst hp
  exact H.go fun T t hA hx hby kk => XS.astoreN hA hx rfl (hb hby hd) rfl hv hl kk
theorem Rc.lstore {pc' : Nat} {k : Nat} {x : Int64} {l' : Array Slot} (H : Rc C R own bs ml Z n0 ce sl pc Ls (.long x :: rest) h Ds) (hd : decode bs pc = .ok (.lstore k, 2)) (hl : storeLocals Ls k (.long x) = some l') (hp : pc + 2 = pc') : Rc C R own bs ml Z n0 ce sl pc' l' rest h Ds := by
  subst hp
  exact H.go fun T t hA hx hby kk => XS.lstore hA hx rfl (hb hby hd) rfl hl kk
theorem Rc.lstoreN {pc' : Nat} {k : Fin 4} {x : Int64} {l' : Array Slot} (H : Rc C R own bs ml Z n0 ce sl pc Ls (.long x :: rest) h Ds) (hd : decode bs pc = .ok (.lstore_n k, 1)) (hl : storeLocals Ls k.val (.long x) = some l') (hp : pc + 1 = pc') : Rc C R own bs ml Z n0 ce sl pc' l' rest h Ds := by
  subst hp
  exact H.go fun T t hA hx hby kk => XS.lstoreN hA hx rfl (hb hby hd) rfl hl kk
theorem Rc.iconst {pc' : Nat} {i : Int} {z : Int32} (H : Rc C R own bs ml Z n0 ce sl pc Ls S h Ds) (hd : decode bs pc = .ok (.iconst i, 1)) (hz : Int32.ofInt i = z) (hp : pc + 1 = pc') : Rc C R own bs ml Z n0 ce sl pc' Ls (.int z :: S) h Ds := by
  subst hp hz
  exact H.go fun T t hA hx hby kk => XS.iconst hA hx rfl (hb hby hd) kk
theorem Rc.bipush {pc' : Nat} {i : Int} {z : Int32} (H : Rc C R own bs ml Z n0 ce sl pc Ls S h Ds) (hd : decode bs pc = .ok (.bipush i, 2)) (hz : (Int8.ofInt i).toInt32 = z) (hp : pc + 2 = pc') : Rc C R own bs ml Z n0 ce sl pc' Ls (.int z :: S) h Ds := by
  subst hp hz
  exact H.go fun T t hA hx hby kk => XS.bipush hA hx rfl (hb hby hd) kk
theorem Rc.sipush {pc' : Nat} {i : Int} {z : Int32} (H : Rc C R own bs ml Z n0 ce sl pc Ls S h Ds) (hd : decode bs pc = .ok (.sipush i, 3)) (hz : (Int16.ofInt i).toInt32 = z) (hp : pc + 3 = pc') : Rc C R own bs ml Z n0 ce sl pc' Ls (.int z :: S) h Ds := by
  subst hp hz
  exact H.go fun T t hA hx hby kk => XS.sipush hA hx rfl (hb hby hd) kk
theorem Rc.lconst {pc' : Nat} {i : Fin 2} {z : Int64} (H : Rc C R own bs ml Z n0 ce sl pc Ls S h Ds) (hd : decode bs pc = .ok (.lconst i, 1)) (hz : Int64.ofNat i = z) (hp : pc + 1 = pc') : Rc C R own bs ml Z n0 ce sl pc' Ls (.long z :: S) h Ds := by
  subst hp hz
  exact H.go fun T t hA hx hby kk => XS.lconst hA hx rfl (hb hby hd) kk
theorem Rc.anull {pc' : Nat}  (H : Rc C R own bs ml Z n0 ce sl pc Ls S h Ds) (hd : decode bs pc = .ok (.aconst_null, 1)) (hp : pc + 1 = pc') : Rc C R own bs ml Z n0 ce sl pc' Ls (.null :: S) h Ds := by
  subst hp
  exact H.go fun T t hA hx hby kk => XS.aconstNull hA hx rfl (hb hby hd) kk
theorem Rc.iadd {pc' : Nat} {x y : Int32} (H : Rc C R own bs ml Z n0 ce sl pc Ls (.int y :: .int x :: rest) h Ds) (hd : decode bs pc = .ok (.iadd, 1)) (hp : pc + 1 = pc') : Rc C R own bs ml Z n0 ce sl pc' Ls (.int (x + y) :: rest) h Ds := by
  subst hp
  exact H.go fun T t hA hx hby kk => XS.iadd hA hx rfl (hb hby hd) rfl kk
theorem Rc.ladd {pc' : Nat} {x y : Int64} (H : Rc C R own bs ml Z n0 ce sl pc Ls (.long y :: .long x :: rest) h Ds) (hd : decode bs pc = .ok (.ladd, 1)) (hp : pc + 1 = pc') : Rc C R own bs ml Z n0 ce sl pc' Ls (.long (x + y) :: rest) h Ds := by
  subst hp
  exact H.go fun T t hA hx hby kk => XS.ladd hA hx rfl (hb hby hd) rfl kk
theorem Rc.isub {pc' : Nat} {x y : Int32} (H : Rc C R own bs ml Z n0 ce sl pc Ls (.int y :: .int x :: rest) h Ds) (hd : decode bs pc = .ok (.isub, 1)) (hp : pc + 1 = pc') : Rc C R own bs ml Z n0 ce sl pc' Ls (.int (x - y) :: rest) h Ds := by
  subst hp
  exact H.go fun T t hA hx hby kk => XS.isub hA hx rfl (hb hby hd) rfl kk
theorem Rc.lsub {pc' : Nat} {x y : Int64} (H : Rc C R own bs ml Z n0 ce sl pc Ls (.long y :: .long x :: rest) h Ds) (hd : decode bs pc = .ok (.lsub, 1)) (hp : pc + 1 = pc') : Rc C R own bs ml Z n0 ce sl pc' Ls (.long (x - y) :: rest) h Ds := by
  subst hp
  exact H.go fun T t hA hx hby kk => XS.lsub hA hx rfl (hb hby hd) rfl kk
theorem Rc.imul {pc' : Nat} {x y : Int32} (H : Rc C R own bs ml Z n0 ce sl pc Ls (.int y :: .int x :: rest) h Ds) (hd : decode bs pc = .ok (.imul, 1)) (hp : pc + 1 = pc') : Rc C R own bs ml Z n0 ce sl pc' Ls (.int (x * y) :: rest) h Ds := by
  subst hp
  exact H.go fun T t hA hx hby kk => XS.imul hA hx rfl (hb hby hd) rfl kk
theorem Rc.lmul {pc' : Nat} {x y : Int64} (H : Rc C R own bs ml Z n0 ce sl pc Ls (.long y :: .long x :: rest) h Ds) (hd : decode bs pc = .ok (.lmul, 1)) (hp : pc + 1 = pc') : Rc C R own bs ml Z n0 ce sl pc' Ls (.long (x * y) :: rest) h Ds := by
  subst hp
  exact H.go fun T t hA hx hby kk => XS.lmul hA hx rfl (hb hby hd) rfl kk
theorem Rc.iand {pc' : Nat} {x y : Int32} (H : Rc C R own bs ml Z n0 ce sl pc Ls (.int y :: .int x :: rest) h Ds) (hd : decode bs pc = .ok (.iand, 1)) (hp : pc + 1 = pc') : Rc C R own bs ml Z n0 ce sl pc' Ls (.int (x &&& y) :: rest) h Ds := by
  subst hp
  exact H.go fun T t hA hx hby kk => XS.iand hA hx rfl (hb hby hd) rfl kk
theorem Rc.land {pc' : Nat} {x y : Int64} (H : Rc C R own bs ml Z n0 ce sl pc Ls (.long y :: .long x :: rest) h Ds) (hd : decode bs pc = .ok (.land, 1)) (hp : pc + 1 = pc') : Rc C R own bs ml Z n0 ce sl pc' Ls (.long (x &&& y) :: rest) h Ds := by
  subst hp
  exact H.go fun T t hA hx hby kk => XS.land hA hx rfl (hb hby hd) rfl kk
theorem Rc.ior {pc' : Nat} {x y : Int32} (H : Rc C R own bs ml Z n0 ce sl pc Ls (.int y :: .int x :: rest) h Ds) (hd : decode bs pc = .ok (.ior, 1)) (hp : pc + 1 = pc') : Rc C R own bs ml Z n0 ce sl pc' Ls (.int (x ||| y) :: rest) h Ds := by
  subst hp
  exact H.go fun T t hA hx hby kk => XS.ior hA hx rfl (hb hby hd) rfl kk
theorem Rc.lor {pc' : Nat} {x y : Int64} (H : Rc C R own bs ml Z n0 ce sl pc Ls (.long y :: .long x :: rest) h Ds) (hd : decode bs pc = .ok (.lor, 1)) (hp : pc + 1 = pc') : Rc C R own bs ml Z n0 ce sl pc' Ls (.long (x ||| y) :: rest) h Ds := by
  subst hp
  exact H.go fun T t hA hx hby kk => XS.lor hA hx rfl (hb hby hd) rfl kk
theorem Rc.ixor {pc' : Nat} {x y : Int32} (H : Rc C R own bs ml Z n0 ce sl pc Ls (.int y :: .int x :: rest) h Ds) (hd : decode bs pc = .ok (.ixor, 1)) (hp : pc + 1 = pc') : Rc C R own bs ml Z n0 ce sl pc' Ls (.int (x ^^^ y) :: rest) h Ds := by
  subst hp
  exact H.go fun T t hA hx hby kk => XS.ixor hA hx rfl (hb hby hd) rfl kk
theorem Rc.lxor {pc' : Nat} {x y : Int64} (H : Rc C R own bs ml Z n0 ce sl pc Ls (.long y :: .long x :: rest) h Ds) (hd : decode bs pc = .ok (.lxor, 1)) (hp : pc + 1 = pc') : Rc C R own bs ml Z n0 ce sl pc' Ls (.long (x ^^^ y) :: rest) h Ds := by
  subst hp
  exact H.go fun T t hA hx hby kk => XS.lxor hA hx rfl (hb hby hd) rfl kk
theorem Rc.ishl {pc' : Nat} {x : Int32} {y : Int32} (H : Rc C R own bs ml Z n0 ce sl pc Ls (.int y :: .int x :: rest) h Ds) (hd : decode bs pc = .ok (.ishl, 1)) (hp : pc + 1 = pc') : Rc C R own bs ml Z n0 ce sl pc' Ls (.int (x <<< (y &&& 31)) :: rest) h Ds := by
  subst hp
  exact H.go fun T t hA hx hby kk => XS.ishl hA hx rfl (hb hby hd) rfl kk
theorem Rc.ishr {pc' : Nat} {x : Int32} {y : Int32} (H : Rc C R own bs ml Z n0 ce sl pc Ls (.int y :: .int x :: rest) h Ds) (hd : decode bs pc = .ok (.ishr, 1)) (hp : pc + 1 = pc') : Rc C R own bs ml Z n0 ce sl pc' Ls (.int (x >>> (y &&& 31)) :: rest) h Ds := by
  subst hp
  exact H.go fun T t hA hx hby kk => XS.ishr hA hx rfl (hb hby hd) rfl kk
theorem Rc.iushr {pc' : Nat} {x : Int32} {y : Int32} (H : Rc C R own bs ml Z n0 ce sl pc Ls (.int y :: .int x :: rest) h Ds) (hd : decode bs pc = .ok (.iushr, 1)) (hp : pc + 1 = pc') : Rc C R own bs ml Z n0 ce sl pc' Ls (.int ((x.toUInt32 >>> (y &&& 31).toUInt32).toInt32) :: rest) h Ds := by
  subst hp
  exact H.go fun T t hA hx hby kk => XS.iushr hA hx rfl (hb hby hd) rfl kk
theorem Rc.lshl {pc' : Nat} {x : Int64} {y : Int32} (H : Rc C R own bs ml Z n0 ce sl pc Ls (.int y :: .long x :: rest) h Ds) (hd : decode bs pc = .ok (.lshl, 1)) (hp : pc + 1 = pc') : Rc C R own bs ml Z n0 ce sl pc' Ls (.long (x <<< (y &&& 0x3f).toInt64) :: rest) h Ds := by
  subst hp
  exact H.go fun T t hA hx hby kk => XS.lshl hA hx rfl (hb hby hd) rfl kk
theorem Rc.lshr {pc' : Nat} {x : Int64} {y : Int32} (H : Rc C R own bs ml Z n0 ce sl pc Ls (.int y :: .long x :: rest) h Ds) (hd : decode bs pc = .ok (.lshr, 1)) (hp : pc + 1 = pc') : Rc C R own bs ml Z n0 ce sl pc' Ls (.long (x >>> (y &&& 0x3f).toInt64) :: rest) h Ds := by
  subst hp
  exact H.go fun T t hA hx hby kk => XS.lshr hA hx rfl (hb hby hd) rfl kk
theorem Rc.lushr {pc' : Nat} {x : Int64} {y : Int32} (H : Rc C R own bs ml Z n0 ce sl pc Ls (.int y :: .long x :: rest) h Ds) (hd : decode bs pc = .ok (.lushr, 1)) (hp : pc + 1 = pc') : Rc C R own bs ml Z n0 ce sl pc' Ls (.long ((x.toUInt64 >>> (y &&& 0x3f).toInt64.toUInt64).toInt64) :: rest) h Ds := by
  subst hp
  exact H.go fun T t hA hx hby kk => XS.lushr hA hx rfl (hb hby hd) rfl kk
theorem Rc.ineg {pc' : Nat} {x : Int32} (H : Rc C R own bs ml Z n0 ce sl pc Ls (.int x :: rest) h Ds) (hd : decode bs pc = .ok (.ineg, 1)) (hp : pc + 1 = pc') : Rc C R own bs ml Z n0 ce sl pc' Ls (.int (-x) :: rest) h Ds := by
  subst hp
  exact H.go fun T t hA hx hby kk => XS.ineg hA hx rfl (hb hby hd) rfl kk
theorem Rc.lneg {pc' : Nat} {x : Int64} (H : Rc C R own bs ml Z n0 ce sl pc Ls (.long x :: rest) h Ds) (hd : decode bs pc = .ok (.lneg, 1)) (hp : pc + 1 = pc') : Rc C R own bs ml Z n0 ce sl pc' Ls (.long (-x) :: rest) h Ds := by
  subst hp
  exact H.go fun T t hA hx hby kk => XS.lneg hA hx rfl (hb hby hd) rfl kk
theorem Rc.i2l {pc' : Nat} {x : Int32} (H : Rc C R own bs ml Z n0 ce sl pc Ls (.int x :: rest) h Ds) (hd : decode bs pc = .ok (.i2l, 1)) (hp : pc + 1 = pc') : Rc C R own bs ml Z n0 ce sl pc' Ls (.long x.toInt64 :: rest) h Ds := by
  subst hp
  exact H.go fun T t hA hx hby kk => XS.i2l hA hx rfl (hb hby hd) rfl kk
theorem Rc.l2i {pc' : Nat} {x : Int64} (H : Rc C R own bs ml Z n0 ce sl pc Ls (.long x :: rest) h Ds) (hd : decode bs pc = .ok (.l2i, 1)) (hp : pc + 1 = pc') : Rc C R own bs ml Z n0 ce sl pc' Ls (.int x.toInt32 :: rest) h Ds := by
  subst hp
  exact H.go fun T t hA hx hby kk => XS.l2i hA hx rfl (hb hby hd) rfl kk
theorem Rc.i2b {pc' : Nat} {x : Int32} (H : Rc C R own bs ml Z n0 ce sl pc Ls (.int x :: rest) h Ds) (hd : decode bs pc = .ok (.i2b, 1)) (hp : pc + 1 = pc') : Rc C R own bs ml Z n0 ce sl pc' Ls (.int x.toInt8.toInt32 :: rest) h Ds := by
  subst hp
  exact H.go fun T t hA hx hby kk => XS.i2b hA hx rfl (hb hby hd) rfl kk
theorem Rc.i2s {pc' : Nat} {x : Int32} (H : Rc C R own bs ml Z n0 ce sl pc Ls (.int x :: rest) h Ds) (hd : decode bs pc = .ok (.i2s, 1)) (hp : pc + 1 = pc') : Rc C R own bs ml Z n0 ce sl pc' Ls (.int x.toInt16.toInt32 :: rest) h Ds := by
  subst hp
  exact H.go fun T t hA hx hby kk => XS.i2s hA hx rfl (hb hby hd) rfl kk
theorem Rc.i2c {pc' : Nat} {x : Int32} (H : Rc C R own bs ml Z n0 ce sl pc Ls (.int x :: rest) h Ds) (hd : decode bs pc = .ok (.i2c, 1)) (hp : pc + 1 = pc') : Rc C R own bs ml Z n0 ce sl pc' Ls (.int x.toUInt32.toUInt16.toUInt32.toInt32 :: rest) h Ds := by
  subst hp
  exact H.go fun T t hA hx hby kk => XS.i2c hA hx rfl (hb hby hd) rfl kk
theorem Rc.lcmp {pc' : Nat} {x y : Int64} (H : Rc C R own bs ml Z n0 ce sl pc Ls (.long y :: .long x :: rest) h Ds) (hd : decode bs pc = .ok (.lcmp, 1)) (hp : pc + 1 = pc') : Rc C R own bs ml Z n0 ce sl pc' Ls (.int (lcmpW x y) :: rest) h Ds := by
  subst hp
  exact H.go fun T t hA hx hby kk => XS.lcmp hA hx rfl (hb hby hd) rfl kk
theorem Rc.idiv {pc' : Nat} {x y : Int32} (H : Rc C R own bs ml Z n0 ce sl pc Ls (.int y :: .int x :: rest) h Ds) (hd : decode bs pc = .ok (.idiv, 1)) (hy : y ≠ 0) (hp : pc + 1 = pc') : Rc C R own bs ml Z n0 ce sl pc' Ls (.int (x / y) :: rest) h Ds := by
  subst hp
  exact H.go fun T t hA hx hby kk => XS.idiv hA hx rfl (hb hby hd) rfl hy kk
theorem Rc.dup {pc' : Nat} {x : Value} (H : Rc C R own bs ml Z n0 ce sl pc Ls (x :: rest) h Ds) (hd : decode bs pc = .ok (.dup, 1)) (hc : x.category = 1) (hp : pc + 1 = pc') : Rc C R own bs ml Z n0 ce sl pc' Ls (x :: x :: rest) h Ds := by
  subst hp
  exact H.go fun T t hA hx hby kk => XS.dup hA hx rfl (hb hby hd) rfl hc kk
theorem Rc.pop {pc' : Nat} {x : Value} (H : Rc C R own bs ml Z n0 ce sl pc Ls (x :: rest) h Ds) (hd : decode bs pc = .ok (.pop, 1)) (hc : x.category = 1) (hp : pc + 1 = pc') : Rc C R own bs ml Z n0 ce sl pc' Ls rest h Ds := by
  subst hp
  exact H.go fun T t hA hx hby kk => XS.pop hA hx rfl (hb hby hd) rfl hc kk
theorem Rc.dupX1 {pc' : Nat} {x y : Value} (H : Rc C R own bs ml Z n0 ce sl pc Ls (x :: y :: rest) h Ds) (hd : decode bs pc = .ok (.dup_x1, 1)) (hc : x.category = 1) (hc' : y.category = 1) (hp : pc + 1 = pc') : Rc C R own bs ml Z n0 ce sl pc' Ls (x :: y :: x :: rest) h Ds := by
  subst hp
  exact H.go fun T t hA hx hby kk => XS.dupX1 hA hx rfl (hb hby hd) rfl hc hc' kk
theorem Rc.iinc {pc' : Nat} {k : Nat} {cst : Int} {x : Int32} {l' : Array Slot} (H : Rc C R own bs ml Z n0 ce sl pc Ls S h Ds) (hd : decode bs pc = .ok (.iinc k cst, 3)) (hl : Ls[k]? = some (.val (.int x))) (hl' : storeLocals Ls k (.int (x + Int32.ofInt cst)) = some l') (hp : pc + 3 = pc') : Rc C R own bs ml Z n0 ce sl pc' l' S h Ds := by
  subst hp
  exact H.go fun T t hA hx hby kk => XS.iinc hA hx rfl (hb hby hd) hl hl' kk
theorem Rc.irem {pc' : Nat} {x y : Int32} (H : Rc C R own bs ml Z n0 ce sl pc Ls (.int y :: .int x :: rest) h Ds) (hd : decode bs pc = .ok (.irem, 1)) (hy : y ≠ 0) (hp : pc + 1 = pc') : Rc C R own bs ml Z n0 ce sl pc' Ls (.int (x % y) :: rest) h Ds := by
  subst hp
  exact H.goX fun s T locs t X hZ hown eT hx hby kk => iremM X hx rfl (hb hby hd) rfl hy kk
theorem Rc.goto {pc' : Nat} {o : Int} (H : Rc C R own bs ml Z n0 ce sl pc Ls S h Ds) (hd : decode bs pc = .ok (.goto o, 3)) (ho : 0 ≤ (pc : Int) + o) (hp : ((pc : Int) + o).toNat = pc') : Rc C R own bs ml Z n0 ce sl pc' Ls S h Ds :=
  H.go fun T t hA hx hby kk => XS.goto hA hx rfl (pc0 := pc) rfl (hb hby hd) ho hp kk
theorem Rc.ifY {pc' : Nat} {o : Int} {cd : ClassFile.Cond} {x : Int32} (H : Rc C R own bs ml Z n0 ce sl pc Ls (.int x :: rest) h Ds) (hd : decode bs pc = .ok (.ifCond cd o, 3)) (hc : if_icmp.holds cd x 0 = true) (ho : 0 ≤ (pc : Int) + o) (hp : ((pc : Int) + o).toNat = pc') : Rc C R own bs ml Z n0 ce sl pc' Ls rest h Ds :=
  H.go fun T t hA hx hby kk => XS.ifYes hA hx rfl (pc0 := pc) rfl (hb hby hd) rfl ((if0 _ _).trans hc) ho hp kk
theorem Rc.ifN {pc' : Nat} {o : Int} {cd : ClassFile.Cond} {x : Int32} (H : Rc C R own bs ml Z n0 ce sl pc Ls (.int x :: rest) h Ds) (hd : decode bs pc = .ok (.ifCond cd o, 3)) (hc : if_icmp.holds cd x 0 = false) (hp : pc + 3 = pc') : Rc C R own bs ml Z n0 ce sl pc' Ls rest h Ds := by
  subst hp
  exact H.go fun T t hA hx hby kk => XS.ifNo hA hx rfl (hb hby hd) rfl ((if0 _ _).trans hc) kk
theorem Rc.icmpY {pc' : Nat} {o : Int} {cd : ClassFile.Cond} {x y : Int32} (H : Rc C R own bs ml Z n0 ce sl pc Ls (.int y :: .int x :: rest) h Ds) (hd : decode bs pc = .ok (.if_icmp cd o, 3)) (hc : if_icmp.holds cd x y = true) (ho : 0 ≤ (pc : Int) + o) (hp : ((pc : Int) + o).toNat = pc') : Rc C R own bs ml Z n0 ce sl pc' Ls rest h Ds :=
  H.go fun T t hA hx hby kk => XS.icmpYes hA hx rfl (pc0 := pc) rfl (hb hby hd) rfl hc ho hp kk
theorem Rc.icmpN {pc' : Nat} {o : Int} {cd : ClassFile.Cond} {x y : Int32} (H : Rc C R own bs ml Z n0 ce sl pc Ls (.int y :: .int x :: rest) h Ds) (hd : decode bs pc = .ok (.if_icmp cd o, 3)) (hc : if_icmp.holds cd x y = false) (hp : pc + 3 = pc') : Rc C R own bs ml Z n0 ce sl pc' Ls rest h Ds := by
  subst hp
  exact H.go fun T t hA hx hby kk => XS.icmpNo hA hx rfl (hb hby hd) rfl hc kk
theorem Rc.ifnullY {pc' : Nat} {o : Int} (H : Rc C R own bs ml Z n0 ce sl pc Ls (.null :: rest) h Ds) (hd : decode bs pc = .ok (.ifnull o, 3)) (ho : 0 ≤ (pc : Int) + o) (hp : ((pc : Int) + o).toNat = pc') : Rc C R own bs ml Z n0 ce sl pc' Ls rest h Ds :=
  H.go fun T t hA hx hby kk => XS.ifnullYes hA hx rfl (pc0 := pc) rfl (hb hby hd) rfl ho hp kk
theorem Rc.ifnullN {pc' : Nat} {b : Addr} {o : Int} (H : Rc C R own bs ml Z n0 ce sl pc Ls (.ref b :: rest) h Ds) (hd : decode bs pc = .ok (.ifnull o, 3)) (hp : pc + 3 = pc') : Rc C R own bs ml Z n0 ce sl pc' Ls rest h Ds := by
  subst hp
  exact H.go fun T t hA hx hby kk => XS.ifnullNo hA hx rfl (hb hby hd) rfl kk
theorem Rc.ifnonnullY {pc' : Nat} {b : Addr} {o : Int} (H : Rc C R own bs ml Z n0 ce sl pc Ls (.ref b :: rest) h Ds) (hd : decode bs pc = .ok (.ifnonnull o, 3)) (ho : 0 ≤ (pc : Int) + o) (hp : ((pc : Int) + o).toNat = pc') : Rc C R own bs ml Z n0 ce sl pc' Ls rest h Ds :=
  H.go fun T t hA hx hby kk => XS.ifnonnullYes hA hx rfl (pc0 := pc) rfl (hb hby hd) rfl ho hp kk
theorem Rc.ifnonnullN {pc' : Nat} {o : Int} (H : Rc C R own bs ml Z n0 ce sl pc Ls (.null :: rest) h Ds) (hd : decode bs pc = .ok (.ifnonnull o, 3)) (hp : pc + 3 = pc') : Rc C R own bs ml Z n0 ce sl pc' Ls rest h Ds := by
  subst hp
  exact H.go fun T t hA hx hby kk => XS.ifnonnullNo hA hx rfl (hb hby hd) rfl kk
theorem Rc.acmp {pc' : Nat} {o : Int} {cd : ACond} {x y : Value} {same : Bool} (H : Rc C R own bs ml Z n0 ce sl pc Ls (y :: x :: rest) h Ds) (hd : decode bs pc = .ok (.if_acmp cd o, 3)) (h1 : x.isRef = true) (h2 : y.isRef = true) (hq : decide (x = y) = same) (ho : 0 ≤ (pc : Int) + o) (hp : pc' = if acV cd same = true then ((pc : Int) + o).toNat else pc + 3) : Rc C R own bs ml Z n0 ce sl pc' Ls rest h Ds :=
  H.goX fun s T locs t X hZ hown eT hx hby kk => Jvm.RoadKit.acmp X hx rfl h1 h2 (pc0 := pc) rfl (hb hby hd) rfl hq ho hp kk

theorem own_ws1 {a : Addr} {Ds : List Addr} (ha : a ∈ Ds) : ∀ x ∈ [a], x ∈ Ds := fun x hx => by rw [List.mem_singleton.mp hx]; exact ha
theorem Rc.getF {pc' : Nat} {a : Addr} {v : Value} {R0 O n d host : String} {idx : Nat} (H : Rc C R own bs ml Z n0 ce sl pc Ls (.ref a :: rest) h Ds) (w : (Jvm.Cond.fieldLink own idx R0 n d).before a0 Z = true ∨ (Jvm.Cond.fieldLinkNest own idx R0 n d host).before a0 Z = true) (via : Via Z R0 O n d) (F : Fld Z h a O n d v) (hd : decode bs pc = .ok (.getfield idx, 3)) (hp : pc + 3 = pc') : Rc C R own bs ml Z n0 ce sl pc' Ls (v :: rest) h Ds := by
  subst hp
  obtain ⟨T, locs, vm0, k0, X, h1, h2, h3, h4, h5, h6, h7, k⟩ := H
  obtain ⟨T', X', e', st⟩ := RoadKit.getF X h7.1 (Z := Z) h3 h7.2.2.2.1 w via h5 F (g := mkF C.m pc Ls (.ref a :: rest)) rfl rfl (hb h7.2.1 hd)
  exact ⟨T', locs, vm0, k0, X', h1, h2, h3, h4, e', h6, h7, fun t ht => k _ (st _ ht)⟩
theorem Rc.getS {pc' : Nat} {v : Value} {R0 O n d host : String} {idx : Nat} (H : Rc C R own bs ml Z n0 ce sl pc Ls S h Ds) (w : (Jvm.Cond.fieldLink own idx R0 n d).before a0 Z = true ∨ (Jvm.Cond.fieldLinkNest own idx R0 n d host).before a0 Z = true) (via : Via Z R0 O n d) (F : Sta Z Z.heap O n d v) (hd : decode bs pc = .ok (.getstatic idx, 3)) (hp : pc + 3 = pc') : Rc C R own bs ml Z n0 ce sl pc' Ls (v :: S) h Ds := by
  subst hp
  obtain ⟨T, locs, vm0, k0, X, h1, h2, h3, h4, h5, h6, h7, k⟩ := H
  obtain ⟨T', X', e', st⟩ := getS2 X h7.1 (Z := Z) h3 h7.2.2.2.1 w via h5 (F.ext h4.1.2) (g := mkF C.m pc Ls S) rfl (hb h7.2.1 hd)
  exact ⟨T', locs, vm0, k0, X', h1, h2, h3, h4, e', h6, h7, fun t ht => k _ (st _ ht)⟩
theorem Rc.putF {pc' : Nat} {a : Addr} {v old : Value} {R0 O n d host Cc : String} {idx kk : Nat} {ty : FieldType} (H : Rc C R own bs ml Z n0 ce sl pc Ls (v :: .ref a :: rest) h Ds) (w : (Jvm.Cond.fieldLink own idx R0 n d).before a0 Z = true ∨ (Jvm.Cond.fieldLinkNest own idx R0 n d host).before a0 Z = true) (via : Via Z R0 O n d) (F : Fld Z h a O n d old) (E : Exa Z h a Cc)
    (L : (Jvm.Cond.lays Cc O n d).before a0 Z = true ∨ ((Jvm.Cond.laysFinal Cc O n d).before a0 Z = true ∧ own = O ∧ C.meth.name = "<init>")) (wi : (Jvm.Cond.instantiable Cc kk).before a0 Z = true) (hty : parseFieldDescriptor d = some ty) (hn : narrow ty v = v) (hf : fits ty v = true) (ha : a ∈ Ds) (hd : decode bs pc = .ok (.putfield idx, 3)) (hp : pc + 3 = pc') :
    ∃ h', Wr h h' a (RoadKit.slotOf Z O n d) v ∧ Rc C R own bs ml Z n0 ce sl pc' Ls rest h' Ds := by
  subst hp
  obtain ⟨T, locs, vm0, k0, X, h1, h2, h3, h4, h5, h6, h7, k⟩ := H
  obtain ⟨T', h', X', e', W', st⟩ := RoadKit.putF X h7.1 (Z := Z) h3 h7.2.2.2.1 w via h5 F E L wi hty hn hf (g := mkF C.m pc Ls (v :: .ref a :: rest)) rfl rfl (hb h7.2.1 hd)
  exact ⟨h', W', T', _, vm0, k0, X', h1, by rw [W'.size]; exact h2, h3, h4.keep (Keep.of_wr W') (own_ws1 ha), e', Fr.snoc X' h6 (h4.2.2.1 a ha).1, h7, fun t ht => k _ (st _ ht)⟩
theorem Rc.putFN {pc' : Nat} {a : Addr} {v v' old : Value} {R0 O n d Cc : String} {idx kk : Nat} {ty : FieldType} (H : Rc C R own bs ml Z n0 ce sl pc Ls (v :: .ref a :: rest) h Ds) (w : (Jvm.Cond.fieldLink own idx R0 n d).before a0 Z = true) (via : Via Z R0 O n d) (F : Fld Z h a O n d old) (E : Exa Z h a Cc)
    (L : (Jvm.Cond.lays Cc O n d).before a0 Z = true ∨ ((Jvm.Cond.laysFinal Cc O n d).before a0 Z = true ∧ own = O ∧ C.meth.name = "<init>")) (wi : (Jvm.Cond.instantiable Cc kk).before a0 Z = true) (hty : parseFieldDescriptor d = some ty) (hn : narrow ty v = v') (hf : fits ty v' = true) (ha : a ∈ Ds) (hd : decode bs pc = .ok (.putfield idx, 3)) (hp : pc + 3 = pc') :
    ∃ h', Wr h h' a (RoadKit.slotOf Z O n d) v' ∧ Rc C R own bs ml Z n0 ce sl pc' Ls rest h' Ds := by
  subst hp
  obtain ⟨T, locs, vm0, k0, X, h1, h2, h3, h4, h5, h6, h7, k⟩ := H
  obtain ⟨T', h', X', e', W', st⟩ := RoadKit.putFN X h7.1 (Z := Z) h3 h7.2.2.2.1 w via h5 F E L wi hty hn hf (g := mkF C.m pc Ls (v :: .ref a :: rest)) rfl rfl (hb h7.2.1 hd)
  exact ⟨h', W', T', _, vm0, k0, X', h1, by rw [W'.size]; exact h2, h3, h4.keep (Keep.of_wr W') (own_ws1 ha), e', Fr.snoc X' h6 (h4.2.2.1 a ha).1, h7, fun t ht => k _ (st _ ht)⟩
theorem Rc.newO {pc' : Nat} {Cc : String} {idx n : Nat} (H : Rc C R own bs ml Z n0 ce sl pc Ls S h Ds) (w : (Jvm.Cond.classLink own idx Cc).before a0 Z = true) (wi : (Jvm.Cond.instantiable Cc n).before a0 Z = true) (wz : (Jvm.Cond.initialized Cc).before a0 Z = true) (hd : decode bs pc = .ok (.new idx, 3)) (hc : ce + 1 ≤ R.cells) (hl : sl + n ≤ R.slots) (hp : pc + 3 = pc') :
    ∃ (h' : Heap) (b : Addr), b = h.size ∧ Ext h h' ∧ Exa Z h' b Cc ∧ (∀ {O nm d : String} {ty : FieldType}, Laid Z a0 Cc O nm d → parseFieldDescriptor d = some ty → Fld Z h' b O nm d (defaultValue ty)) ∧ Rc C R own bs ml Z n0 (ce + 1) (sl + n) pc' Ls (.ref b :: S) h' (b :: Ds) := by
  subst hp
  obtain ⟨T, locs, vm0, k0, X, h1, h2, h3, h4, h5, h6, h7, k⟩ := H
  obtain ⟨T', h', X', e', E', A', D', -, st⟩ := RoadKit.newO X h7.1 (Z := Z) h3 h7.2.2.2.1 w wi wz h5 (g := mkF C.m pc Ls S) rfl (hb h7.2.1 hd) hc hl
  exact ⟨h', h.size, rfl, E', A', D', T', _, vm0, k0, X', h1, Nat.le_trans h2 E'.1, h3, h4.born E' A'.lt, e', h6, h7, fun t ht => k _ (st _ ht)⟩
theorem Rc.newP {pc' : Nat} {aty : ArrayType} {n : Int32} {cap : Nat} (H : Rc C R own bs ml Z n0 ce sl pc Ls (.int n :: rest) h Ds) (w : (Jvm.Cond.arrayClass (newarray.typeOf aty)).before a0 Z = true) (hd : decode bs pc = .ok (.newarray aty, 2)) (hn : ¬ n < 0) (hcap : n.toNatClampNeg ≤ cap) (hb' : cap * 8 ≤ 536870912) (hc : ce + 1 ≤ R.cells) (hl : sl + cap ≤ R.slots) (hp : pc + 2 = pc') :
    ∃ (h' : Heap) (b : Addr) (kA : ClassId), b = h.size ∧ Ext h h' ∧ Arv Z h' b kA (newarray.typeOf aty) n [] (defaultValue (newarray.typeOf aty)) ∧ Rc C R own bs ml Z n0 (ce + 1) (sl + cap) pc' Ls (.ref b :: rest) h' (b :: Ds) := by
  subst hp
  obtain ⟨T, locs, vm0, k0, X, h1, h2, h3, h4, h5, h6, h7, k⟩ := H
  obtain ⟨T', h', kA, X', e', E', A', st⟩ := RoadKit.newP X h7.1 (Z := Z) h3 w h5 (g := mkF C.m pc Ls (.int n :: rest)) rfl (hb h7.2.1 hd) rfl hn hcap hb' hc hl
  exact ⟨h', h.size, kA, rfl, E', Arv.new A' hn, T', _, vm0, k0, X', h1, Nat.le_trans h2 E'.1, h3, h4.born E' A'.lt, e', h6, h7, fun t ht => k _ (st _ ht)⟩
theorem Rc.castore {pc' : Nat} {a : Addr} {x j z : Int32} {kA : ClassId} {vs : List Value} {dv : Value} (H : Rc C R own bs ml Z n0 ce sl pc Ls (.int x :: .int j :: .ref a :: rest) h Ds) (V : Arv Z h a kA .char z vs dv) (hj : ¬ j < 0 ∧ j < z) (i : Nat) (hi : j.toNatClampNeg = i) (hl : i < vs.length) (ha : a ∈ Ds) (hd : decode bs pc = .ok (.castore, 1)) (hp : pc + 1 = pc') :
    ∃ h', Keep h h' [a] ∧ Arv Z h' a kA .char z (vs.set i (.int (nar .char x))) dv ∧ Rc C R own bs ml Z n0 ce sl pc' Ls rest h' Ds := by
  subst hp
  obtain ⟨T, locs, vm0, k0, X, h1, h2, h3, h4, h5, h6, h7, k⟩ := H
  obtain ⟨cl, Ar, q1, q2, q3, q4, q5⟩ := V
  obtain ⟨T', h', X', e', W', st⟩ := stC X h7.1 (Z := Z) h3 h5 Ar (j := j) (inb_of q2 hj) (g := mkF C.m pc Ls (.int x :: .int j :: .ref a :: rest)) rfl rfl (hb h7.2.1 hd)
  exact ⟨h', Keep.of_wr W', Arv.set Ar q1 q2 q3 q4 q5 (fits_nar_char _) W' i hi hl, T', _, vm0, k0, X', h1, by rw [W'.size]; exact h2, h3, h4.keep (Keep.of_wr W') (own_ws1 ha), e', Fr.snoc X' h6 (h4.2.2.1 a ha).1, h7, fun t ht => k _ (st _ ht)⟩
theorem Rc.bastore {pc' : Nat} {a : Addr} {x j z : Int32} {kA : ClassId} {vs : List Value} {dv : Value} (H : Rc C R own bs ml Z n0 ce sl pc Ls (.int x :: .int j :: .ref a :: rest) h Ds) (V : Arv Z h a kA .byte z vs dv) (hj : ¬ j < 0 ∧ j < z) (i : Nat) (hi : j.toNatClampNeg = i) (hl : i < vs.length) (ha : a ∈ Ds) (hd : decode bs pc = .ok (.bastore, 1)) (hp : pc + 1 = pc') :
    ∃ h', Keep h h' [a] ∧ Arv Z h' a kA .byte z (vs.set i (.int (nar .byte x))) dv ∧ Rc C R own bs ml Z n0 ce sl pc' Ls rest h' Ds := by
  subst hp
  obtain ⟨T, locs, vm0, k0, X, h1, h2, h3, h4, h5, h6, h7, k⟩ := H
  obtain ⟨cl, Ar, q1, q2, q3, q4, q5⟩ := V
  obtain ⟨T', h', X', e', W', st⟩ := stB X h7.1 (Z := Z) h3 h5 Ar (j := j) (inb_of q2 hj) (g := mkF C.m pc Ls (.int x :: .int j :: .ref a :: rest)) rfl rfl (hb h7.2.1 hd)
  exact ⟨h', Keep.of_wr W', Arv.set Ar q1 q2 q3 q4 q5 (fits_nar_byte _) W' i hi hl, T', _, vm0, k0, X', h1, by rw [W'.size]; exact h2, h3, h4.keep (Keep.of_wr W') (own_ws1 ha), e', Fr.snoc X' h6 (h4.2.2.1 a ha).1, h7, fun t ht => k _ (st _ ht)⟩
theorem Rc.caload {pc' : Nat} {a : Addr} {j z : Int32} {v : Value} {kA : ClassId} {vs : List Value} {dv : Value} (H : Rc C R own bs ml Z n0 ce sl pc Ls (.int j :: .ref a :: rest) h Ds) (V : Arv Z h a kA .char z vs dv) (hj : ¬ j < 0 ∧ j < z) (hv : vs.getD j.toNatClampNeg dv = v) (hd : decode bs pc = .ok (.caload, 1)) (hp : pc + 1 = pc') : Rc C R own bs ml Z n0 ce sl pc' Ls (v :: rest) h Ds := by
  subst hp
  obtain ⟨cl, Ar, q1, q2, q3, q4, q5⟩ := V
  exact H.goX fun s T locs t X hZ hown eT hx hby kk => X.caload hx (j := j) (v := v) (by rw [eT]; exact Ar.1) (State.isArrayOf_alike hZ.alike Ar.2.1) Ar.2.2 (inb_of q2 hj) (q4.at (inb_of q2 hj) hv) (g := mkF C.m pc Ls (.int j :: .ref a :: rest)) rfl rfl (hb hby hd) _ kk
theorem Rc.baload {pc' : Nat} {a : Addr} {j z : Int32} {v : Value} {kA : ClassId} {vs : List Value} {dv : Value} (H : Rc C R own bs ml Z n0 ce sl pc Ls (.int j :: .ref a :: rest) h Ds) (V : Arv Z h a kA .byte z vs dv) (hj : ¬ j < 0 ∧ j < z) (hv : vs.getD j.toNatClampNeg dv = v) (hd : decode bs pc = .ok (.baload, 1)) (hp : pc + 1 = pc') : Rc C R own bs ml Z n0 ce sl pc' Ls (v :: rest) h Ds := by
  subst hp
  obtain ⟨cl, Ar, q1, q2, q3, q4, q5⟩ := V
  exact H.goX fun s T locs t X hZ hown eT hx hby kk => X.baloadBytes hx (j := j) (v := v) (by rw [eT]; exact Ar.1) (State.isArrayOf_alike hZ.alike Ar.2.1) Ar.2.2 (inb_of q2 hj) (q4.at (inb_of q2 hj) hv) (g := mkF C.m pc Ls (.int j :: .ref a :: rest)) rfl rfl (hb hby hd) _ kk
theorem Rc.aaload {pc' : Nat} {a : Addr} {j z : Int32} {v : Value} {kA : ClassId} {ty : FieldType} {vs : List Value} {dv : Value} (H : Rc C R own bs ml Z n0 ce sl pc Ls (.int j :: .ref a :: rest) h Ds) (V : Arv Z h a kA ty z vs dv) (hty : ty.isReference = true) (hj : ¬ j < 0 ∧ j < z) (hv : vs.getD j.toNatClampNeg dv = v) (hd : decode bs pc = .ok (.aaload, 1)) (hp : pc + 1 = pc') : Rc C R own bs ml Z n0 ce sl pc' Ls (v :: rest) h Ds := by
  subst hp
  obtain ⟨cl, Ar, q1, q2, q3, q4, q5⟩ := V
  exact H.goX fun s T locs t X hZ hown eT hx hby kk => X.aaload hx (j := j) (v := v) (by rw [eT]; exact Ar.1) (State.isArrayOf_alike hZ.alike Ar.2.1) hty Ar.2.2 (inb_of q2 hj) (q4.at (inb_of q2 hj) hv) (g := mkF C.m pc Ls (.int j :: .ref a :: rest)) rfl rfl (hb hby hd) _ kk
theorem Rc.arraylength {pc' : Nat} {a : Addr} {z : Int32} {kA : ClassId} {ty : FieldType} {vs : List Value} {dv : Value} (H : Rc C R own bs ml Z n0 ce sl pc Ls (.ref a :: rest) h Ds) (V : Arv Z h a kA ty z vs dv) (hd : decode bs pc = .ok (.arraylength, 1)) (hp : pc + 1 = pc') : Rc C R own bs ml Z n0 ce sl pc' Ls (.int z :: rest) h Ds := by
  subst hp
  obtain ⟨cl, Ar, q1, q2, q3, q4, q5⟩ := V
  have e := len_of q2 q3
  exact H.goX fun s T locs t X hZ hown eT hx hby kk => X.arraylength hx (by rw [eT]; exact Ar.1) (State.isArrayOf_alike hZ.alike Ar.2.1) (g := mkF C.m pc Ls (.ref a :: rest)) rfl rfl (hb hby hd) _ (by rw [e]; exact kk)
theorem Rc.initO {pc' : Nat} {a : Addr} {idx W : Nat} (H : Rc C R own bs ml Z n0 ce sl pc Ls (.ref a :: rest) h Ds) (w1 : (Jvm.Cond.methodLink own idx Lib.objectInit).before a0 Z = true) (w2 : (Jvm.Cond.instanceMethod Lib.objectInit).before a0 Z = true) (w3 : (Jvm.Cond.code Lib.objectInit ⟨#[0xb1]⟩ 1 none).before a0 Z = true) (hsz : Ls.size = ml) (hd : decode bs pc = .ok (.invokespecial idx, 3)) (hf : 1 ≤ R.frames) (hW : (rest.map fun v => v.category).sum = W) (hl : W + 12 ≤ R.locals) (hp : pc + 3 = pc') : Rc C R own bs ml Z n0 ce sl pc' Ls rest h Ds := by
  subst hp
  obtain ⟨T, locs, vm0, k0, X, h1, h2, h3, h4, h5, h6, h7, k⟩ := H
  obtain ⟨T', X', e', st⟩ := RoadKit.initO X h7.1 (Z := Z) h3 h7.2.2.2.1 w1 w2 w3 h5 (g := mkF C.m pc Ls (.ref a :: rest)) rfl (hsz.trans h7.2.2.1.symm) rfl (hb h7.2.1 hd) hf (W := W) (by show 2 * 0 + _ ≤ _; omega) hl
  exact ⟨T', locs, vm0, k0, X', h1, h2, h3, h4, e', h6, h7, fun t ht => k _ (st _ ht)⟩
theorem Rc.castY {pc' : Nat} {a : Addr} {K : String} {idx : Nat} (H : Rc C R own bs ml Z n0 ce sl pc Ls (.ref a :: rest) h Ds) (w : (Jvm.Cond.classLink own idx K).before a0 Z = true) (F : Ins Z h a K true) (hd : decode bs pc = .ok (.checkcast idx, 3)) (hp : pc + 3 = pc') : Rc C R own bs ml Z n0 ce sl pc' Ls (.ref a :: rest) h Ds := by
  subst hp
  obtain ⟨T, locs, vm0, k0, X, h1, h2, h3, h4, h5, h6, h7, k⟩ := H
  obtain ⟨T', X', e', st⟩ := RoadKit.castY X h7.1 (Z := Z) h3 h7.2.2.2.1 w h5 F (g := mkF C.m pc Ls (.ref a :: rest)) rfl rfl (hb h7.2.1 hd)
  exact ⟨T', locs, vm0, k0, X', h1, h2, h3, h4, e', h6, h7, fun t ht => k _ (st _ ht)⟩
theorem Rc.castNull {pc' : Nat} {idx : Nat} (H : Rc C R own bs ml Z n0 ce sl pc Ls (.null :: rest) h Ds) (hd : decode bs pc = .ok (.checkcast idx, 3)) (hp : pc + 3 = pc') : Rc C R own bs ml Z n0 ce sl pc' Ls (.null :: rest) h Ds := by
  subst hp
  exact H.goX fun s T locs t X hZ hown eT hx hby kk => X.checkcastNull hx (g := mkF C.m pc Ls (.null :: rest)) rfl rfl (hb hby hd) _ kk
theorem Rc.instNull {pc' : Nat} {idx : Nat} (H : Rc C R own bs ml Z n0 ce sl pc Ls (.null :: rest) h Ds) (hd : decode bs pc = .ok (.instanceof idx, 3)) (hp : pc + 3 = pc') : Rc C R own bs ml Z n0 ce sl pc' Ls (.int 0 :: rest) h Ds := by
  subst hp
  exact H.goX fun s T locs t X hZ hown eT hx hby kk => X.instanceofNull hx (g := mkF C.m pc Ls (.null :: rest)) rfl rfl (hb hby hd) _ kk
theorem Rc.instY {pc' : Nat} {a : Addr} {K : String} {idx : Nat} (H : Rc C R own bs ml Z n0 ce sl pc Ls (.ref a :: rest) h Ds) (w : (Jvm.Cond.classLink own idx K).before a0 Z = true) (F : Ins Z h a K true) (hd : decode bs pc = .ok (.instanceof idx, 3)) (hp : pc + 3 = pc') : Rc C R own bs ml Z n0 ce sl pc' Ls (.int 1 :: rest) h Ds := by
  subst hp
  obtain ⟨T, locs, vm0, k0, X, h1, h2, h3, h4, h5, h6, h7, k⟩ := H
  obtain ⟨T', X', e', st⟩ := RoadKit.instY X h7.1 (Z := Z) h3 h7.2.2.2.1 w h5 F (g := mkF C.m pc Ls (.ref a :: rest)) rfl rfl (hb h7.2.1 hd)
  exact ⟨T', locs, vm0, k0, X', h1, h2, h3, h4, e', h6, h7, fun t ht => k _ (st _ ht)⟩
theorem Rc.instNo {pc' : Nat} {a : Addr} {K Cc : String} {idx : Nat} (H : Rc C R own bs ml Z n0 ce sl pc Ls (.ref a :: rest) h Ds) (w : (Jvm.Cond.classLink own idx K).before a0 Z = true) (E : Exa Z h a Cc) (F : ∃ c t, Z.vm.findClass Cc = some c ∧ Z.vm.findClass K = some t ∧ Z.vm.assignable c t = false) (hd : decode bs pc = .ok (.instanceof idx, 3)) (hp : pc + 3 = pc') : Rc C R own bs ml Z n0 ce sl pc' Ls (.int 0 :: rest) h Ds := by
  subst hp
  obtain ⟨T, locs, vm0, k0, X, h1, h2, h3, h4, h5, h6, h7, k⟩ := H
  obtain ⟨T', X', e', st⟩ := RoadKit.instNo X h7.1 (Z := Z) h3 h7.2.2.2.1 w h5 E F (g := mkF C.m pc Ls (.ref a :: rest)) rfl rfl (hb h7.2.1 hd)
  exact ⟨T', locs, vm0, k0, X', h1, h2, h3, h4, e', h6, h7, fun t ht => k _ (st _ ht)⟩
/-! calls by a contract -/
abbrev NoMH (y : MethodName) : Prop := y.cls ≠ "java/lang/invoke/MethodHandle" ∧ y.cls ≠ "java/lang/invoke/VarHandle"
theorem own_fin {Q : Option Value → Heap → List Addr → Prop} {T : State} {locs : List Loc} {vm0 : Vm} {k0 pc' : Nat} {g : JFrame} {rm : Room} {v : Option Value} {B : Pt} {rest : List Value}
    (h1 : C.s.Since vm0 k0) (h2 : k0 ≤ h.size) (h3 : Z.Warmed39 vm0) (h5 : T.heap = h) (h6 : Fr n0 locs) (h7 : C.p.tables.exec = Jvm.exec ∧ C.c.code = bs ∧ C.c.maxLocals = ml ∧ vm0.findClass own = some C.m.cls ∧ C.meth.locks = false)
    (k : ∀ t, Steps C.p.tables C.e C.below (T.setTop g) t → Steps C.p.tables C.e C.below C.s0 t)
    (X' : Stand C.p C.l C.e R ((C.s.setVm vm0).setVm B.U.vm) C.m C.args C.below C.meth C.c B.U B.locs B.cells B.slots) (hS' : (C.s.setVm vm0).Since B.U.vm B.U.heap.size) (hgr : T.heap.size ≤ B.U.heap.size)
    (hq : ∃ (L : List Loc) (Ds' : List Addr), Q v B.U.heap Ds' ∧ JJ Z n0 B.U.vm B.U.heap Ds' ∧ Fr n0 L ∧ B.locs = locs ++ L ∧ B.cells = ce + rm.cells ∧ B.slots = sl + rm.slots)
    (st : Steps C.p.tables C.e C.below (T.setTop g) (B.U.setTop (mkF C.m pc' Ls (v.toList ++ rest)))) :
    ∃ (v : Option Value) (h' : Heap) (Ds' : List Addr), Q v h' Ds' ∧ Rc C R own bs ml Z n0 (ce + rm.cells) (sl + rm.slots) pc' Ls (v.toList ++ rest) h' Ds' := by
  obtain ⟨L, Ds', hQ, hJ, hFr, e1, e2, e3⟩ := hq
  refine ⟨v, B.U.heap, Ds', hQ, B.U, B.locs, B.U.vm, B.U.heap.size, ?_, h1.trans hS' (by rw [h5] at hgr; exact Nat.le_trans h2 hgr), Nat.le_refl _, State.Warmed39.trans (t := C.s.setVm vm0) h3 hS'.1, hJ, rfl, ?_, ⟨h7.1, h7.2.1, h7.2.2.1, ?_, h7.2.2.2.2⟩, fun t ht => k _ (st.trans ht)⟩
  · rw [← e2, ← e3]; exact X'
  · rw [e1]; exact Fr.app h6 hFr
  · rw [hS'.1.alike.findClass]; exact h7.2.2.2.1
theorem Rc.callS {pc' : Nat} {y : MethodName} {idx ml' W : Nat} {by' : ByteArray} {ret' : Option FieldType} {rm : Room} {argsL : List Value} {Q : Option Value → Heap → List Addr → Prop} (H : Rc C R own bs ml Z n0 ce sl pc Ls S h Ds)
    (hlink : (Jvm.Cond.methodLink own idx y).before a0 Z = true) (hstat : (Jvm.Cond.static y).before a0 Z = true) (hinit : (Jvm.Cond.initialized y.cls).before a0 Z = true) (hcode : (Jvm.Cond.code y by' ml' ret').before a0 Z = true) (hy : NoMH y)
    (K : Ctr C.l Z y by' ml' ret' [] rm argsL.toArray h n0 Ds Q) (hsz : Ls.size = ml) (hlen : ∀ sig, parseMethodDescriptor y.desc = some sig → argsL.length = sig.parameters.length) (hst : S = argsL.reverse ++ rest) (hW : (rest.map fun v => v.category).sum = W)
    (hd : decode bs pc = .ok (.invokestatic idx, 3)) (hfr : rm.frames + 1 ≤ R.frames) (hlo : W + (ml' + 11) + rm.locals ≤ R.locals) (hce : ce + rm.cells ≤ R.cells) (hsl : sl + rm.slots ≤ R.slots) (hp : pc + 3 = pc') :
    ∃ (v : Option Value) (h' : Heap) (Ds' : List Addr), Q v h' Ds' ∧ Rc C R own bs ml Z n0 (ce + rm.cells) (sl + rm.slots) pc' Ls (v.toList ++ rest) h' Ds' := by
  subst hp hst
  obtain ⟨T, locs, vm0, k0, X, h1, h2, h3, h4, h5, h6, h7, k⟩ := H
  obtain ⟨v, vm₁, B, hw1, X', hS', hgr, hq, st⟩ := callSS X h7.1 h7.2.2.2.1 (mvT (s := C.s.setVm vm0) h3 hlink) (mvT (s := C.s.setVm vm0) h3 hstat) (mvT (s := C.s.setVm vm0) h3 hinit) (mvT (s := C.s.setVm vm0) h3 hcode) hy (ctrBack (s := C.s.setVm vm0) (W := W) K h3 h4 hcode hinit hfr hlo) (g := mkF C.m pc Ls (argsL.reverse ++ rest)) rfl (hsz.trans h7.2.2.1.symm) hlen rfl (by show 2 * 0 + _ ≤ _; omega) (hb h7.2.1 hd) (fun vm₁ hw => ⟨rfl, h5, hce, hsl⟩)
  exact own_fin h1 h2 h3 h5 h6 h7 k X' hS' hgr hq st
theorem Rc.callSN {pc' : Nat} {y : MethodName} {host : String} {idx ml' W : Nat} {by' : ByteArray} {ret' : Option FieldType} {rm : Room} {argsL : List Value} {Q : Option Value → Heap → List Addr → Prop} (H : Rc C R own bs ml Z n0 ce sl pc Ls S h Ds)
    (hlink : (Jvm.Cond.methodLinkNest own idx y host).before a0 Z = true) (hstat : (Jvm.Cond.static y).before a0 Z = true) (hinit : (Jvm.Cond.initialized y.cls).before a0 Z = true) (hcode : (Jvm.Cond.code y by' ml' ret').before a0 Z = true) (hy : NoMH y)
    (K : Ctr C.l Z y by' ml' ret' [] rm argsL.toArray h n0 Ds Q) (hsz : Ls.size = ml) (hlen : ∀ sig, parseMethodDescriptor y.desc = some sig → argsL.length = sig.parameters.length) (hst : S = argsL.reverse ++ rest) (hW : (rest.map fun v => v.category).sum = W)
    (hd : decode bs pc = .ok (.invokestatic idx, 3)) (hfr : rm.frames + 1 ≤ R.frames) (hlo : W + (ml' + 11) + rm.locals ≤ R.locals) (hce : ce + rm.cells ≤ R.cells) (hsl : sl + rm.slots ≤ R.slots) (hp : pc + 3 = pc') :
    ∃ (v : Option Value) (h' : Heap) (Ds' : List Addr), Q v h' Ds' ∧ Rc C R own bs ml Z n0 (ce + rm.cells) (sl + rm.slots) pc' Ls (v.toList ++ rest) h' Ds' := by
  subst hp hst
  obtain ⟨T, locs, vm0, k0, X, h1, h2, h3, h4, h5, h6, h7, k⟩ := H
  obtain ⟨v, vm₁, B, hw1, X', hS', hgr, hq, st⟩ := callSNS X h7.1 h7.2.2.2.1 (Jvm.Cond.methodLinkNest_wide h3 hlink) (mvT (s := C.s.setVm vm0) h3 hstat) (mvT (s := C.s.setVm vm0) h3 hinit) (mvT (s := C.s.setVm vm0) h3 hcode) hy (ctrBack (s := C.s.setVm vm0) (W := W) K h3 h4 hcode hinit hfr hlo) (g := mkF C.m pc Ls (argsL.reverse ++ rest)) rfl (hsz.trans h7.2.2.1.symm) hlen rfl (by show 2 * 0 + _ ≤ _; omega) (hb h7.2.1 hd) (fun vm₁ hw => ⟨rfl, h5, hce, hsl⟩)
  exact own_fin h1 h2 h3 h5 h6 h7 k X' hS' hgr hq st
theorem Rc.callI {pc' : Nat} {y : MethodName} {idx ml' W : Nat} {by' : ByteArray} {rm : Room} {a : Addr} {argsL : List Value} {Q : Option Value → Heap → List Addr → Prop} (H : Rc C R own bs ml Z n0 ce sl pc Ls S h Ds) (hy1 : y.name = "<init>")
    (hlink : (Jvm.Cond.methodLink own idx y).before a0 Z = true) (hinst : (Jvm.Cond.instanceMethod y).before a0 Z = true) (hinit : (Jvm.Cond.initialized y.cls).before a0 Z = true) (hcode : (Jvm.Cond.code y by' ml' none).before a0 Z = true) (hy : NoMH y)
    (K : Ctr C.l Z y by' ml' none [] rm (.ref a :: argsL).toArray h n0 Ds Q) (hsz : Ls.size = ml) (hlen : ∀ sig, parseMethodDescriptor y.desc = some sig → argsL.length = sig.parameters.length) (hst : S = argsL.reverse ++ .ref a :: rest) (hW : (rest.map fun v => v.category).sum = W)
    (hd : decode bs pc = .ok (.invokespecial idx, 3)) (hfr : rm.frames + 1 ≤ R.frames) (hlo : W + (ml' + 11) + rm.locals ≤ R.locals) (hce : ce + rm.cells ≤ R.cells) (hsl : sl + rm.slots ≤ R.slots) (hp : pc + 3 = pc') :
    ∃ (v : Option Value) (h' : Heap) (Ds' : List Addr), Q v h' Ds' ∧ Rc C R own bs ml Z n0 (ce + rm.cells) (sl + rm.slots) pc' Ls (v.toList ++ rest) h' Ds' := by
  subst hp hst
  obtain ⟨T, locs, vm0, k0, X, h1, h2, h3, h4, h5, h6, h7, k⟩ := H
  obtain ⟨v, vm₁, B, hw1, X', hS', hgr, hq, st⟩ := X.specialBackS h7.1 hy1 h7.2.2.2.1 (mvT (s := C.s.setVm vm0) h3 hlink) (mvT (s := C.s.setVm vm0) h3 hinst) (mvT (s := C.s.setVm vm0) h3 hcode) hy (ctrBack (s := C.s.setVm vm0) (W := W) K h3 h4 hcode hinit hfr hlo) (g := mkF C.m pc Ls (argsL.reverse ++ .ref a :: rest)) rfl (hsz.trans h7.2.2.1.symm) (Steps.refl _) hlen rfl (by show 2 * 0 + _ ≤ _; omega) (hb h7.2.1 hd) (fun vm₁ hw => ⟨rfl, h5, hce, hsl⟩)
  exact own_fin h1 h2 h3 h5 h6 h7 k X' hS' hgr hq st
theorem Rc.callV {pc' : Nat} {y z : MethodName} {Cc : String} {idx ml' W : Nat} {by' : ByteArray} {ret' : Option FieldType} {rm : Room} {a : Addr} {argsL : List Value} {Q : Option Value → Heap → List Addr → Prop} (H : Rc C R own bs ml Z n0 ce sl pc Ls S h Ds)
    (hlink : (Jvm.Cond.methodLink own idx y).before a0 Z = true) (hdecl : (Jvm.Cond.declares y).before a0 Z = true) (hnf : ∀ s' : State, Z.Warmed39 s'.vm → NotFace s' y) (hsel : (Jvm.Cond.selects Cc y z).before a0 Z = true) (hinst : (Jvm.Cond.instanceMethod z).before a0 Z = true) (hinit : (Jvm.Cond.initialized z.cls).before a0 Z = true) (hcode : (Jvm.Cond.code z by' ml' ret').before a0 Z = true) (hy : NoMH y)
    (E : Exa Z h a Cc) (K : Ctr C.l Z z by' ml' ret' [] rm (.ref a :: argsL).toArray h n0 Ds Q) (hsz : Ls.size = ml) (hlen : ∀ sig, parseMethodDescriptor y.desc = some sig → argsL.length = sig.parameters.length) (hst : S = argsL.reverse ++ .ref a :: rest) (hW : (rest.map fun v => v.category).sum = W)
    (hd : decode bs pc = .ok (.invokevirtual idx, 3)) (hfr : rm.frames + 1 ≤ R.frames) (hlo : W + (ml' + 11) + rm.locals ≤ R.locals) (hce : ce + rm.cells ≤ R.cells) (hsl : sl + rm.slots ≤ R.slots) (hp : pc + 3 = pc') :
    ∃ (v : Option Value) (h' : Heap) (Ds' : List Addr), Q v h' Ds' ∧ Rc C R own bs ml Z n0 (ce + rm.cells) (sl + rm.slots) pc' Ls (v.toList ++ rest) h' Ds' := by
  subst hp hst
  obtain ⟨T, locs, vm0, k0, X, h1, h2, h3, h4, h5, h6, h7, k⟩ := H
  obtain ⟨cq, kq, qa, qb, qc⟩ := isOf (s := C.s.setVm vm0) h3 h5 E
  obtain ⟨v, vm₁, B, hw1, X', hS', hgr, hq, st⟩ := X.virtualBackS h7.1 (y := y) (z := z) h7.2.2.2.1 (mvT (s := C.s.setVm vm0) h3 hlink) (mvT (s := C.s.setVm vm0) h3 hdecl) (hnf _ h3) (mvT (s := C.s.setVm vm0) h3 hsel) (mvT (s := C.s.setVm vm0) h3 hinst) hy (ctrBack (s := C.s.setVm vm0) (W := W) K h3 h4 hcode hinit hfr hlo) qa qc (g := mkF C.m pc Ls (argsL.reverse ++ .ref a :: rest)) rfl (hsz.trans h7.2.2.1.symm) (Steps.refl _) hlen rfl (by show 2 * 0 + _ ≤ _; omega) (hb h7.2.1 hd) (fun vm₁ hw => ⟨rfl, h5, hce, hsl⟩)
  exact own_fin h1 h2 h3 h5 h6 h7 k X' hS' hgr hq st
/-! calls by a Back (a law of the library's) -/
theorem own_finB {Qb : Option Value → Heap → List Loc → Prop} {T : State} {locs : List Loc} {vm0 : Vm} {k0 pc' kc ks : Nat} {g : JFrame} {v : Option Value} {B : Pt} {rest : List Value}
    (h1 : C.s.Since vm0 k0) (h2 : k0 ≤ h.size) (h3 : Z.Warmed39 vm0) (h4 : JJ Z n0 vm0 h Ds) (h6 : Fr n0 locs) (h7 : C.p.tables.exec = Jvm.exec ∧ C.c.code = bs ∧ C.c.maxLocals = ml ∧ vm0.findClass own = some C.m.cls ∧ C.meth.locks = false)
    (k : ∀ t, Steps C.p.tables C.e C.below (T.setTop g) t → Steps C.p.tables C.e C.below C.s0 t)
    (hQ : ∀ v h' L, Qb v h' L → Fr n0 L ∧ ∃ ws, Keep h h' ws ∧ ∀ x ∈ ws, x ∈ Ds)
    (X' : Stand C.p C.l C.e R (C.s.setVm vm0) C.m C.args C.below C.meth C.c B.U B.locs B.cells B.slots)
    (hq : ∃ (L : List Loc), Qb v B.U.heap L ∧ B.locs = locs ++ L ∧ B.cells = ce + kc ∧ B.slots = sl + ks)
    (st : ∀ t, Steps C.p.tables C.e C.below (B.U.setTop (mkF C.m pc' Ls (v.toList ++ rest))) t → Steps C.p.tables C.e C.below (T.setTop g) t) :
    ∃ (v : Option Value) (h' : Heap) (L : List Loc), Qb v h' L ∧ Rc C R own bs ml Z n0 (ce + kc) (sl + ks) pc' Ls (v.toList ++ rest) h' Ds := by
  obtain ⟨L, hQb, e1, e2, e3⟩ := hq
  obtain ⟨hFr, ws, K, hws⟩ := hQ _ _ _ hQb
  refine ⟨v, B.U.heap, L, hQb, B.U, B.locs, vm0, k0, ?_, h1, Nat.le_trans h2 K.1, h3, h4.keep K hws, rfl, ?_, h7, fun t ht => k _ (st _ ht)⟩
  · rw [← e2, ← e3]; exact X'
  · rw [e1]; exact Fr.app h6 hFr
theorem Rc.backI {pc' : Nat} {y : MethodName} {idx ml' W kc ks : Nat} {by' : ByteArray} {a : Addr} {argsL : List Value} {Qb : Option Value → Heap → List Loc → Prop} (H : Rc C R own bs ml Z n0 ce sl pc Ls S h Ds) (hy1 : y.name = "<init>")
    (hlink : (Jvm.Cond.methodLink own idx y).before a0 Z = true) (hinst : (Jvm.Cond.instanceMethod y).before a0 Z = true) (hcode : (Jvm.Cond.code y by' ml' none).before a0 Z = true) (hy : NoMH y)
    (K : ∀ s' : State, Z.Warmed39 s'.vm → Back C.l R C.p C.e C.below s' C.args y 3 W (fun P a' => a' = (.ref a :: argsL).toArray ∧ P.U.heap = h ∧ P.cells + kc ≤ R.cells ∧ P.slots + ks ≤ R.slots) (fun P _ v B => ∃ L, Qb v B.U.heap L ∧ B.locs = P.locs ++ L ∧ B.cells = P.cells + kc ∧ B.slots = P.slots + ks))
    (hQ : ∀ v h' L, Qb v h' L → Fr n0 L ∧ ∃ ws, Keep h h' ws ∧ ∀ x ∈ ws, x ∈ Ds) (hsz : Ls.size = ml) (hlen : ∀ sig, parseMethodDescriptor y.desc = some sig → argsL.length = sig.parameters.length) (hst : S = argsL.reverse ++ .ref a :: rest) (hW : (rest.map fun v => v.category).sum = W)
    (hd : decode bs pc = .ok (.invokespecial idx, 3)) (hce : ce + kc ≤ R.cells) (hsl : sl + ks ≤ R.slots) (hp : pc + 3 = pc') :
    ∃ (v : Option Value) (h' : Heap) (L : List Loc), Qb v h' L ∧ Rc C R own bs ml Z n0 (ce + kc) (sl + ks) pc' Ls (v.toList ++ rest) h' Ds := by
  subst hp hst
  obtain ⟨T, locs, vm0, k0, X, h1, h2, h3, h4, h5, h6, h7, k⟩ := H
  obtain ⟨v, vm₁, B, hw1, X', hq, st⟩ := X.specialBack h7.1 hy1 h7.2.2.2.1 (mvT (s := C.s.setVm vm0) h3 hlink) (mvT (s := C.s.setVm vm0) h3 hinst) (mvT (s := C.s.setVm vm0) h3 hcode) hy (K _ h3) (g := mkF C.m pc Ls (argsL.reverse ++ .ref a :: rest)) rfl (hsz.trans h7.2.2.1.symm) (Steps.refl _) hlen rfl (by show 2 * 0 + _ ≤ _; omega) (hb h7.2.1 hd) (fun vm₁ hw => ⟨rfl, h5, hce, hsl⟩)
  exact own_finB h1 h2 h3 h4 h6 h7 k hQ X' hq (fun t ht => st.trans ht)
theorem Rc.backV {pc' : Nat} {y z : MethodName} {Cc : String} {idx W kc ks : Nat} {a : Addr} {argsL : List Value} {Qb : Option Value → Heap → List Loc → Prop} (H : Rc C R own bs ml Z n0 ce sl pc Ls S h Ds)
    (hlink : (Jvm.Cond.methodLink own idx y).before a0 Z = true) (hdecl : (Jvm.Cond.declares y).before a0 Z = true) (hnf : ∀ s' : State, Z.Warmed39 s'.vm → NotFace s' y) (hsel : (Jvm.Cond.selects Cc y z).before a0 Z = true) (hinst : (Jvm.Cond.instanceMethod z).before a0 Z = true) (hy : NoMH y) (E : Exa Z h a Cc)
    (K : ∀ s' : State, Z.Warmed39 s'.vm → Back C.l R C.p C.e C.below s' C.args z 3 W (fun P a' => a' = (.ref a :: argsL).toArray ∧ P.U.heap = h ∧ P.cells + kc ≤ R.cells ∧ P.slots + ks ≤ R.slots) (fun P _ v B => ∃ L, Qb v B.U.heap L ∧ B.locs = P.locs ++ L ∧ B.cells = P.cells + kc ∧ B.slots = P.slots + ks))
    (hQ : ∀ v h' L, Qb v h' L → Fr n0 L ∧ ∃ ws, Keep h h' ws ∧ ∀ x ∈ ws, x ∈ Ds) (hsz : Ls.size = ml) (hlen : ∀ sig, parseMethodDescriptor y.desc = some sig → argsL.length = sig.parameters.length) (hst : S = argsL.reverse ++ .ref a :: rest) (hW : (rest.map fun v => v.category).sum = W)
    (hd : decode bs pc = .ok (.invokevirtual idx, 3)) (hce : ce + kc ≤ R.cells) (hsl : sl + ks ≤ R.slots) (hp : pc + 3 = pc') :
    ∃ (v : Option Value) (h' : Heap) (L : List Loc), Qb v h' L ∧ Rc C R own bs ml Z n0 (ce + kc) (sl + ks) pc' Ls (v.toList ++ rest) h' Ds := by
  subst hp hst
  obtain ⟨T, locs, vm0, k0, X, h1, h2, h3, h4, h5, h6, h7, k⟩ := H
  obtain ⟨cq, kq, qa, qb, qc⟩ := isOf (s := C.s.setVm vm0) h3 h5 E
  obtain ⟨v, vm₁, B, hw1, X', hq, st⟩ := X.virtualBack h7.1 (y := y) (z := z) h7.2.2.2.1 (mvT (s := C.s.setVm vm0) h3 hlink) (mvT (s := C.s.setVm vm0) h3 hdecl) (hnf _ h3) (mvT (s := C.s.setVm vm0) h3 hsel) (mvT (s := C.s.setVm vm0) h3 hinst) hy (K _ h3) qa qc (g := mkF C.m pc Ls (argsL.reverse ++ .ref a :: rest)) rfl (hsz.trans h7.2.2.1.symm) (Steps.refl _) hlen rfl (by show 2 * 0 + _ ≤ _; omega) (hb h7.2.1 hd) (fun vm₁ hw => ⟨rfl, h5, hce, hsl⟩)
  exact own_finB h1 h2 h3 h4 h6 h7 k hQ X' hq (fun t ht => st.trans ht)
/-! returns -/
theorem Rc.retX {Q : Option Value → Heap → List Addr → Prop} {v : Option Value} {kc ks : Nat} {Ds' : List Addr} (H : Rc C R own bs ml Z n0 ce sl pc Ls S h Ds) (hv : C.meth.sig.returnType = none → v = none)
    (f : ∀ (s T : State) (locs : List Loc) (fs : List Frame), Stand C.p C.l C.e R s C.m C.args C.below C.meth C.c T locs ce sl → C.p.tables.exec = Jvm.exec → C.c.code = bs → (∀ (f : JFrame) (acts : List Action), f.method = C.m → f.locked = none → f.entered = [] → (doReturn C.e (T.setTop f) acts v).1 = T.setFrames fs) → Steps C.p.tables C.e C.below (T.setTop (mkF C.m pc Ls S)) (T.setFrames fs))
    (hk : ce ≤ kc) (hs : sl ≤ ks) (hds : ∀ x ∈ Ds', x ∈ Ds) (hq : Q v h Ds') : Done C Z n0 Q kc ks := by
  obtain ⟨T, locs, vm0, k0, X, h1, h2, h3, h4, h5, h6, h7, k⟩ := H
  obtain ⟨fs, hr, hrun, hend, hE⟩ := X.leaveW h1 (by rw [h5]; exact h2) hv h7.2.2.2.2
  refine ⟨T.setFrames fs, .returned v, k _ (f _ T locs fs X h7.1 h7.2.1 hr), hrun, hend, v, locs, Ds', rfl, ?_, ?_, h6, hE.1, hE.2.1, hE.2.2.1, hE.2.2.2.mono hk hs⟩
  · show Q v T.heap Ds'
    rw [h5]; exact hq
  · show JJ Z n0 T.vm T.heap Ds'
    rw [h5]
    exact (JJ.warm (t := C.s.setVm vm0) h4 h3 X.warmed).less hds
theorem Rc.retI {Q : Option Value → Heap → List Addr → Prop} {z : Int32} {kc ks : Nat} {Ds' : List Addr} (H : Rc C R own bs ml Z n0 ce sl pc Ls (.int z :: rest) h Ds) (hret : C.meth.sig.returnType = some .int) (hd : decode bs pc = .ok (.ireturn, 1)) (hk : ce ≤ kc) (hs : sl ≤ ks) (hds : ∀ x ∈ Ds', x ∈ Ds) (hq : Q (some (.int z)) h Ds') : Done C Z n0 Q kc ks :=
  H.retX (v := some (.int z)) (fun e => by rw [hret] at e; cases e) (fun s T locs fs X hx hby hr => retOut X hx hret rfl (Or.inl ⟨rfl, Or.inl rfl, z, rfl⟩) (hb hby hd) hr) hk hs hds hq
theorem Rc.retN {Q : Option Value → Heap → List Addr → Prop} {z z' : Int32} {t : FieldType} {kc ks : Nat} {Ds' : List Addr} (H : Rc C R own bs ml Z n0 ce sl pc Ls (.int z :: rest) h Ds) (hret : C.meth.sig.returnType = some t) (ht : t = .boolean ∨ t = .byte ∨ t = .char ∨ t = .short) (hz : nar t z = z') (hd : decode bs pc = .ok (.ireturn, 1)) (hk : ce ≤ kc) (hs : sl ≤ ks) (hds : ∀ x ∈ Ds', x ∈ Ds) (hq : Q (some (.int z')) h Ds') : Done C Z n0 Q kc ks := by
  subst hz
  exact H.retX (v := some (.int (nar t z))) (fun e => by rw [hret] at e; cases e) (fun s T locs fs X hx hby hr => RoadKit.retN X hx hret ht (hb hby hd) hr) hk hs hds hq
theorem Rc.retA {Q : Option Value → Heap → List Addr → Prop} {w : Value} {t : FieldType} {kc ks : Nat} {Ds' : List Addr} (H : Rc C R own bs ml Z n0 ce sl pc Ls (w :: rest) h Ds) (hret : C.meth.sig.returnType = some t) (ht : t.isReference = true) (hn : narrow t w = w) (hw : w.isRef = true) (hd : decode bs pc = .ok (.areturn, 1)) (hk : ce ≤ kc) (hs : sl ≤ ks) (hds : ∀ x ∈ Ds', x ∈ Ds) (hq : Q (some w) h Ds') : Done C Z n0 Q kc ks :=
  H.retX (v := some w) (fun e => by rw [hret] at e; cases e) (fun s T locs fs X hx hby hr => retOut X hx hret hn (Or.inr (Or.inr (Or.inr (Or.inr ⟨rfl, ht, hw⟩)))) (hb hby hd) hr) hk hs hds hq
theorem Rc.retV {Q : Option Value → Heap → List Addr → Prop} {kc ks : Nat} {Ds' : List Addr} (H : Rc C R own bs ml Z n0 ce sl pc Ls [] h Ds) (hret : C.meth.sig.returnType = none) (hd : decode bs pc = .ok (.return_, 1)) (hk : ce ≤ kc) (hs : sl ≤ ks) (hds : ∀ x ∈ Ds', x ∈ Ds) (hq : Q none h Ds') : Done C Z n0 Q kc ks :=
  H.retX (v := none) (fun _ => rfl) (fun s T locs fs X hx hby hr => X.returnOut hx hret (hb hby hd) hr) hk hs hds hq
/-! Strings -/
abbrev STR0 : String := "java/lang/String"
def bytesOfCs (cs : List Int32) : List Value := (cs.map fun c => c.toInt8.toInt32).map Value.int
def IsStr (Z : State) (h : Heap) (a : Addr) (cs : List Int32) : Prop :=
  Exa Z h a "java/lang/String" ∧ Fld Z h a "java/lang/String" "coder" "B" (.int 0) ∧ (∀ c ∈ cs, ¬ c < 0 ∧ ¬ (255 : Int32) < c) ∧ cs.length ≤ 4000 ∧
    ∃ (t : Addr) (kb : ClassId), Fld Z h a "java/lang/String" "value" "[B" (.ref t) ∧ Arv Z h t kb .byte (Int32.ofNat cs.length) (bytesOfCs cs) (.int 0)
def NotB (Z : State) (h : Heap) (w : Addr) : Prop := ∀ (t : Addr) (kb : ClassId) (z : Int32) (vs : List Value) (d : Value), Arv Z h t kb .byte z vs d → t ≠ w
theorem notB_exa {Z : State} {h : Heap} {w : Addr} {Cc : String} {n : Nat} {a0 : Array Value} (E : Exa Z h w Cc) (wi : (Jvm.Cond.instantiable Cc n).before a0 Z = true) : NotB Z h w := fun t kb z vs d F e => (E.neArv F wi) e.symm
theorem notB_arv {Z : State} {h : Heap} {w : Addr} {k : ClassId} {ty : FieldType} {z : Int32} {vs : List Value} {dv : Value} (V : Arv Z h w k ty z vs dv) (hty : ty ≠ .byte) : NotB Z h w := fun t kb z' vs' d F e => by
  subst e
  obtain ⟨c1, A1, -⟩ := F
  obtain ⟨c2, A2, -⟩ := V
  cases A1.1.symm.trans A2.1
  obtain ⟨-, k1, p1, comp1, q1⟩ := A1.2.1
  obtain ⟨-, k2, p2, comp2, q2⟩ := A2.2.1
  cases p1.symm.trans p2
  rw [q1] at q2
  cases q2
  exact hty rfl
theorem notB_new {Z : State} {h : Heap} {w : Addr} (e : h.size ≤ w) : NotB Z h w := fun t kb z vs d F q => by subst q; exact absurd F.lt (Nat.not_lt.mpr e)
theorem IsStr.keep {Z : State} {h h' : Heap} {a : Addr} {cs : List Int32} {ws : List Addr} (F : IsStr Z h a cs) (K : Keep h h' ws) (q : a ∉ ws) (q' : ∀ w ∈ ws, NotB Z h w) : IsStr Z h' a cs := by
  obtain ⟨f1, f2, f3, f4, t, kb, f5, f6⟩ := F
  exact ⟨f1.keep K, f2.keep K q, f3, f4, t, kb, f5.keep K q, f6.keep K (fun m => q' t m t kb _ _ _ f6 rfl)⟩
theorem IsStr.ext {Z : State} {h h' : Heap} {a : Addr} {cs : List Int32} (F : IsStr Z h a cs) (E : Ext h h') : IsStr Z h' a cs := F.keep ((Keep.refl h []).ext E) (fun m => nomatch m) (fun w m => nomatch m)
theorem IsStr.lt {Z : State} {h : Heap} {a : Addr} {cs : List Int32} (F : IsStr Z h a cs) : a < h.size := F.1.lt
theorem byte_of (n : Nat) (h : n < 256) : Jvm.Lit.byteI n.toUInt16 = (Int32.ofNat n).toInt8.toInt32 := by
  have t : ∀ k : Fin 256, Jvm.Lit.byteI k.val.toUInt16 = (Int32.ofNat k.val).toInt8.toInt32 := by decide +kernel
  exact t ⟨n, h⟩
theorem chr_of (n : Nat) (h : n < 256) : ¬ Int32.ofNat n < 0 ∧ ¬ (255 : Int32) < Int32.ofNat n := by
  have t : ∀ k : Fin 256, ¬ Int32.ofNat k.val < 0 ∧ ¬ (255 : Int32) < Int32.ofNat k.val := by decide +kernel
  exact t ⟨n, h⟩
theorem Sx.slOf {Z T : State} {h : Heap} {Ds : List Addr} {a : Addr} {u : Array UInt16} (F : Sx Z h Ds a u) (hal : Z.vm.Alike T.vm) (e : T.heap = h) : SlOf T a u := by
  obtain ⟨q, cS, h1, h2, ⟨kS, k1, k2, k3⟩, h4, h5, -, -⟩ := F
  obtain ⟨kS', hk', ek⟩ := hal.2.2 _ _ k1
  exact ⟨q, cS, h1, Sl.carry (U := ({ Z with heap := h } : State)) hal (by rw [e]; exact h2.1.1) (by rw [e]; exact h2.1.2.2.2.2.2.2.2.2.2.1) h2, ⟨kS', hk', by rw [ek]; exact k2, by rw [ek]; exact k3⟩, by rw [hal.findClass]; exact h4, h5⟩
theorem Sx.of_in {Z T : State} {Ds : List Addr} {a : Addr} {u : Array UInt16} {lo hi : Nat} (F : SlIn lo hi T a u) (hal : T.vm.Alike Z.vm) (hlo : lo ≤ hi) (ha : hi ≤ a) (hD : ∀ x ∈ Ds, x < hi) : Sx Z T.heap Ds a u := by
  obtain ⟨q, cS, h1, h2, ⟨kS, k1, k2, k3⟩, h4, h5, h6⟩ := F
  obtain ⟨kS', hk', ek⟩ := hal.2.2 _ _ k1
  subst h1
  have hb : hi ≤ q.sd := by
    rcases h6 with ⟨x, -⟩ | ⟨-, y⟩
    · exact absurd (Nat.lt_of_lt_of_le x hlo) (Nat.not_lt.mpr ha)
    · exact y
  exact ⟨q, cS, rfl, Sl.carry (U' := ({ Z with heap := T.heap } : State)) hal h2.1.1 h2.1.2.2.2.2.2.2.2.2.2.1 h2, ⟨kS', hk', by rw [ek]; exact k2, by rw [ek]; exact k3⟩, by rw [hal.findClass]; exact h4, h5, fun m => absurd (hD _ m) (Nat.not_lt.mpr ha), fun m => absurd (hD _ m) (Nat.not_lt.mpr hb)⟩
theorem Sx.str {Z : State} {h : Heap} {Ds : List Addr} {a : Addr} {units : Array UInt16} {text : String} {cs : List Int32} (F : Sx Z h Ds a units) (htext : utf16ToString? units = some text) (hlat : ∀ c ∈ text.toList, c.toNat < 256) (hcs : text.toList.map (fun c => Int32.ofNat c.toNat) = cs) (hlen : cs.length ≤ 4000) : IsStr Z h a cs ∧ a ∉ Ds := by
  obtain ⟨q, cS, hqa, ⟨⟨s1, s2, s3, ⟨cv, kv, iv, s4, s4'⟩, ⟨cc, kc, ic, s5, s5'⟩, s6, s7, s8, s9, s10, s11, s12, s13, s14, s15, s16⟩, hfS, hcS⟩, ⟨kS, k1, k2, k3⟩, hB, hbyt, hn1, hn2⟩ := F
  subst hqa
  have hl := Jvm.ClassFile.lat_of_text htext hlat
  have eu : bytesOfCs cs = units.toList.map fun u => Value.int (Jvm.Lit.byteI u) := by
    rw [Jvm.ClassFile.units_of_text htext hlat, List.map_map, ← hcs]
    show List.map Value.int (List.map (fun c => c.toInt8.toInt32) (List.map (fun c => Int32.ofNat c.toNat) text.toList)) = _
    rw [List.map_map, List.map_map]
    refine List.map_congr_left fun c hc => ?_
    show Value.int ((Int32.ofNat c.toNat).toInt8.toInt32) = Value.int (Jvm.Lit.byteI c.toNat.toUInt16)
    rw [byte_of _ (hlat c hc)]
  have el : cs.length = units.size := by
    have := congrArg List.length eu
    simpa [bytesOfCs] using this
  have hsl : q.SA.slots = units.map fun u => Value.int (Jvm.Lit.byteI u) := by rw [hbyt, SBG.stringBytes_lat hl]; rfl
  have hsz : q.SA.slots.size = units.size := by rw [hsl, Array.size_map]
  have Hh : Has q.SA (bytesOfCs cs) (.int 0) := fun j hj => by
    have hj' : j < units.size := by omega
    rw [hsl, eu]; simp [hj']
  have n32 : (Int32.ofNat cs.length).toNatClampNeg = cs.length := by
    have t : (Int32.ofNat cs.length).toInt = (cs.length : Int) := Int32.toInt_ofNat_small (by omega)
    show (Int32.ofNat cs.length).toInt.toNat = cs.length
    omega
  have nneg : ¬ Int32.ofNat cs.length < 0 := by
    have t : (Int32.ofNat cs.length).toInt = (cs.length : Int) := Int32.toInt_ofNat_small (by omega)
    rw [Int32.lt_iff_toInt_lt]
    have z0 : (0 : Int32).toInt = 0 := rfl
    omega
  refine ⟨⟨⟨q.sC, kS, s1, by rw [hcS]; exact hfS, by rw [hcS]; exact k1, s3, fun _ => k3⟩, ⟨q.sC, cc, kc, ic, q.fSC, s1, s5, s7, s2, s3, s5', s9⟩, ?_, hlen, q.sd, q.SA.cls, ⟨q.sC, cv, kv, iv, q.fSV, s1, s4, s6, s2, s3, s4', s8⟩, ⟨q.SA, ⟨s10, s11, s12⟩, rfl, by rw [hsz, n32, el], nneg, Hh, fun j hj => ?_⟩⟩, hn1⟩
  · intro c hc
    rw [← hcs] at hc
    obtain ⟨ch, h1, rfl⟩ := List.mem_map.mp hc
    exact chr_of _ (hlat ch h1)
  · have e1 := s16 j hj
    have e2 := Hh j hj
    rw [SBG.getD_of e2] at e1
    exact e1
theorem own_atoms {Z s : State} {a0 args : Array Value} (hZ : Z.Warmed39 s.vm) (wS : ∀ a ∈ Bundle.stringAtoms, a.before a0 Z = true) : ∀ a ∈ Bundle.stringAtoms, a.before args s = true := fun d hd => by
  have q := wS d hd
  simp only [Bundle.stringAtoms, List.mem_cons, List.not_mem_nil, or_false] at hd
  rcases hd with rfl | rfl | rfl | rfl | rfl | rfl | rfl
  · exact mv hZ q
  · exact mv hZ q
  · exact mvA hZ q
  · exact mv hZ q
  · exact mv hZ q
  · exact mv hZ q
  · exact mv hZ q
theorem open_stays {s : State} {vm' : Vm} (hW : s.WarmedH vm') {c : ClassId} {k k' : Class} {cf : ClassFile} {idx : Nat} {text : String} (hk : s.vm.classes[c]? = some k) (hk' : vm'.classes[c]? = some k') (hcf : k.cf = some cf) (hnm : namesOf? cf.constantPool idx = some (.string text)) (ho : k.resolved[idx]? = some none) : k'.resolved[idx]? = some none := by
  obtain ⟨-, -, hfw⟩ := hW
  obtain ⟨k2, hk2, -, -, ee, -⟩ := hfw _ k hk
  cases hk2.symm.trans hk'
  rcases ee idx with e0 | ⟨-, r, -, hr⟩
  · exact e0.trans ho
  · exfalso
    cases r <;> simp [State.rightAt, hk, hcf, hnm] at hr
/-- 'ldc' of a String constant at the state at hand -/
theorem ldcNow {p : Program} {l : Launch} {e : Env} {R : Room} {s : State} {m : MethodId} {args : Array Value} {below : List Frame} {meth : Method} {c : Code} {T : State} {locs : List Loc} {cells slots : Nat}
    (X : Stand p l e R s m args below meth c T locs cells slots) (hexec : p.tables.exec = Jvm.exec) {own text : String} {index : Nat} (hown : T.vm.findClass own = some m.cls)
    (hlink : (Jvm.Cond.stringLink own index text).before args T = true) (hS : ∀ a ∈ Bundle.stringAtoms, a.before args T = true) (hheld : ConstHeldL T own index) (hlat : ∀ units : Array UInt16, utf16ToString? units = some text → units.all (· < 256) = true)
    {g : JFrame} (hg : g.method = m) (hdg : decode c.code g.pc = .ok (.ldc index, 2)) {n : Nat} (hn : 4 * text.toList.length ≤ n) (hbig : n ≤ 536870912) (hRcells : cells + 2 ≤ R.cells) (hRslots : slots + (n + 4) ≤ R.slots) :
    ∃ (a : Addr) (T₂ : State), Stand p l e R (s.setVm T₂.vm) m args below meth c T₂ locs (cells + 2) (slots + (n + 4)) ∧ s.Since T₂.vm T₂.heap.size ∧ (∃ k₂, T₂.vm.classes[m.cls]? = some k₂ ∧ k₂.resolved[index]? = some (some (.string a))) ∧
      (∀ a0, a0 < T.heap.size → T₂.heap[a0]? = T.heap[a0]?) ∧ T.heap.size ≤ T₂.heap.size ∧ T.Warmed39 T₂.vm ∧ T.Interned1 T₂ ∧ (T₂.vm.interned = T.vm.interned ∨ ∃ (units : Array UInt16) (a' : Addr), utf16ToString? units = some text ∧ T₂.vm.interned = T.vm.interned.push (units, a')) ∧
      (∃ units : Array UInt16, utf16ToString? units = some text ∧ SlIn T.heap.size T.heap.size T₂ a units) ∧
      ∀ target, Steps p.tables e below (T₂.setTop { g with pc := g.pc + 2, stack := .ref a :: g.stack }) target → Steps p.tables e below (T.setTop g) target := by
  obtain ⟨g₀, hf0⟩ := X.frames_eq
  have hcur : T.cur < T.threads.size := State.cur_lt_of_frames hf0
  obtain ⟨th, hth, -⟩ := State.frames_cons hf0
  have hF : (T.setFrames (.invoking m args :: below)).frames = .invoking m args :: below := State.frames_setFrames _ hcur
  have hme : (T.setFrames (.invoking m args :: below)).me.stackBytes = T.me.stackBytes := by
    simp [State.me, State.setFrames, Array.getElem_modify, hcur]
  have hlim : e.platform.stackLimits (T.setFrames (.invoking m args :: below)).me = e.platform.stackLimits T.me := by
    show e.platform.limitsFor _ = e.platform.limitsFor _
    rw [hme]
  have hroom : (T.setFrames (.invoking m args :: below)).hasRoom e.platform ({ R with cells := R.cells - cells, slots := R.slots - slots } : Room) = true := by
    have h0 := X.room
    have hb := X.book
    have hsz := X.heapSize
    have hus := X.used
    have hU : (T.setFrames (.invoking m args :: below)).localsInUse = s.localsInUse := by
      rw [State.localsInUse_invoking hF (show (T.setFrames (.invoking m args :: below)).vm.method? m = some meth from X.method') X.code, State.localsInUse_invoking X.frames X.method X.code]
    have hfl : (T.setFrames (.invoking m args :: below)).frames.length = s.frames.length := by rw [hF, X.frames]
    unfold State.hasRoom at h0 ⊢
    rw [hU, hfl, hlim, X.limits, hme, X.bytes]
    simp only [Bool.and_eq_true, decide_eq_true_eq] at h0 ⊢
    obtain ⟨⟨⟨⟨q1, q2⟩, q3⟩, q4⟩, q5⟩ := h0
    refine ⟨⟨⟨⟨q1, q2⟩, ?_⟩, ?_⟩, hb⟩
    · show T.heap.size + (R.cells - cells) ≤ _
      omega
    · show T.slotsUsed + (R.slots - slots) ≤ _
      omega
  have hhears : (T.setFrames (.invoking m args :: below)).hears m below = true := by
    have h0 := X.hears
    have hmeth : ∀ mm : MethodId, (T.setFrames (.invoking m args :: below)).vm.method? mm = s.vm.method? mm := fun mm => X.warmed.alike.method? mm
    have hcode : ∀ mm : MethodId, (T.setFrames (.invoking m args :: below)).code? mm = s.code? mm := fun mm => by rw [State.code?_eq, State.code?_eq, hmeth]
    cases hb : below with
    | nil => rw [hb] at h0 hmeth; simp only [State.hears] at h0 ⊢; rw [hmeth]; exact h0
    | cons f r =>
      rw [hb] at h0 hmeth hcode
      cases f <;> simp only [State.hears] at h0 ⊢ <;> first | (rw [hcode]; exact h0) | (rw [hmeth]; exact h0) | exact h0
  have hsame : (T.setFrames (.invoking m args :: below)).sameButNew (T.setVm (T.setFrames (.invoking m args :: below)).vm) [] 0 0 := by
    have hd0 : T.heap.toList.drop T.heap.size = [] := List.drop_eq_nil_of_le (by simp)
    refine ⟨?_, Nat.le_refl _, Nat.le_refl _, ?_, ?_, fun a cl hcl => ⟨cl, hcl, rfl, rfl, fun _ _ => rfl⟩⟩
    · show T = { (T.setFrames (.invoking m args :: below)).setFrames T.frames with heap := T.heap, slotsUsed := T.slotsUsed }
      rw [State.setFrames_setFrames, State.setFrames_self hth]
    · show T.slotsUsed = T.slotsUsed + ((T.heap.toList.drop T.heap.size).map (·.slots.size)).sum
      rw [hd0]; rfl
    · show ((T.heap.toList.drop T.heap.size).map (·.slots.size)).sum ≤ 0
      rw [hd0]; exact Nat.le_refl _
  have X' : Stand p l e ({ R with cells := R.cells - cells, slots := R.slots - slots } : Room) (T.setFrames (.invoking m args :: below)) m args below meth c T [] 0 0 :=
    ⟨X.admits, X.cas, X.clock, hF, hroom, hhears, X.method', X.code, X.here, X.tail, State.WarmedH.refl (T.setFrames (.invoking m args :: below)), hlim.symm, hme.symm, hsame⟩
  obtain ⟨a, T₂, X2, hS2, hres, hkeep, hint1, hint, hin, st⟩ := X'.ldcColdF (fun b cl h => h) hexec (own := own) (text := text) (index := index) hown hlink (own_atoms (Z := T) (s := T.setFrames (.invoking m args :: below)) (State.Warmed39.refl T) hS) hheld hlat hg hdg hn hbig (by show 0 + 2 ≤ R.cells - cells; omega) (by show 0 + (n + 4) ≤ R.slots - slots; omega)
  have hsm : T.sameButNew (T₂.setVm T.vm) [] 2 (n + 4) := by
    have q := X2.same.setVm T.vm
    obtain ⟨r1, r2, r3, r4, r5, r6⟩ := q
    refine ⟨?_, r2, by simpa using r3, r4, by simpa using r5, r6⟩
    refine r1.trans ?_
    show ({ (T.setFrames (.invoking m args :: below)).setFrames T₂.frames with heap := T₂.heap, slotsUsed := T₂.slotsUsed } : State) = _
    rw [State.setFrames_setFrames]
    rfl
  obtain ⟨Y, hSY⟩ := X.movedW (T₂ := T₂) X2.here X2.tail (X2.limits.trans hlim) (X2.bytes.trans hme) hS2.1 hS2.2 hsm
  rw [List.append_nil] at Y
  exact ⟨a, T₂, Y, hSY, hres, hkeep, hint1.1, hS2.1, hint1, hint, hin, st⟩
theorem Rc.ldcS {pc' idx n : Nat} {text : String} {cs : List Int32} (H : Rc C R own bs ml Z n0 ce sl pc Ls S h Ds) (hm : (own, idx) ∈ CL) (w : (Jvm.Cond.stringLink own idx text).before a0 Z = true) (hlat : ∀ c ∈ text.toList, c.toNat < 256) (hcs : text.toList.map (fun c => Int32.ofNat c.toNat) = cs) (hlen : cs.length ≤ 4000)
    (hd : decode bs pc = .ok (.ldc idx, 2)) (hn : 4 * text.toList.length ≤ n) (hbig : n ≤ 536870912) (hc : ce + 2 ≤ R.cells) (hl : sl + (n + 4) ≤ R.slots) (hp : pc + 2 = pc') :
    ∃ (h' : Heap) (a : Addr), Ext h h' ∧ IsStr Z h' a cs ∧ a ∉ Ds ∧ Rc C R own bs ml Z n0 (ce + 2) (sl + (n + 4)) pc' Ls (.ref a :: S) h' Ds := by
  subst hp
  obtain ⟨T, locs, vm0, k0, X, h1, h2, h3, h4, h5, h6, h7, k⟩ := H
  obtain ⟨aS, -, -, -, wS⟩ := h4.2.2.2.1 own idx hm
  have hownB : (C.s.setVm vm0).vm.findClass own = some C.m.cls := h7.2.2.2.1
  have wB : (Jvm.Cond.stringLink own idx text).before C.args (C.s.setVm vm0) = true := mvS (s := C.s) h3 w
  obtain ⟨kB, cf, i, units, hkB, hcf, hpB, hu, hnm, htext, hres⟩ := Cond.stringLink_spec hownB wB
  rcases hres with hopen | ⟨a, hra⟩
  · -- open: the rebased cold law
    have hZT : Z.Warmed39 T.vm := State.Warmed39.trans (t := C.s.setVm vm0) h3 X.warmed.wide
    have JT : JJ Z n0 T.vm h Ds := JJ.warm (t := C.s.setVm vm0) h4 h3 X.warmed
    have hownT : T.vm.findClass own = some C.m.cls := by rw [X.warmed.alike.findClass]; exact hownB
    have wT : (Jvm.Cond.stringLink own idx text).before C.args T = true := mvS (s := T) (vm0 := T.vm) hZT w
    have hheld : ConstHeldL T own idx := fun c k cf i units a q1 q2 q3 q4 q5 q6 => (JT.2.2.2.2 own idx hm c k cf i units a q1 q2 q3 q4 q5 q6).slOf hZT.alike h5
    obtain ⟨a, T₂, X2, hS2, ⟨kk, hkk, hrr⟩, hkeep, hgr, hW2, hint1, hint, ⟨us, htu, hin⟩, st⟩ := ldcNow X h7.1 hownT wT (own_atoms hZT wS) hheld (fun units hu => Jvm.ClassFile.lat_of_text hu hlat) (g := mkF C.m pc Ls S) rfl (hb h7.2.1 hd) hn hbig hc hl
    have E : Ext h T₂.heap := by rw [← h5]; exact ext_of hkeep
    have sameU : ∀ u v : Array UInt16, utf16ToString? u = some text → utf16ToString? v = some text → u = v := fun u v hu hv => by
      apply Array.toList_inj.mp
      rw [Jvm.ClassFile.units_of_text hu hlat, Jvm.ClassFile.units_of_text hv hlat]
    -- the entry, as T and as T₂ have it
    obtain ⟨kT, cfT, iT, unT, hkT, hcfT, hpT, huT, hnmT, htT, hresT⟩ := Cond.stringLink_spec hownT wT
    obtain ⟨k2, hk2, hke2, -, ee2, -⟩ := hW2.2.2.2 _ kT hkT
    cases hk2.symm.trans hkk
    have hcl : CL = [] → Z.WarmedH T₂.vm := fun e => by rw [e] at hm; exact absurd hm (List.not_mem_nil)
    have hintJ : T₂.vm.interned = T.vm.interned ∨ ∃ (u : Array UInt16) (a' : Addr), T₂.vm.interned = T.vm.interned.push (u, a') ∧ (T.vm.interned.find? (fun p => p.1 == u) = none → Sx Z T₂.heap Ds a' u) := by
      rcases hint with e | ⟨u, a', hu', e⟩
      · exact Or.inl e
      · refine Or.inr ⟨u, a', e, fun hnone => ?_⟩
        have ha' : T.heap.size ≤ a' := by
          rcases hint1.2 with q | ⟨u2, a2, q, r1, -⟩
          · rw [q] at e
            have := congrArg Array.size e
            simp at this
          · have := q.symm.trans e
            have := Array.push_inj_right.mp this
            cases this
            exact r1
        -- a is a'
        have hopT : kT.resolved[idx]? = some none := open_stays X.warmed hkB hkT hcf hnm hopen
        have eu : u = unT := sameU _ _ hu' htT
        have eus : us = u := sameU _ _ htu hu'
        have haa : a = a' := by
          rcases ee2 idx with e0 | ⟨-, r, e1, hr | ⟨a3, t3, si, us3, rfl, -, z3, z4, z5⟩⟩
          · have := (e0.trans hopT).symm.trans hrr
            simp at this
          · exfalso
            cases r <;> simp [State.rightAt, hkT, hcfT, hnmT] at hr
          · rw [hcfT] at z3 z4
            have e3 : si = iT := by
              have := z3.symm.trans hpT
              simpa using this
            subst e3
            have e4 : us3 = unT := by simpa [ConstantPool.utf8?, huT] using z4.symm
            subst e4
            have ea : a3 = a := by have := e1.symm.trans hrr; simpa using this
            subst ea
            rw [e, Array.find?_push, ← eu, hnone, Option.none_or] at z5
            simp at z5
            exact z5.symm
        subst haa
        rw [← eus]
        exact Sx.of_in hin (State.Warmed39.trans hZT hW2).alike.symm (Nat.le_refl _) ha' (fun x hx => by rw [h5]; exact (h4.2.2.1 x hx).2)
    have J2 : JJ Z n0 T₂.vm T₂.heap Ds := (JT.ext E).step hZT hW2 hintJ hcl
    have hcf2 : kk.cf = some cfT := by rw [hke2]; exact hcfT
    have hown2 : T₂.vm.findClass own = some C.m.cls := by rw [hW2.alike.findClass]; exact hownT
    have SX := J2.2.2.2.2 own idx hm _ kk cfT iT unT a hown2 hkk hcf2 hpT huT (Or.inl hrr)
    obtain ⟨hstr, hnin⟩ := SX.str htT hlat hcs hlen
    exact ⟨T₂.heap, a, E, hstr, hnin, T₂, locs, T₂.vm, T₂.heap.size, X2, h1.trans hS2 (Nat.le_trans h2 E.1), Nat.le_refl _, State.Warmed39.trans hZT hW2, J2, rfl, h6, ⟨h7.1, h7.2.1, h7.2.2.1, hown2, h7.2.2.2.2⟩, fun t ht => k _ (st _ ht)⟩
  · -- resolved already
    have SX := h4.2.2.2.2 own idx hm _ kB cf i units a hownB hkB hcf hpB hu (Or.inl hra)
    obtain ⟨hstr, hnin⟩ := SX.str htext hlat hcs hlen
    have L : Lit (C.s.setVm vm0) own idx a := by
      have hkB' : vm0.classes[C.m.cls]? = some kB := hkB
      have hown' : vm0.findClass own = some C.m.cls := hownB
      simp [Lit, State.resolvedAt?, State.setVm, hown', hkB', hra]
    have st := ldcAgain X h7.1 h3 h7.2.2.2.1 w L (g := mkF C.m pc Ls S) rfl (hb h7.2.1 hd)
    exact ⟨h, a, ⟨Nat.le_refl _, fun _ _ q => q⟩, hstr, hnin, T, locs, vm0, k0, X.mono (by omega) (by omega), h1, h2, h3, h4, h5, h6, h7, fun t ht => k _ (st _ ht)⟩
theorem own_sx0 {s : State} {a : Addr} {units : Array UInt16} (F : SlOf s a units) : Sx s s.heap [] a units := by
  obtain ⟨q, cS, h1, h2, h3, h4, h5⟩ := F
  exact ⟨q, cS, h1, h2, h3, h4, h5, by simp, by simp⟩
theorem ch0 : ∀ c ∈ ([] : List Int32), ¬ c < 0 ∧ ¬ (255 : Int32) < c := fun c hc => nomatch hc
theorem chS {x : Int32} {cs : List Int32} (p : ¬ x < 0 ∧ ¬ (255 : Int32) < x) (q : ∀ c ∈ cs, ¬ c < 0 ∧ ¬ (255 : Int32) < c) : ∀ c ∈ x :: cs, ¬ c < 0 ∧ ¬ (255 : Int32) < c := fun c hc => by
  rcases List.mem_cons.mp hc with e | e
  · rw [e]; exact p
  · exact q c e
def bi (b : Bool) : Int32 := if b then 1 else 0
theorem bi_nar (b : Bool) : nar .boolean (bi b) = bi b := by cases b <;> rfl
theorem memS {n : Addr} {Ns Ds : List Addr} (h : n ∈ Ds) (f : ∀ x ∈ Ns, x ∈ Ds) : ∀ x ∈ n :: Ns, x ∈ Ds := fun x hx => by
  rcases List.mem_cons.mp hx with e | e
  · rw [e]; exact h
  · exact f x e
theorem own_toInt {x : Int32} (h : ¬ x < 0 ∧ ¬ (255 : Int32) < x) : 0 ≤ x.toInt ∧ x.toInt ≤ 255 := by
  obtain ⟨h1, h2⟩ := h
  rw [Int32.lt_iff_toInt_lt] at h1 h2
  have e0 : (0 : Int32).toInt = 0 := rfl
  have e1 : (255 : Int32).toInt = 255 := rfl
  omega
theorem ofFin {x : Int32} (h : ¬ x < 0 ∧ ¬ (255 : Int32) < x) : ∃ k : Fin 256, x = Int32.ofNat k.val := by
  have b := own_toInt h
  refine ⟨⟨x.toInt.toNat, by omega⟩, ?_⟩
  apply Int32.toInt_inj.mp
  rw [Int32.toInt_ofNat_of_lt (by show x.toInt.toNat < _; omega)]
  show x.toInt = (x.toInt.toNat : Int)
  omega
theorem nar_of {x : Int32} (h : ¬ x < 0 ∧ ¬ (255 : Int32) < x) : nar .char x = x := by
  obtain ⟨k, rfl⟩ := ofFin h
  revert k; decide +kernel
theorem own_nr {ty : FieldType} {v : Value} (ht : ty.isReference = true) (hv : v.isRef = true) : narrow ty v = v := by
  rcases ref_cases hv with rfl | ⟨_, rfl⟩ <;> cases ty <;> first | rfl | cases ht
theorem own_fr {ty : FieldType} {v : Value} (ht : ty.isReference = true) (hv : v.isRef = true) : fits ty v = true := by
  rcases ref_cases hv with rfl | ⟨_, rfl⟩ <;> cases ty <;> first | rfl | cases ht
theorem own_nsroot {Z : State} {a0 : Array Value} {O K : String} {n : Nat} (w : (Jvm.Cond.noSuperclass O).before a0 Z = true) (wi : (Jvm.Cond.instantiable K n).before a0 Z = true) (hn : O ≠ K) : NS Z O K := by
  obtain ⟨c, k, h1, h2, h3, -, -⟩ := Cond.noSuperclass_spec w
  obtain ⟨t, kt, g1, -⟩ := Cond.instantiable_spec wi
  have ne := ids_ne h1 g1 hn
  refine ⟨c, t, h1, g1, fun fuel => ?_⟩
  cases fuel with
  | zero => rfl
  | succ f => simp [Vm.isSubclassAux, ne, h2, h3]
theorem own_nsno {Z : State} {a0 : Array Value} {Cc S K : String} {m : Nat} (w : (Jvm.Cond.superclass Cc S).before a0 Z = true) (wi : (Jvm.Cond.instantiable K m).before a0 Z = true) (n : NS Z Cc K) (hn : Cc ≠ K) : ∃ c t, Z.vm.findClass Cc = some c ∧ Z.vm.findClass K = some t ∧ Z.vm.assignable c t = false := by
  obtain ⟨c, t, h0, g0, n3⟩ := n
  obtain ⟨p, k, kp, h1, h2, h3, h4, h5, -, h7⟩ := Cond.superclass_spec h0 w
  obtain ⟨t', k', g1, g2, g5, g7, -⟩ := Cond.instantiable_spec wi
  cases g0.symm.trans g1
  have g8 : k'.isInterface = false := by simp only [Bool.or_eq_false_iff] at g7; exact g7.1
  have ne := ids_ne h0 g0 hn
  refine ⟨c, t, h0, g0, ?_⟩
  show Z.vm.assignableAux (255 + 1) c t = false
  simp [Vm.assignableAux, ne, h2, g2, h5, g5, g8, Vm.isSubclass, n3]
/-! clones of arrays; more steps -/
theorem arv_of_arh {Z : State} {h : Heap} {a : Addr} {k : ClassId} {ty : FieldType} {z : Int32} {vs : List Value} {dv : Value} (F : Arh Z h a k ty z [] vs dv) : Arv Z h a k ty z vs dv := F
theorem Rc.clone {pc' idx W cap : Nat} {ad : String} {a : Addr} {kA : ClassId} {ty : FieldType} {z : Int32} {vs : List Value} {dv : Value} (H : Rc C R own bs ml Z n0 ce sl pc Ls (.ref a :: rest) h Ds)
    (w1 : (Jvm.Cond.methodLink own idx ⟨ad, "clone", "()Ljava/lang/Object;"⟩).before a0 Z = true) (w2 : (Jvm.Cond.sameMethod ad "java/lang/Object" "clone" "()Ljava/lang/Object;").before a0 Z = true) (w3 : (Jvm.Cond.native ⟨"java/lang/Object", "clone", "()Ljava/lang/Object;"⟩).before a0 Z = true)
    (w4 : (Jvm.Cond.instanceMethod ⟨"java/lang/Object", "clone", "()Ljava/lang/Object;"⟩).before a0 Z = true) (w5 : (Jvm.Cond.selects ad ⟨ad, "clone", "()Ljava/lang/Object;"⟩ ⟨"java/lang/Object", "clone", "()Ljava/lang/Object;"⟩).before a0 Z = true) (w6 : (Jvm.Cond.castable ad "java/lang/Cloneable").before a0 Z = true)
    (V : Arv Z h a kA ty z vs dv) (E : Exa Z h a ad) (hsz : Ls.size = ml) (hd : decode bs pc = .ok (.invokevirtual idx, 3)) (hf : 1 ≤ R.frames) (hW : (rest.map fun v => v.category).sum = W) (hl : W + 14 ≤ R.locals) (hcap : z.toNatClampNeg ≤ cap) (hc : ce + 1 ≤ R.cells) (hsl : sl + cap ≤ R.slots) (hp : pc + 3 = pc') :
    ∃ (h' : Heap) (b : Addr), b = h.size ∧ Ext h h' ∧ Arv Z h' b kA ty z vs dv ∧ Exa Z h' b ad ∧ Rc C R own bs ml Z n0 (ce + 1) (sl + cap) pc' Ls (.ref b :: rest) h' (b :: Ds) := by
  subst hp
  obtain ⟨T, locs, vm0, k0, X, h1, h2, h3, h4, h5, h6, h7, k⟩ := H
  obtain ⟨T', h', X', e', E', A', F', st⟩ := RoadKit.cloneH X h7.1 (Z := Z) h3 h7.2.2.2.1 w1 w2 w3 w4 w5 w6 h5 V.arh E (g := mkF C.m pc Ls (.ref a :: rest)) rfl (hsz.trans h7.2.2.1.symm) rfl (hb h7.2.1 hd) hf (W := W) (by show 2 * 0 + _ ≤ _; omega) hl hcap hc hsl
  exact ⟨h', h.size, rfl, E', arv_of_arh A', F', T', _, vm0, k0, X', h1, Nat.le_trans h2 E'.1, h3, h4.born E' F'.lt, e', h6, h7, fun t ht => k _ (st _ ht)⟩
theorem Rc.ldc2L {pc' idx : Nat} {v : Int64} (H : Rc C R own bs ml Z n0 ce sl pc Ls S h Ds) (w : (Jvm.Cond.constantLong own idx v).before a0 Z = true) (hd : decode bs pc = .ok (.ldc2_w idx, 3)) (hp : pc + 3 = pc') : Rc C R own bs ml Z n0 ce sl pc' Ls (.long v :: S) h Ds := by
  subst hp
  exact H.goX fun s T locs t X hZ hown eT hx hby kk => X.ldc2Long hx hown (mvT hZ w) (g := mkF C.m pc Ls S) rfl (hb hby hd) _ kk
theorem Rc.ldcI {pc' idx : Nat} {v : Int32} (H : Rc C R own bs ml Z n0 ce sl pc Ls S h Ds) (w : (Jvm.Cond.constant own idx v).before a0 Z = true) (hd : decode bs pc = .ok (.ldc idx, 2)) (hp : pc + 2 = pc') : Rc C R own bs ml Z n0 ce sl pc' Ls (.int v :: S) h Ds := by
  subst hp
  exact H.goX fun s T locs t X hZ hown eT hx hby kk => X.ldcInt hx hown (mvT hZ w) (g := mkF C.m pc Ls S) rfl (hb hby hd) _ kk
/-! the case's words, read -/
section GivenWords
variable {s : State} {args : Array Value} {t u : Term} {a b : Addr} {cl : Cell} {ty : FieldType} {i k : Int32} {v : Value} {Cc n d : String}
theorem g_int (h : (Jvm.Cond.eq t (.int k)).value args s none s [] = some true) : t.eval args s none [] s = some (.int k) := Cond.eq_int (Cond.before_iff.mpr h) rfl
theorem g_ref (h : (Jvm.Cond.eq t u).value args s none s [] = some true) (hu : u.eval args s none [] s = some (.ref b)) : t.eval args s none [] s = some (.ref b) := by
  obtain ⟨x, y, h1, h2, h3, h4⟩ := cmp_v (Or.inl h)
  rw [hu] at h2
  cases h2
  have hx : x.isRef = true := by
    cases x <;> simp_all [Kin, Value.isRef]
  have q := gotT (eq_R h1 hu hx rfl) h
  rw [h1, q]
theorem g_fld (ht : t.eval args s none [] s = some (.ref a)) (e : (Term.field t Cc n d).eval args s none [] s = some v) : Fld s s.heap a Cc n d v := Fld.start (by rw [← fld_at (args := args) (first := s) (o := none) (idx := []) (C := Cc) (n := n) (dd := d) ht]; exact e)
theorem g_elem (e : (Term.elem t (.int i)).eval args s none [] s = some v) (ht : t.eval args s none [] s = some (.ref a)) (A : Arr s s.heap a cl ty) : cl.slots[i.toNatClampNeg]? = some v := (elem_in e ht rfl A.1).2
theorem g_len (e : (Term.length t).eval args s none [] s = some (.int k)) (ht : t.eval args s none [] s = some (.ref a)) (A : Arr s s.heap a cl ty) : cl.slots.size < 2 ^ 31 ∧ cl.slots.size.toInt32 = k := by
  have ha : s.arrayAt? a = some cl := A.fin (own_al s)
  have hl : cl.slots.size < 2 ^ 31 := SBG.length_lt ht ha e
  have q := len_f ht ha hl
  rw [q] at e
  exact ⟨hl, by simpa using e⟩
theorem g_str {cs : List Int32} {kb : ClassId} {b' : Addr} (X : Exa s s.heap a "java/lang/String") (Fc : Fld s s.heap a "java/lang/String" "coder" "B" (.int 0)) (Fv : Fld s s.heap a "java/lang/String" "value" "[B" (.ref b')) (V : Arv s s.heap b' kb .byte (Int32.ofNat cs.length) (bytesOfCs cs) (.int 0)) (h1 : ∀ c ∈ cs, ¬ c < 0 ∧ ¬ (255 : Int32) < c) (h2 : cs.length ≤ 4000) : IsStr s s.heap a cs := ⟨X, Fc, h1, h2, b', kb, Fv, V⟩
end GivenWords
/-! the String laws of the paste, in the forward form -/
abbrev CompactOn (Z : State) : Prop := ∃ z : Int32, Sta Z Z.heap "java/lang/String" "COMPACT_STRINGS" "Z" (.int z) ∧ ¬ z = 0
abbrev SiooOk (Z : State) : Prop := ∃ fm : Value, Sta Z Z.heap "jdk/internal/util/Preconditions" "SIOOBE_FORMATTER" "Ljava/util/function/BiFunction;" fm ∧ fm.isRef = true
theorem own_up {cs : List Int32} (h : ∀ c ∈ cs, ¬ c < 0 ∧ ¬ (255 : Int32) < c) : ∀ c ∈ cs, ¬ c < 0 ∧ ¬ (65535 : Int32) < c := fun c hc => ⟨(h c hc).1, fun q => (h c hc).2 (by rw [Int32.lt_iff_toInt_lt] at q ⊢; have e1 : (65535 : Int32).toInt = 65535 := rfl; have e2 : (255 : Int32).toInt = 255 := rfl; omega)⟩
theorem Rc.newStr {pc' idx W : Nat} {x b : Addr} {kC : ClassId} {cs : List Int32} {d v0 c0 : Value} {N : Int32} (H : Rc C R own bs ml Z n0 ce sl pc Ls (.ref b :: .ref x :: rest) h Ds) (hws : ∀ d ∈ StrChars.Road.words, d.before a0 Z = true) (wi : (Jvm.Cond.instantiable "java/lang/String" 4).before a0 Z = true)
    (hlink : (Jvm.Cond.methodLink own idx ⟨"java/lang/String", "<init>", "([C)V"⟩).before a0 Z = true) (hinst : (Jvm.Cond.instanceMethod ⟨"java/lang/String", "<init>", "([C)V"⟩).before a0 Z = true) (CS : CompactOn Z)
    (E : Exa Z h x "java/lang/String") (V : Fld Z h x "java/lang/String" "value" "[B" v0) (Cd : Fld Z h x "java/lang/String" "coder" "B" c0) (K : Arv Z h b kC .char N (cs.map Value.int) d) (hN : N = Int32.ofNat cs.length) (l0 : 0 < cs.length) (l2 : cs.length ≤ 4000) (hp : ∀ c ∈ cs, ¬ c < 0 ∧ ¬ (255 : Int32) < c) (hx : x ∈ Ds)
    (hsz : Ls.size = ml) (hW : (rest.map fun v => v.category).sum = W) (hd : decode bs pc = .ok (.invokespecial idx, 3)) (hfr : 4 ≤ R.frames) (hlo : W + 65 ≤ R.locals) (hce : ce + 1 ≤ R.cells) (hsl : sl + cs.length ≤ R.slots) (hpc : pc + 3 = pc') :
    ∃ h', Keep h h' [x] ∧ IsStr Z h' x cs ∧ Rc C R own bs ml Z n0 (ce + 1) (sl + cs.length) pc' Ls rest h' Ds := by
  obtain ⟨z, hS, hz⟩ := CS
  obtain ⟨v, h', L, ⟨q1, q2, q3, q4, q5, t, kb, -, -, -, q6, q7⟩, R'⟩ := H.backI (y := ⟨"java/lang/String", "<init>", "([C)V"⟩) (kc := 1) (ks := cs.length) (argsL := [.ref b]) (Qb := fun v h' L => StrChars.Road.QV Z x N (cs.map (fun c => c.toInt8.toInt32)) h n0 v h' L) rfl hlink hinst (hws _ (List.mem_of_getElem? (i := 0) rfl)) (by decide)
    (fun s' hZ' => StrChars.Road.backV (W := W) hZ' hws wi (cs := cs) (bs := cs.map (fun c => c.toInt8.toInt32)) (n := cs.length) (H.mem hx).1 (own_n0 H.old) E V Cd K (hS.ext H.old.2) hz rfl hN l0 l2 hp rfl hfr hlo)
    (fun v h' L q => ⟨q.2.1, [x], q.2.2.1, own_ws1 hx⟩) hsz (lenOf (ps := [.array .char]) (r := none) (by decide +kernel) rfl) rfl hW hd hce hsl hpc
  subst q1
  exact ⟨h', q3, ⟨q4, q5, hp, l2, t, kb, q6, by rw [← hN]; exact q7⟩, R'⟩
theorem n4_8 : decode StrChars.New4.yB 8 = .ok (.aload_n 0, 1) := by decide +kernel
theorem n4_9 : decode StrChars.New4.yB 9 = .ok (.ldc 7, 2) := by decide +kernel
theorem n4_11 : decode StrChars.New4.yB 11 = .ok (.getfield 9, 3) := by decide +kernel
theorem n4_14 : decode StrChars.New4.yB 14 = .ok (.putfield 9, 3) := by decide +kernel
theorem n4_17 : decode StrChars.New4.yB 17 = .ok (.aload_n 0, 1) := by decide +kernel
theorem n4_18 : decode StrChars.New4.yB 18 = .ok (.ldc 7, 2) := by decide +kernel
theorem n4_20 : decode StrChars.New4.yB 20 = .ok (.getfield 15, 3) := by decide +kernel
theorem n4_23 : decode StrChars.New4.yB 23 = .ok (.putfield 15, 3) := by decide +kernel
theorem n4_26 : decode StrChars.New4.yB 26 = .ok (.return_, 1) := by decide +kernel
theorem Rc.str_ch {pc' idx W : Nat} {x : Addr} {cs : List Int32} {j : Int32} {i : Nat} (H : Rc C R own bs ml Z n0 ce sl pc Ls (.int j :: .ref x :: rest) h Ds) (hws : ∀ d ∈ StrChars.Road.wordsChN, d.before a0 Z = true) (wi : (Jvm.Cond.instantiable "java/lang/String" 4).before a0 Z = true)
    (hlink : (Jvm.Cond.methodLink own idx ⟨"java/lang/String", "charAt", "(I)C"⟩).before a0 Z = true) (hdecl : (Jvm.Cond.declares ⟨"java/lang/String", "charAt", "(I)C"⟩).before a0 Z = true) (hsel : (Jvm.Cond.selects "java/lang/String" ⟨"java/lang/String", "charAt", "(I)C"⟩ ⟨"java/lang/String", "charAt", "(I)C"⟩).before a0 Z = true) (hinst : (Jvm.Cond.instanceMethod ⟨"java/lang/String", "charAt", "(I)C"⟩).before a0 Z = true) (CS : CompactOn Z) (SI : SiooOk Z) (hi : i < cs.length) (hj : j = Int32.ofNat i) (F : IsStr Z h x cs)
    (hsz : Ls.size = ml) (hW : (rest.map fun v => v.category).sum = W) (hd : decode bs pc = .ok (.invokevirtual idx, 3)) (hfr : 4 ≤ R.frames) (hlo : W + 53 ≤ R.locals) (hce : ce + 0 ≤ R.cells) (hsl : sl + 0 ≤ R.slots) (hpc : pc + 3 = pc') :
    Rc C R own bs ml Z n0 ce sl pc' Ls ((.int (cs.getD i 0)) :: rest) h Ds := by
  obtain ⟨z, hS, hz⟩ := CS
  obtain ⟨f1, f2, f3, f4, t, kb, f5, f6⟩ := F
  obtain ⟨fm, hF, hfm⟩ := SI
  obtain ⟨v, h', L, ⟨q1, q2, q3⟩, R'⟩ := H.backV (y := ⟨"java/lang/String", "charAt", "(I)C"⟩) (z := ⟨"java/lang/String", "charAt", "(I)C"⟩) (kc := 0) (ks := 0) (argsL := [.int j]) (Qb := fun v h' L => v = some (.int (cs.getD i 0)) ∧ L = [] ∧ h' = h) hlink hdecl (fun s' hZ' => notFace_of_selects (args := #[]) (mvT hZ' hsel)) hsel hinst (by decide) f1
    (fun s' hZ' => StrChars.Road.chN (W := W) hZ' hws wi f1 f5 f2 f6 (StrChars.Road.codOf rfl (fun c hc => (f3 c hc).2)) (own_up f3) (hS.ext H.old.2) hz (hF.ext H.old.2) hfm f4 hi hj hfr hlo)
    (fun v h' L q => by obtain ⟨-, rfl, rfl⟩ := q; exact ⟨Fr.nil n0, [], Keep.refl _ _, fun x hx => nomatch hx⟩) hsz (lenOf (ps := [.int]) (r := some .char) (by decide +kernel) rfl) rfl hW hd hce hsl hpc
  subst q3
  subst q1
  exact R'

end OwnKit
theorem own_and255 (x : Int32) : ∃ k : Fin 256, x &&& 255 = Int32.ofNat k.val := by
  have h : (x &&& 255).toBitVec.toNat < 256 := by
    simp only [Int32.toBitVec_and, BitVec.toNat_and]
    exact Nat.lt_succ_of_le Nat.and_le_right
  refine ⟨⟨_, h⟩, ?_⟩
  apply Int32.toBitVec_inj.mp
  show _ = BitVec.ofNat 32 _
  rw [BitVec.ofNat_toNat]; simp
theorem own_and7 (x : Int32) : ∃ k : Fin 8, x &&& 7 = Int32.ofNat k.val := by
  have h : (x &&& 7).toBitVec.toNat < 8 := by
    simp only [Int32.toBitVec_and, BitVec.toNat_and]
    exact Nat.lt_succ_of_le Nat.and_le_right
  refine ⟨⟨_, h⟩, ?_⟩
  apply Int32.toBitVec_inj.mp
  show _ = BitVec.ofNat 32 _
  rw [BitVec.ofNat_toNat]; simp
theorem own_and3 (x : Int32) : ∃ k : Fin 4, x &&& 3 = Int32.ofNat k.val := by
  have h : (x &&& 3).toBitVec.toNat < 4 := by
    simp only [Int32.toBitVec_and, BitVec.toNat_and]
    exact Nat.lt_succ_of_le Nat.and_le_right
  refine ⟨⟨_, h⟩, ?_⟩
  apply Int32.toBitVec_inj.mp
  show _ = BitVec.ofNat 32 _
  rw [BitVec.ofNat_toNat]; simp
theorem own_and1 (x : Int32) : ∃ k : Fin 2, x &&& 1 = Int32.ofNat k.val := by
  have h : (x &&& 1).toBitVec.toNat < 2 := by
    simp only [Int32.toBitVec_and, BitVec.toNat_and]
    exact Nat.lt_succ_of_le Nat.and_le_right
  refine ⟨⟨_, h⟩, ?_⟩
  apply Int32.toBitVec_inj.mp
  show _ = BitVec.ofNat 32 _
  rw [BitVec.ofNat_toNat]; simp
theorem own_lt {i j : Nat} (hj : j ≤ 4000) (h : i < j) : Int32.ofNat i < Int32.ofNat j := by
  rw [Int32.lt_iff_toInt_lt, Int32.toInt_ofNat_of_lt (by omega), Int32.toInt_ofNat_of_lt (by omega)]; omega
theorem own_nlt {i j : Nat} (hi : i ≤ 4000) (h : j ≤ i) : ¬ Int32.ofNat i < Int32.ofNat j := by
  rw [Int32.lt_iff_toInt_lt, Int32.toInt_ofNat_of_lt (by omega), Int32.toInt_ofNat_of_lt (by omega)]; omega
theorem i32_succ (i : Nat) : Int32.ofNat i + 1 = Int32.ofNat (i + 1) := by
  apply Int32.toBitVec_inj.mp
  show BitVec.ofNat 32 i + 1#32 = BitVec.ofNat 32 (i + 1)
  rw [BitVec.ofNat_add]
theorem nar_i2c (x : Int32) : nar .char x.toUInt32.toUInt16.toUInt32.toInt32 = x.toUInt32.toUInt16.toUInt32.toInt32 := by
  generalize x.toUInt32.toUInt16 = y
  simp [nar]
theorem c255 (x : Int32) : ¬ (x &&& (255 : Int32)).toUInt32.toUInt16.toUInt32.toInt32 < 0 ∧ ¬ (255 : Int32) < (x &&& (255 : Int32)).toUInt32.toUInt16.toUInt32.toInt32 := by
  obtain ⟨k, hk⟩ := own_and255 x
  rw [hk]
  clear hk; revert k; decide +kernel
theorem own_d1_0 : decode method_2_code 0 = .ok (.iload_n 0, 1) := by decide +kernel
theorem own_d1_1 : decode method_2_code 1 = .ok (.bipush 8, 2) := by decide +kernel
theorem own_d1_3 : decode method_2_code 3 = .ok (.iushr, 1) := by decide +kernel
theorem own_d1_4 : decode method_2_code 4 = .ok (.iconst 3, 1) := by decide +kernel
theorem own_d1_5 : decode method_2_code 5 = .ok (.iand, 1) := by decide +kernel
theorem own_d1_6 : decode method_2_code 6 = .ok (.ifCond .eq 16, 3) := by decide +kernel
theorem own_d1_22 : decode method_2_code 22 = .ok (.iload_n 0, 1) := by decide +kernel
theorem own_d1_23 : decode method_2_code 23 = .ok (.sipush 255, 3) := by decide +kernel
theorem own_d1_26 : decode method_2_code 26 = .ok (.iand, 1) := by decide +kernel
theorem own_d1_27 : decode method_2_code 27 = .ok (.i2c, 1) := by decide +kernel
theorem own_d1_28 : decode method_2_code 28 = .ok (.ireturn, 1) := by decide +kernel
theorem own_d1_9 : decode method_2_code 9 = .ok (.bipush 47, 2) := by decide +kernel
theorem own_d1_11 : decode method_2_code 11 = .ok (.iload_n 0, 1) := by decide +kernel
theorem own_d1_12 : decode method_2_code 12 = .ok (.sipush 255, 3) := by decide +kernel
theorem own_d1_15 : decode method_2_code 15 = .ok (.iand, 1) := by decide +kernel
theorem own_d1_16 : decode method_2_code 16 = .ok (.bipush 12, 2) := by decide +kernel
theorem own_d1_18 : decode method_2_code 18 = .ok (.irem, 1) := by decide +kernel
theorem own_d1_19 : decode method_2_code 19 = .ok (.iadd, 1) := by decide +kernel
theorem own_d1_20 : decode method_2_code 20 = .ok (.i2c, 1) := by decide +kernel
theorem own_d1_21 : decode method_2_code 21 = .ok (.ireturn, 1) := by decide +kernel
theorem own_pn0 : plainName "com/example/vestbook/vestbook/WholeNumbersIsDigitsPinLaw" = true := by first | (simp [plainName, overriddenIn]; done) | decide +kernel
theorem own_d8_0 : decode jdk_29_method_69_code 0 = .ok (.iload_n 0, 1) := by decide +kernel
theorem own_d8_1 : decode jdk_29_method_69_code 1 = .ok (.iload_n 1, 1) := by decide +kernel
theorem own_d8_2 : decode jdk_29_method_69_code 2 = .ok (.if_icmp .gt 7, 3) := by decide +kernel
theorem own_d8_9 : decode jdk_29_method_69_code 9 = .ok (.iload_n 1, 1) := by decide +kernel
theorem own_d8_10 : decode jdk_29_method_69_code 10 = .ok (.ireturn, 1) := by decide +kernel
theorem own_d8_5 : decode jdk_29_method_69_code 5 = .ok (.iload_n 0, 1) := by decide +kernel
theorem own_d8_6 : decode jdk_29_method_69_code 6 = .ok (.goto 4, 3) := by decide +kernel
theorem own_d9_0 : decode jdk_29_method_65_code 0 = .ok (.iload_n 0, 1) := by decide +kernel
theorem own_d9_1 : decode jdk_29_method_65_code 1 = .ok (.iload_n 1, 1) := by decide +kernel
theorem own_d9_2 : decode jdk_29_method_65_code 2 = .ok (.if_icmp .lt 7, 3) := by decide +kernel
theorem own_d9_9 : decode jdk_29_method_65_code 9 = .ok (.iload_n 1, 1) := by decide +kernel
theorem own_d9_10 : decode jdk_29_method_65_code 10 = .ok (.ireturn, 1) := by decide +kernel
theorem own_d9_5 : decode jdk_29_method_65_code 5 = .ok (.iload_n 0, 1) := by decide +kernel
theorem own_d9_6 : decode jdk_29_method_65_code 6 = .ok (.goto 4, 3) := by decide +kernel
theorem own_d12_0 : decode method_3_code 0 = .ok (.iload_n 0, 1) := by decide +kernel
theorem own_d12_1 : decode method_3_code 1 = .ok (.bipush 48, 2) := by decide +kernel
theorem own_d12_3 : decode method_3_code 3 = .ok (.if_icmp .lt 13, 3) := by decide +kernel
theorem own_d12_16 : decode method_3_code 16 = .ok (.iconst 0, 1) := by decide +kernel
theorem own_d12_17 : decode method_3_code 17 = .ok (.ireturn, 1) := by decide +kernel
theorem own_d12_6 : decode method_3_code 6 = .ok (.iload_n 0, 1) := by decide +kernel
theorem own_d12_7 : decode method_3_code 7 = .ok (.bipush 57, 2) := by decide +kernel
theorem own_d12_9 : decode method_3_code 9 = .ok (.if_icmp .gt 7, 3) := by decide +kernel
theorem own_d12_12 : decode method_3_code 12 = .ok (.iconst 1, 1) := by decide +kernel
theorem own_d12_13 : decode method_3_code 13 = .ok (.goto 4, 3) := by decide +kernel
theorem own_d11_0 : decode method_4_code 0 = .ok (.iload_n 1, 1) := by decide +kernel
theorem own_d11_1 : decode method_4_code 1 = .ok (.iload_n 0, 1) := by decide +kernel
theorem own_d11_2 : decode method_4_code 2 = .ok (.if_icmp .gt 13, 3) := by decide +kernel
theorem own_d11_15 : decode method_4_code 15 = .ok (.iconst 1, 1) := by decide +kernel
theorem own_d11_16 : decode method_4_code 16 = .ok (.ireturn, 1) := by decide +kernel
theorem own_d11_5 : decode method_4_code 5 = .ok (.iload_n 0, 1) := by decide +kernel
theorem own_d11_6 : decode method_4_code 6 = .ok (.iload_n 2, 1) := by decide +kernel
theorem own_d11_7 : decode method_4_code 7 = .ok (.if_icmp .ge 8, 3) := by decide +kernel
theorem own_d11_10 : decode method_4_code 10 = .ok (.iload_n 3, 1) := by decide +kernel
theorem own_w48 {a0 : Array Value} {Z : State} (hw : ∀ d ∈ tables_1, d.before a0 Z = true) : (Jvm.Cond.methodLink "com/example/vestbook/vestbook/WholeNumbersIsDigitsPinLaw" (7 : Nat) ({ cls := "com/example/vestbook/vestbook/WholeNumbersIsDigitsPinLaw", name := "isD", desc := "(C)Z" } : Jvm.MethodName)).before a0 Z = true := hw _ (List.mem_of_getElem? (i := 48) rfl)
theorem own_w49 {a0 : Array Value} {Z : State} (hw : ∀ d ∈ tables_1, d.before a0 Z = true) : (Jvm.Cond.static ({ cls := "com/example/vestbook/vestbook/WholeNumbersIsDigitsPinLaw", name := "isD", desc := "(C)Z" } : Jvm.MethodName)).before a0 Z = true := hw _ (List.mem_of_getElem? (i := 49) rfl)
theorem own_w2 {a0 : Array Value} {Z : State} (hw : ∀ d ∈ tables_1, d.before a0 Z = true) : (Jvm.Cond.initialized "com/example/vestbook/vestbook/WholeNumbersIsDigitsPinLaw").before a0 Z = true := hw _ (List.mem_of_getElem? (i := 2) rfl)
theorem own_w50 {a0 : Array Value} {Z : State} (hw : ∀ d ∈ tables_1, d.before a0 Z = true) : (Jvm.Cond.code ({ cls := "com/example/vestbook/vestbook/WholeNumbersIsDigitsPinLaw", name := "isD", desc := "(C)Z" } : Jvm.MethodName) method_3_code (1 : Nat) (Option.some Jvm.ClassFile.FieldType.boolean)).before a0 Z = true := hw _ (List.mem_of_getElem? (i := 50) rfl)
theorem own_pd0 : parseMethodDescriptor "(C)Z" = some ⟨[.char], some .boolean⟩ := by decide +kernel
theorem own_d11_11 : decode method_4_code 11 = .ok (.invokestatic 7, 3) := by decide +kernel
theorem own_d11_14 : decode method_4_code 14 = .ok (.ireturn, 1) := by decide +kernel
theorem own_d10_9 : decode prog_7_method_6_code 9 = .ok (.iload_n 3, 1) := by decide +kernel
theorem own_d10_10 : decode prog_7_method_6_code 10 = .ok (.iload_n 2, 1) := by decide +kernel
theorem own_d10_11 : decode prog_7_method_6_code 11 = .ok (.if_icmp .ge 32, 3) := by decide +kernel
theorem own_d10_43 : decode prog_7_method_6_code 43 = .ok (.iconst 1, 1) := by decide +kernel
theorem own_d10_44 : decode prog_7_method_6_code 44 = .ok (.ireturn, 1) := by decide +kernel
theorem own_d10_14 : decode prog_7_method_6_code 14 = .ok (.aload_n 0, 1) := by decide +kernel
theorem own_d10_15 : decode prog_7_method_6_code 15 = .ok (.iload_n 3, 1) := by decide +kernel
theorem own_w51 {a0 : Array Value} {Z : State} (hw : ∀ d ∈ tables_1, d.before a0 Z = true) : (Jvm.Cond.methodLink "com/example/vestbook/vestbook/WholeNumbers" (22 : Nat) ({ cls := "java/lang/String", name := "charAt", desc := "(I)C" } : Jvm.MethodName)).before a0 Z = true := hw _ (List.mem_of_getElem? (i := 51) rfl)
theorem own_w6 {a0 : Array Value} {Z : State} (hw : ∀ d ∈ tables_1, d.before a0 Z = true) : (Jvm.Cond.instantiable "java/lang/String" (4 : Nat)).before a0 Z = true := hw _ (List.mem_of_getElem? (i := 6) rfl)
theorem own_w52 {a0 : Array Value} {Z : State} (hw : ∀ d ∈ tables_1, d.before a0 Z = true) : (Jvm.Cond.declares ({ cls := "java/lang/String", name := "charAt", desc := "(I)C" } : Jvm.MethodName)).before a0 Z = true := hw _ (List.mem_of_getElem? (i := 52) rfl)
theorem own_w54 {a0 : Array Value} {Z : State} (hw : ∀ d ∈ tables_1, d.before a0 Z = true) : (Jvm.Cond.selects "java/lang/String" ({ cls := "java/lang/String", name := "charAt", desc := "(I)C" } : Jvm.MethodName) ({ cls := "java/lang/String", name := "charAt", desc := "(I)C" } : Jvm.MethodName)).before a0 Z = true := hw _ (List.mem_of_getElem? (i := 54) rfl)
theorem own_w53 {a0 : Array Value} {Z : State} (hw : ∀ d ∈ tables_1, d.before a0 Z = true) : (Jvm.Cond.instanceMethod ({ cls := "java/lang/String", name := "charAt", desc := "(I)C" } : Jvm.MethodName)).before a0 Z = true := hw _ (List.mem_of_getElem? (i := 53) rfl)
theorem own_d10_16 : decode prog_7_method_6_code 16 = .ok (.invokevirtual 22, 3) := by decide +kernel
theorem own_d10_19 : decode prog_7_method_6_code 19 = .ok (.istore 4, 2) := by decide +kernel
theorem own_d10_21 : decode prog_7_method_6_code 21 = .ok (.iload 4, 2) := by decide +kernel
theorem own_d10_23 : decode prog_7_method_6_code 23 = .ok (.bipush 48, 2) := by decide +kernel
theorem own_d10_25 : decode prog_7_method_6_code 25 = .ok (.if_icmp .lt 10, 3) := by decide +kernel
theorem own_d10_35 : decode prog_7_method_6_code 35 = .ok (.iconst 0, 1) := by decide +kernel
theorem own_d10_36 : decode prog_7_method_6_code 36 = .ok (.ireturn, 1) := by decide +kernel
theorem own_d10_28 : decode prog_7_method_6_code 28 = .ok (.iload 4, 2) := by decide +kernel
theorem own_d10_30 : decode prog_7_method_6_code 30 = .ok (.bipush 57, 2) := by decide +kernel
theorem own_d10_32 : decode prog_7_method_6_code 32 = .ok (.if_icmp .le 5, 3) := by decide +kernel
theorem own_d10_37 : decode prog_7_method_6_code 37 = .ok (.iinc 3 1, 3) := by decide +kernel
theorem own_d10_40 : decode prog_7_method_6_code 40 = .ok (.goto (-31), 3) := by decide +kernel
theorem own_d10_0 : decode prog_7_method_6_code 0 = .ok (.iload_n 1, 1) := by decide +kernel
theorem own_d10_1 : decode prog_7_method_6_code 1 = .ok (.iload_n 2, 1) := by decide +kernel
theorem own_d10_2 : decode prog_7_method_6_code 2 = .ok (.if_icmp .ne 5, 3) := by decide +kernel
theorem own_d10_5 : decode prog_7_method_6_code 5 = .ok (.iconst 0, 1) := by decide +kernel
theorem own_d10_6 : decode prog_7_method_6_code 6 = .ok (.ireturn, 1) := by decide +kernel
theorem own_d10_7 : decode prog_7_method_6_code 7 = .ok (.iload_n 1, 1) := by decide +kernel
theorem own_d10_8 : decode prog_7_method_6_code 8 = .ok (.istore_n 3, 1) := by decide +kernel
theorem own_pn1 : plainName "com/example/vestbook/vestbook/WholeNumbers" = true := by first | (simp [plainName, overriddenIn]; done) | decide +kernel
theorem own_w0 {a0 : Array Value} {Z : State} (hw : ∀ d ∈ tables_1, d.before a0 Z = true) : (Jvm.Cond.methodLink "com/example/vestbook/vestbook/WholeNumbersIsDigitsPinLaw" (13 : Nat) ({ cls := "com/example/vestbook/vestbook/WholeNumbersIsDigitsPinLaw", name := "ch", desc := "(I)C" } : Jvm.MethodName)).before a0 Z = true := hw _ (List.mem_of_getElem? (i := 0) rfl)
theorem own_w1 {a0 : Array Value} {Z : State} (hw : ∀ d ∈ tables_1, d.before a0 Z = true) : (Jvm.Cond.static ({ cls := "com/example/vestbook/vestbook/WholeNumbersIsDigitsPinLaw", name := "ch", desc := "(I)C" } : Jvm.MethodName)).before a0 Z = true := hw _ (List.mem_of_getElem? (i := 1) rfl)
theorem own_w3 {a0 : Array Value} {Z : State} (hw : ∀ d ∈ tables_1, d.before a0 Z = true) : (Jvm.Cond.code ({ cls := "com/example/vestbook/vestbook/WholeNumbersIsDigitsPinLaw", name := "ch", desc := "(I)C" } : Jvm.MethodName) method_2_code (1 : Nat) (Option.some Jvm.ClassFile.FieldType.char)).before a0 Z = true := hw _ (List.mem_of_getElem? (i := 3) rfl)
theorem own_pd1 : parseMethodDescriptor "(I)C" = some ⟨[.int], some .char⟩ := by decide +kernel
theorem own_w4 {a0 : Array Value} {Z : State} (hw : ∀ d ∈ tables_1, d.before a0 Z = true) : (Jvm.Cond.arrayClass Jvm.ClassFile.FieldType.char).before a0 Z = true := hw _ (List.mem_of_getElem? (i := 4) rfl)
theorem own_w5 {a0 : Array Value} {Z : State} (hw : ∀ d ∈ tables_1, d.before a0 Z = true) : (Jvm.Cond.classLink "com/example/vestbook/vestbook/WholeNumbersIsDigitsPinLaw" (17 : Nat) "java/lang/String").before a0 Z = true := hw _ (List.mem_of_getElem? (i := 5) rfl)
theorem own_w7 {a0 : Array Value} {Z : State} (hw : ∀ d ∈ tables_1, d.before a0 Z = true) : (Jvm.Cond.initialized "java/lang/String").before a0 Z = true := hw _ (List.mem_of_getElem? (i := 7) rfl)
theorem own_w31 {a0 : Array Value} {Z : State} (hw : ∀ d ∈ tables_1, d.before a0 Z = true) : (Jvm.Cond.laysFinal "java/lang/String" "java/lang/String" "coder" "B").before a0 Z = true := hw _ (List.mem_of_getElem? (i := 31) rfl)
theorem own_w33 {a0 : Array Value} {Z : State} (hw : ∀ d ∈ tables_1, d.before a0 Z = true) : (Jvm.Cond.laysFinal "java/lang/String" "java/lang/String" "value" "[B").before a0 Z = true := hw _ (List.mem_of_getElem? (i := 33) rfl)
theorem own_w8 {a0 : Array Value} {Z : State} (hw : ∀ d ∈ tables_1, d.before a0 Z = true) : (Jvm.Cond.methodLink "com/example/vestbook/vestbook/WholeNumbersIsDigitsPinLaw" (19 : Nat) ({ cls := "java/lang/String", name := "<init>", desc := "([C)V" } : Jvm.MethodName)).before a0 Z = true := hw _ (List.mem_of_getElem? (i := 8) rfl)
theorem own_w9 {a0 : Array Value} {Z : State} (hw : ∀ d ∈ tables_1, d.before a0 Z = true) : (Jvm.Cond.instanceMethod ({ cls := "java/lang/String", name := "<init>", desc := "([C)V" } : Jvm.MethodName)).before a0 Z = true := hw _ (List.mem_of_getElem? (i := 9) rfl)
theorem own_w34 {a0 : Array Value} {Z : State} (hw : ∀ d ∈ tables_1, d.before a0 Z = true) : (Jvm.Cond.methodLink "com/example/vestbook/vestbook/WholeNumbersIsDigitsPinLaw" (22 : Nat) ({ cls := "java/lang/Math", name := "min", desc := "(II)I" } : Jvm.MethodName)).before a0 Z = true := hw _ (List.mem_of_getElem? (i := 34) rfl)
theorem own_w35 {a0 : Array Value} {Z : State} (hw : ∀ d ∈ tables_1, d.before a0 Z = true) : (Jvm.Cond.static ({ cls := "java/lang/Math", name := "min", desc := "(II)I" } : Jvm.MethodName)).before a0 Z = true := hw _ (List.mem_of_getElem? (i := 35) rfl)
theorem own_w36 {a0 : Array Value} {Z : State} (hw : ∀ d ∈ tables_1, d.before a0 Z = true) : (Jvm.Cond.initialized "java/lang/Math").before a0 Z = true := hw _ (List.mem_of_getElem? (i := 36) rfl)
theorem own_w37 {a0 : Array Value} {Z : State} (hw : ∀ d ∈ tables_1, d.before a0 Z = true) : (Jvm.Cond.code ({ cls := "java/lang/Math", name := "min", desc := "(II)I" } : Jvm.MethodName) jdk_29_method_69_code (2 : Nat) (Option.some Jvm.ClassFile.FieldType.int)).before a0 Z = true := hw _ (List.mem_of_getElem? (i := 37) rfl)
theorem own_pd2 : parseMethodDescriptor "(II)I" = some ⟨[.int, .int], some .int⟩ := by decide +kernel
theorem own_w38 {a0 : Array Value} {Z : State} (hw : ∀ d ∈ tables_1, d.before a0 Z = true) : (Jvm.Cond.methodLink "com/example/vestbook/vestbook/WholeNumbersIsDigitsPinLaw" (28 : Nat) ({ cls := "java/lang/Math", name := "max", desc := "(II)I" } : Jvm.MethodName)).before a0 Z = true := hw _ (List.mem_of_getElem? (i := 38) rfl)
theorem own_w39 {a0 : Array Value} {Z : State} (hw : ∀ d ∈ tables_1, d.before a0 Z = true) : (Jvm.Cond.static ({ cls := "java/lang/Math", name := "max", desc := "(II)I" } : Jvm.MethodName)).before a0 Z = true := hw _ (List.mem_of_getElem? (i := 39) rfl)
theorem own_w40 {a0 : Array Value} {Z : State} (hw : ∀ d ∈ tables_1, d.before a0 Z = true) : (Jvm.Cond.code ({ cls := "java/lang/Math", name := "max", desc := "(II)I" } : Jvm.MethodName) jdk_29_method_65_code (2 : Nat) (Option.some Jvm.ClassFile.FieldType.int)).before a0 Z = true := hw _ (List.mem_of_getElem? (i := 40) rfl)
theorem own_w45 {a0 : Array Value} {Z : State} (hw : ∀ d ∈ tables_1, d.before a0 Z = true) : (Jvm.Cond.methodLink "com/example/vestbook/vestbook/WholeNumbersIsDigitsPinLaw" (31 : Nat) ({ cls := "com/example/vestbook/vestbook/WholeNumbersIsDigitsPinLaw", name := "ok", desc := "(IIIC)Z" } : Jvm.MethodName)).before a0 Z = true := hw _ (List.mem_of_getElem? (i := 45) rfl)
theorem own_w46 {a0 : Array Value} {Z : State} (hw : ∀ d ∈ tables_1, d.before a0 Z = true) : (Jvm.Cond.static ({ cls := "com/example/vestbook/vestbook/WholeNumbersIsDigitsPinLaw", name := "ok", desc := "(IIIC)Z" } : Jvm.MethodName)).before a0 Z = true := hw _ (List.mem_of_getElem? (i := 46) rfl)
theorem own_w47 {a0 : Array Value} {Z : State} (hw : ∀ d ∈ tables_1, d.before a0 Z = true) : (Jvm.Cond.code ({ cls := "com/example/vestbook/vestbook/WholeNumbersIsDigitsPinLaw", name := "ok", desc := "(IIIC)Z" } : Jvm.MethodName) method_4_code (4 : Nat) (Option.some Jvm.ClassFile.FieldType.boolean)).before a0 Z = true := hw _ (List.mem_of_getElem? (i := 47) rfl)
theorem own_pd3 : parseMethodDescriptor "(IIIC)Z" = some ⟨[.int, .int, .int, .char], some .boolean⟩ := by decide +kernel
theorem own_w41 {a0 : Array Value} {Z : State} (hw : ∀ d ∈ tables_1, d.before a0 Z = true) : (Jvm.Cond.methodLink "com/example/vestbook/vestbook/WholeNumbersIsDigitsPinLaw" (35 : Nat) ({ cls := "com/example/vestbook/vestbook/WholeNumbers", name := "isDigits", desc := "(Ljava/lang/String;II)Z" } : Jvm.MethodName)).before a0 Z = true := hw _ (List.mem_of_getElem? (i := 41) rfl)
theorem own_w42 {a0 : Array Value} {Z : State} (hw : ∀ d ∈ tables_1, d.before a0 Z = true) : (Jvm.Cond.static ({ cls := "com/example/vestbook/vestbook/WholeNumbers", name := "isDigits", desc := "(Ljava/lang/String;II)Z" } : Jvm.MethodName)).before a0 Z = true := hw _ (List.mem_of_getElem? (i := 42) rfl)
theorem own_w43 {a0 : Array Value} {Z : State} (hw : ∀ d ∈ tables_1, d.before a0 Z = true) : (Jvm.Cond.initialized "com/example/vestbook/vestbook/WholeNumbers").before a0 Z = true := hw _ (List.mem_of_getElem? (i := 43) rfl)
theorem own_w44 {a0 : Array Value} {Z : State} (hw : ∀ d ∈ tables_1, d.before a0 Z = true) : (Jvm.Cond.code ({ cls := "com/example/vestbook/vestbook/WholeNumbers", name := "isDigits", desc := "(Ljava/lang/String;II)Z" } : Jvm.MethodName) prog_7_method_6_code (5 : Nat) (Option.some Jvm.ClassFile.FieldType.boolean)).before a0 Z = true := hw _ (List.mem_of_getElem? (i := 44) rfl)
theorem own_pd4 : parseMethodDescriptor "(Ljava/lang/String;II)Z" = some ⟨[(.object "java/lang/String"), .int, .int], some .boolean⟩ := by decide +kernel
def s_ch (p0 : Int32) : Int32 := if (((p0.toUInt32 >>> ((8 : Int32) &&& 31).toUInt32).toInt32) &&& (3 : Int32)) = (0 : Int32) then (p0 &&& (255 : Int32)).toUInt32.toUInt16.toUInt32.toInt32 else ((47 : Int32) + ((p0 &&& (255 : Int32)) % (12 : Int32))).toUInt32.toUInt16.toUInt32.toInt32
theorem s_ch_nar (p0 : Int32) : nar .char (s_ch p0) = (s_ch p0) := by
  unfold s_ch; split <;> exact nar_i2c _
theorem rm_ch (l : Launch) (Z : State) (a0 : Array Value) (hw : ∀ d ∈ tables_1, d.before a0 Z = true) (p0 : Int32) (h : Heap) (n0 : Nat) (Ds : List Addr) :
    Ctr l Z (⟨"com/example/vestbook/vestbook/WholeNumbersIsDigitsPinLaw", "ch", "(I)C"⟩ : MethodName) method_2_code 1 (some .char) [] ({ frames := 0, cells := 0, slots := 0, locals := 0 } : Room) #[(.int p0)] h n0 Ds (fun v h' Ds' => v = some (.int (s_ch p0)) ∧ h = h' ∧ Ds = Ds') := by
  refine ctr_of (Ls := #[.val (.int p0)]) (plainFor_of_name own_pn0) (fun m => by first | (simp [entryFrame, mkF, argsToLocals, Value.category]; done) | rfl) ?_
  intro C hl hret hnm R
  subst hl
  replace R := R.iloadN (pc' := 1) (v := p0) own_d1_0 rfl rfl
  replace R := R.bipush (pc' := 3) (z := (8 : Int32)) own_d1_1 rfl rfl
  replace R := R.iushr (pc' := 4) own_d1_3 rfl
  replace R := R.iconst (pc' := 5) (z := (3 : Int32)) own_d1_4 rfl rfl
  replace R := R.iand (pc' := 6) own_d1_5 rfl
  by_cases hc1 : (((p0.toUInt32 >>> ((8 : Int32) &&& 31).toUInt32).toInt32) &&& (3 : Int32)) = (0 : Int32)
  · replace R := R.ifY (pc' := 22) own_d1_6 (teq hc1).1 (by decide) rfl
    replace R := R.iloadN (pc' := 23) (v := p0) own_d1_22 rfl rfl
    replace R := R.sipush (pc' := 26) (z := (255 : Int32)) own_d1_23 rfl rfl
    replace R := R.iand (pc' := 27) own_d1_26 rfl
    replace R := R.i2c (pc' := 28) own_d1_27 rfl
    have hv : (p0 &&& (255 : Int32)).toUInt32.toUInt16.toUInt32.toInt32 = (s_ch p0) := by unfold s_ch; rw [if_pos hc1]
    exact R.retN (Ds' := Ds) hret (by simp) ((congrArg (nar .char) hv).trans (s_ch_nar p0)) own_d1_28 (by decide) (by decide) (fun _ q => q) ⟨rfl, rfl, rfl⟩
  · replace R := R.ifN (pc' := 9) own_d1_6 (feq hc1).1 rfl
    replace R := R.bipush (pc' := 11) (z := (47 : Int32)) own_d1_9 rfl rfl
    replace R := R.iloadN (pc' := 12) (v := p0) own_d1_11 rfl rfl
    replace R := R.sipush (pc' := 15) (z := (255 : Int32)) own_d1_12 rfl rfl
    replace R := R.iand (pc' := 16) own_d1_15 rfl
    replace R := R.bipush (pc' := 18) (z := (12 : Int32)) own_d1_16 rfl rfl
    replace R := R.irem (pc' := 19) own_d1_18 (by decide) rfl
    replace R := R.iadd (pc' := 20) own_d1_19 rfl
    replace R := R.i2c (pc' := 21) own_d1_20 rfl
    have hv : ((47 : Int32) + ((p0 &&& (255 : Int32)) % (12 : Int32))).toUInt32.toUInt16.toUInt32.toInt32 = (s_ch p0) := by unfold s_ch; rw [if_neg hc1]
    exact R.retN (Ds' := Ds) hret (by simp) ((congrArg (nar .char) hv).trans (s_ch_nar p0)) own_d1_21 (by decide) (by decide) (fun _ q => q) ⟨rfl, rfl, rfl⟩
theorem s_ch_b (p : Int32) : ¬ s_ch p < 0 ∧ ¬ (255 : Int32) < s_ch p := by
  obtain ⟨k, hk⟩ := own_and255 p
  unfold s_ch
  rw [hk]
  clear hk
  split
  · revert k; decide +kernel
  · revert k; decide +kernel
def s_min (p0 : Int32) (p1 : Int32) : Int32 := if p1 < p0 then p1 else p0
theorem rm_min (l : Launch) (Z : State) (a0 : Array Value) (hw : ∀ d ∈ tables_1, d.before a0 Z = true) (p0 : Int32) (p1 : Int32) (h : Heap) (n0 : Nat) (Ds : List Addr) :
    Ctr l Z (⟨"java/lang/Math", "min", "(II)I"⟩ : MethodName) jdk_29_method_69_code 2 (some .int) [] ({ frames := 0, cells := 0, slots := 0, locals := 0 } : Room) #[(.int p0), (.int p1)] h n0 Ds (fun v h' Ds' => v = some (.int (s_min p0 p1)) ∧ h = h' ∧ Ds = Ds') := by
  refine ctr_of (Ls := #[.val (.int p0), .val (.int p1)]) (Jvm.Free.JP.mathPlain rfl (by decide +kernel)) (fun m => by first | (simp [entryFrame, mkF, argsToLocals, Value.category]; done) | rfl) ?_
  intro C hl hret hnm R
  subst hl
  replace R := R.iloadN (pc' := 1) (v := p0) own_d8_0 rfl rfl
  replace R := R.iloadN (pc' := 2) (v := p1) own_d8_1 rfl rfl
  by_cases hc1 : p1 < p0
  · replace R := R.icmpY (pc' := 9) own_d8_2 (tlt hc1).2.2.1 (by decide) rfl
    replace R := R.iloadN (pc' := 10) (v := p1) own_d8_9 rfl rfl
    have hv : p1 = (s_min p0 p1) := by unfold s_min; rw [if_pos hc1]
    exact R.retI (Ds' := Ds) hret own_d8_10 (by decide) (by decide) (fun _ q => q) ⟨congrArg (fun z => some (Value.int z)) hv, rfl, rfl⟩
  · replace R := R.icmpN (pc' := 5) own_d8_2 (flt hc1).2.2.1 rfl
    replace R := R.iloadN (pc' := 6) (v := p0) own_d8_5 rfl rfl
    replace R := R.goto (pc' := 10) own_d8_6 (by decide) rfl
    have hv : p0 = (s_min p0 p1) := by unfold s_min; rw [if_neg hc1]
    exact R.retI (Ds' := Ds) hret own_d8_10 (by decide) (by decide) (fun _ q => q) ⟨congrArg (fun z => some (Value.int z)) hv, rfl, rfl⟩
def s_max (p0 : Int32) (p1 : Int32) : Int32 := if p0 < p1 then p1 else p0
theorem rm_max (l : Launch) (Z : State) (a0 : Array Value) (hw : ∀ d ∈ tables_1, d.before a0 Z = true) (p0 : Int32) (p1 : Int32) (h : Heap) (n0 : Nat) (Ds : List Addr) :
    Ctr l Z (⟨"java/lang/Math", "max", "(II)I"⟩ : MethodName) jdk_29_method_65_code 2 (some .int) [] ({ frames := 0, cells := 0, slots := 0, locals := 0 } : Room) #[(.int p0), (.int p1)] h n0 Ds (fun v h' Ds' => v = some (.int (s_max p0 p1)) ∧ h = h' ∧ Ds = Ds') := by
  refine ctr_of (Ls := #[.val (.int p0), .val (.int p1)]) (Jvm.Free.JP.mathPlain rfl (by decide +kernel)) (fun m => by first | (simp [entryFrame, mkF, argsToLocals, Value.category]; done) | rfl) ?_
  intro C hl hret hnm R
  subst hl
  replace R := R.iloadN (pc' := 1) (v := p0) own_d9_0 rfl rfl
  replace R := R.iloadN (pc' := 2) (v := p1) own_d9_1 rfl rfl
  by_cases hc1 : p0 < p1
  · replace R := R.icmpY (pc' := 9) own_d9_2 (tlt hc1).1 (by decide) rfl
    replace R := R.iloadN (pc' := 10) (v := p1) own_d9_9 rfl rfl
    have hv : p1 = (s_max p0 p1) := by unfold s_max; rw [if_pos hc1]
    exact R.retI (Ds' := Ds) hret own_d9_10 (by decide) (by decide) (fun _ q => q) ⟨congrArg (fun z => some (Value.int z)) hv, rfl, rfl⟩
  · replace R := R.icmpN (pc' := 5) own_d9_2 (flt hc1).1 rfl
    replace R := R.iloadN (pc' := 6) (v := p0) own_d9_5 rfl rfl
    replace R := R.goto (pc' := 10) own_d9_6 (by decide) rfl
    have hv : p0 = (s_max p0 p1) := by unfold s_max; rw [if_neg hc1]
    exact R.retI (Ds' := Ds) hret own_d9_10 (by decide) (by decide) (fun _ q => q) ⟨congrArg (fun z => some (Value.int z)) hv, rfl, rfl⟩
def s_isD (p0 : Int32) : Int32 := if p0 < (48 : Int32) then (0 : Int32) else (if (57 : Int32) < p0 then (0 : Int32) else (1 : Int32))
theorem s_isD_nar (p0 : Int32) : nar .boolean (s_isD p0) = (s_isD p0) := by
  unfold s_isD; (repeat' split) <;> rfl
theorem rm_isD (l : Launch) (Z : State) (a0 : Array Value) (hw : ∀ d ∈ tables_1, d.before a0 Z = true) (p0 : Int32) (h : Heap) (n0 : Nat) (Ds : List Addr) :
    Ctr l Z (⟨"com/example/vestbook/vestbook/WholeNumbersIsDigitsPinLaw", "isD", "(C)Z"⟩ : MethodName) method_3_code 1 (some .boolean) [] ({ frames := 0, cells := 0, slots := 0, locals := 0 } : Room) #[(.int p0)] h n0 Ds (fun v h' Ds' => v = some (.int (s_isD p0)) ∧ h = h' ∧ Ds = Ds') := by
  refine ctr_of (Ls := #[.val (.int p0)]) (plainFor_of_name own_pn0) (fun m => by first | (simp [entryFrame, mkF, argsToLocals, Value.category]; done) | rfl) ?_
  intro C hl hret hnm R
  subst hl
  replace R := R.iloadN (pc' := 1) (v := p0) own_d12_0 rfl rfl
  replace R := R.bipush (pc' := 3) (z := (48 : Int32)) own_d12_1 rfl rfl
  by_cases hc1 : p0 < (48 : Int32)
  · replace R := R.icmpY (pc' := 16) own_d12_3 (tlt hc1).1 (by decide) rfl
    replace R := R.iconst (pc' := 17) (z := (0 : Int32)) own_d12_16 rfl rfl
    have hv : (0 : Int32) = (s_isD p0) := by unfold s_isD; rw [if_pos hc1]
    exact R.retN (Ds' := Ds) hret (by simp) ((congrArg (nar .boolean) hv).trans (s_isD_nar p0)) own_d12_17 (by decide) (by decide) (fun _ q => q) ⟨rfl, rfl, rfl⟩
  · replace R := R.icmpN (pc' := 6) own_d12_3 (flt hc1).1 rfl
    replace R := R.iloadN (pc' := 7) (v := p0) own_d12_6 rfl rfl
    replace R := R.bipush (pc' := 9) (z := (57 : Int32)) own_d12_7 rfl rfl
    by_cases hc2 : (57 : Int32) < p0
    · replace R := R.icmpY (pc' := 16) own_d12_9 (tlt hc2).2.2.1 (by decide) rfl
      replace R := R.iconst (pc' := 17) (z := (0 : Int32)) own_d12_16 rfl rfl
      have hv : (0 : Int32) = (s_isD p0) := by unfold s_isD; rw [if_neg hc1, if_pos hc2]
      exact R.retN (Ds' := Ds) hret (by simp) ((congrArg (nar .boolean) hv).trans (s_isD_nar p0)) own_d12_17 (by decide) (by decide) (fun _ q => q) ⟨rfl, rfl, rfl⟩
    · replace R := R.icmpN (pc' := 12) own_d12_9 (flt hc2).2.2.1 rfl
      replace R := R.iconst (pc' := 13) (z := (1 : Int32)) own_d12_12 rfl rfl
      replace R := R.goto (pc' := 17) own_d12_13 (by decide) rfl
      have hv : (1 : Int32) = (s_isD p0) := by unfold s_isD; rw [if_neg hc1, if_neg hc2]
      exact R.retN (Ds' := Ds) hret (by simp) ((congrArg (nar .boolean) hv).trans (s_isD_nar p0)) own_d12_17 (by decide) (by decide) (fun _ q => q) ⟨rfl, rfl, rfl⟩
def s_ok (p0 : Int32) (p1 : Int32) (p2 : Int32) (p3 : Int32) : Int32 := if p0 < p1 then (1 : Int32) else (if p0 < p2 then (s_isD p3) else (1 : Int32))
theorem s_ok_nar (p0 : Int32) (p1 : Int32) (p2 : Int32) (p3 : Int32) : nar .boolean (s_ok p0 p1 p2 p3) = (s_ok p0 p1 p2 p3) := by
  unfold s_ok; split <;> first | rfl | (split <;> first | rfl | exact s_isD_nar _)
theorem rm_ok (l : Launch) (Z : State) (a0 : Array Value) (hw : ∀ d ∈ tables_1, d.before a0 Z = true) (p0 : Int32) (p1 : Int32) (p2 : Int32) (p3 : Int32) (h : Heap) (n0 : Nat) (Ds : List Addr) :
    Ctr l Z (⟨"com/example/vestbook/vestbook/WholeNumbersIsDigitsPinLaw", "ok", "(IIIC)Z"⟩ : MethodName) method_4_code 4 (some .boolean) [] ({ frames := 1, cells := 0, slots := 0, locals := 12 } : Room) #[(.int p0), (.int p1), (.int p2), (.int p3)] h n0 Ds (fun v h' Ds' => v = some (.int (s_ok p0 p1 p2 p3)) ∧ h = h' ∧ Ds = Ds') := by
  refine ctr_of (Ls := #[.val (.int p0), .val (.int p1), .val (.int p2), .val (.int p3)]) (plainFor_of_name own_pn0) (fun m => by first | (simp [entryFrame, mkF, argsToLocals, Value.category]; done) | rfl) ?_
  intro C hl hret hnm R
  subst hl
  replace R := R.iloadN (pc' := 1) (v := p1) own_d11_0 rfl rfl
  replace R := R.iloadN (pc' := 2) (v := p0) own_d11_1 rfl rfl
  by_cases hc1 : p0 < p1
  · replace R := R.icmpY (pc' := 15) own_d11_2 (tlt hc1).2.2.1 (by decide) rfl
    replace R := R.iconst (pc' := 16) (z := (1 : Int32)) own_d11_15 rfl rfl
    have hv : (1 : Int32) = (s_ok p0 p1 p2 p3) := by unfold s_ok; rw [if_pos hc1]
    exact R.retN (Ds' := Ds) hret (by simp) ((congrArg (nar .boolean) hv).trans (s_ok_nar p0 p1 p2 p3)) own_d11_16 (by decide) (by decide) (fun _ q => q) ⟨rfl, rfl, rfl⟩
  · replace R := R.icmpN (pc' := 5) own_d11_2 (flt hc1).2.2.1 rfl
    replace R := R.iloadN (pc' := 6) (v := p0) own_d11_5 rfl rfl
    replace R := R.iloadN (pc' := 7) (v := p2) own_d11_6 rfl rfl
    by_cases hc2 : p0 < p2
    · replace R := R.icmpN (pc' := 10) own_d11_7 (tlt hc2).2.1 rfl
      replace R := R.iloadN (pc' := 11) (v := p3) own_d11_10 rfl rfl
      obtain ⟨_, _, _, ⟨rfl, rfl, rfl⟩, R⟩ := R.callS (pc' := 14) (argsL := [(.int p3)]) (rest := []) (W := 0) (own_w48 hw) (own_w49 hw) (own_w2 hw) (own_w50 hw) (by decide) (rm_isD C.l Z a0 hw p3 h n0 Ds) rfl (lenOf own_pd0 rfl) rfl rfl own_d11_11 (by decide) (by decide) (by decide) (by decide) rfl
      replace R := R.mono (ce' := 0) (sl' := 0) (by decide) (by decide)
      replace R := R.stk (S' := [(.int (s_isD p3))]) rfl
      have hv : (s_isD p3) = (s_ok p0 p1 p2 p3) := by unfold s_ok; rw [if_neg hc1, if_pos hc2]
      exact R.retN (Ds' := Ds) hret (by simp) ((congrArg (nar .boolean) hv).trans (s_ok_nar p0 p1 p2 p3)) own_d11_14 (by decide) (by decide) (fun _ q => q) ⟨rfl, rfl, rfl⟩
    · replace R := R.icmpY (pc' := 15) own_d11_7 (flt hc2).2.1 (by decide) rfl
      replace R := R.iconst (pc' := 16) (z := (1 : Int32)) own_d11_15 rfl rfl
      have hv : (1 : Int32) = (s_ok p0 p1 p2 p3) := by unfold s_ok; rw [if_neg hc1, if_neg hc2]
      exact R.retN (Ds' := Ds) hret (by simp) ((congrArg (nar .boolean) hv).trans (s_ok_nar p0 p1 p2 p3)) own_d11_16 (by decide) (by decide) (fun _ q => q) ⟨rfl, rfl, rfl⟩
def dig (c : Int32) : Bool := !decide (c < 48) && !decide ((57 : Int32) < c)
def digs (cs : List Int32) (i k : Nat) : Bool := ((cs.drop i).take k).all dig
theorem digs_succ {cs : List Int32} {i k : Nat} (hi : i < cs.length) : digs cs i (k + 1) = (dig (cs.getD i 0) && digs cs (i + 1) k) := by
  unfold digs
  rw [List.drop_eq_getElem_cons hi, List.take_succ_cons, List.all_cons, List.getD_eq_getElem?_getD, List.getElem?_eq_getElem hi, Option.getD_some]
set_option maxHeartbeats 4000000 in
theorem lp_isDigits {C : Cx} {Z : State} {a0 : Array Value} (hw : ∀ d ∈ tables_1, d.before a0 Z = true) (own_cs : CompactOn Z) (own_si : SiooOk Z) {h : Heap} {n0 : Nat} {Ds : List Addr} {a : Addr} {cs : List Int32} {lo hi : Int32} {j : Nat} (hj : hi = Int32.ofNat j) (hjl : j ≤ cs.length) (F : IsStr Z h a cs) (hret : C.meth.sig.returnType = some .boolean) (k : Nat) :
    ∀ (i : Nat) (s4 : Slot), One s4 → i + k = j → Rc C ({ frames := 4, cells := 0, slots := 0, locals := 53 } : Room) "com/example/vestbook/vestbook/WholeNumbers" prog_7_method_6_code 5 Z n0 0 0 9 #[.val (.ref a), .val (.int lo), .val (.int hi), .val (.int (Int32.ofNat i)), s4] [] h Ds → Done C Z n0 (fun v h' Ds' => v = some (.int (bi (digs cs i k))) ∧ h = h' ∧ Ds = Ds') 0 0 := by
  have own_hch : ∀ d ∈ StrChars.Road.wordsChN, d.before a0 Z = true := fun d hd => hw d ((by decide +kernel : ∀ d ∈ StrChars.Road.wordsChN, d ∈ tables_1) d hd)
  have hl4 := F.2.2.2.1
  induction k with
  | zero =>
    intro i s4 hs4 e R
    have hnlt : ¬ Int32.ofNat i < hi := by rw [hj]; exact own_nlt (by omega) (by omega)
    replace R := R.iloadN (pc' := 10) (v := (Int32.ofNat i)) own_d10_9 rfl rfl
    replace R := R.iloadN (pc' := 11) (v := hi) own_d10_10 rfl rfl
    replace R := R.icmpY (pc' := 43) own_d10_11 (flt hnlt).2.1 (by decide) rfl
    replace R := R.iconst (pc' := 44) (z := (1 : Int32)) own_d10_43 rfl rfl
    have hv : digs cs i 0 = true := by
      simp [digs]
    exact R.retN (Ds' := Ds) hret (by simp) (show nar .boolean (1 : Int32) = bi (digs cs i 0) by rw [hv]; rfl) own_d10_44 (by decide) (by decide) (fun _ q => q) ⟨rfl, rfl, rfl⟩
  | succ k ih =>
    intro i s4 hs4 e R
    have hlt : Int32.ofNat i < hi := by rw [hj]; exact own_lt (by omega) (by omega)
    replace R := R.iloadN (pc' := 10) (v := (Int32.ofNat i)) own_d10_9 rfl rfl
    replace R := R.iloadN (pc' := 11) (v := hi) own_d10_10 rfl rfl
    replace R := R.icmpN (pc' := 14) own_d10_11 (tlt hlt).2.1 rfl
    replace R := R.aloadN (pc' := 15) (v := (.ref a)) own_d10_14 rfl rfl rfl
    replace R := R.iloadN (pc' := 16) (v := (Int32.ofNat i)) own_d10_15 rfl rfl
    replace R := R.str_ch (pc' := 19) (W := 0) (i := i) own_hch (own_w6 hw) (own_w51 hw) (own_w52 hw) (own_w54 hw) (own_w53 hw) own_cs own_si (by omega) rfl F rfl rfl own_d10_16 (by decide) (by decide) (by decide) (by decide) rfl
    replace R := R.stk (S' := [(.int (cs.getD i 0))]) rfl
    replace R := R.istore (pc' := 21) (l' := #[.val (.ref a), .val (.int lo), .val (.int hi), .val (.int (Int32.ofNat i)), .val (.int (cs.getD i 0))]) own_d10_19 (by rcases hs4 with rfl | ⟨w, rfl, hw'⟩ <;> first | rfl | (cases w <;> first | rfl | simp [Value.category] at hw')) rfl
    replace R := R.iload (pc' := 23) (v := (cs.getD i 0)) own_d10_21 rfl rfl
    replace R := R.bipush (pc' := 25) (z := (48 : Int32)) own_d10_23 rfl rfl
    by_cases hc1 : (cs.getD i 0) < (48 : Int32)
    · replace R := R.icmpY (pc' := 35) own_d10_25 (tlt hc1).1 (by decide) rfl
      replace R := R.iconst (pc' := 36) (z := (0 : Int32)) own_d10_35 rfl rfl
      have hv : digs cs i (k + 1) = false := by
        rw [digs_succ (by omega), show dig (cs.getD i 0) = false from by unfold dig; rw [decide_eq_true hc1]; rfl]; rfl
      exact R.retN (Ds' := Ds) hret (by simp) (show nar .boolean (0 : Int32) = bi (digs cs i (k + 1)) by rw [hv]; rfl) own_d10_36 (by decide) (by decide) (fun _ q => q) ⟨rfl, rfl, rfl⟩
    · replace R := R.icmpN (pc' := 28) own_d10_25 (flt hc1).1 rfl
      replace R := R.iload (pc' := 30) (v := (cs.getD i 0)) own_d10_28 rfl rfl
      replace R := R.bipush (pc' := 32) (z := (57 : Int32)) own_d10_30 rfl rfl
      by_cases hc2 : (57 : Int32) < (cs.getD i 0)
      · replace R := R.icmpN (pc' := 35) own_d10_32 (tlt hc2).2.2.2 rfl
        replace R := R.iconst (pc' := 36) (z := (0 : Int32)) own_d10_35 rfl rfl
        have hv : digs cs i (k + 1) = false := by
          rw [digs_succ (by omega), show dig (cs.getD i 0) = false from by unfold dig; rw [decide_eq_false hc1, decide_eq_true hc2]; rfl]; rfl
        exact R.retN (Ds' := Ds) hret (by simp) (show nar .boolean (0 : Int32) = bi (digs cs i (k + 1)) by rw [hv]; rfl) own_d10_36 (by decide) (by decide) (fun _ q => q) ⟨rfl, rfl, rfl⟩
      · replace R := R.icmpY (pc' := 37) own_d10_32 (flt hc2).2.2.2 (by decide) rfl
        replace R := R.iinc (pc' := 40) (l' := #[.val (.ref a), .val (.int lo), .val (.int hi), .val (.int ((Int32.ofNat i) + (1 : Int32))), .val (.int (cs.getD i 0))]) own_d10_37 rfl rfl rfl
        replace R := R.goto (pc' := 9) own_d10_40 (by decide) rfl
        rw [i32_succ] at R
        have hv : digs cs i (k + 1) = digs cs (i + 1) k := by
          rw [digs_succ (by omega), show dig (cs.getD i 0) = true from by unfold dig; rw [decide_eq_false hc1, decide_eq_false hc2]; rfl]; rfl
        rw [hv]
        exact ih (i + 1) _ (One.val rfl) (by omega) R
theorem rm_isDigits (l : Launch) (Z : State) (a0 : Array Value) (hw : ∀ d ∈ tables_1, d.before a0 Z = true) (a : Addr) (lo hi : Int32) (h : Heap) (n0 : Nat) (Ds : List Addr) (own_cs : CompactOn Z) (own_si : SiooOk Z) {cs : List Int32} {i j : Nat} (hi' : lo = Int32.ofNat i) (hj' : hi = Int32.ofNat j) (hij : i ≤ j) (hjl : j ≤ cs.length) (F : IsStr Z h a cs) :
    Ctr l Z (⟨"com/example/vestbook/vestbook/WholeNumbers", "isDigits", "(Ljava/lang/String;II)Z"⟩ : MethodName) prog_7_method_6_code 5 (some .boolean) [] ({ frames := 4, cells := 0, slots := 0, locals := 53 } : Room) #[.ref a, .int lo, .int hi] h n0 Ds (fun v h' Ds' => v = some (.int (bi (decide (i < j) && digs cs i (j - i)))) ∧ h = h' ∧ Ds = Ds') := by
  refine ctr_of (Ls := #[.val (.ref a), .val (.int lo), .val (.int hi), .unset, .unset]) (plainFor_of_name own_pn1) (fun m => by first | (simp [entryFrame, mkF, argsToLocals, Value.category]; done) | rfl) ?_
  intro C hl hret hnm R
  subst hl
  have hl4 := F.2.2.2.1
  replace R := R.iloadN (pc' := 1) (v := lo) own_d10_0 rfl rfl
  replace R := R.iloadN (pc' := 2) (v := hi) own_d10_1 rfl rfl
  by_cases hc1 : lo = hi
  · replace R := R.icmpN (pc' := 5) own_d10_2 (teq hc1).2 rfl
    replace R := R.iconst (pc' := 6) (z := (0 : Int32)) own_d10_5 rfl rfl
    have e : i = j := by
      rw [hi', hj'] at hc1
      have q := congrArg Int32.toInt hc1
      rw [Int32.toInt_ofNat_of_lt (by omega), Int32.toInt_ofNat_of_lt (by omega)] at q; omega
    subst e
    exact R.retN (Ds' := Ds) hret (by simp) (show nar .boolean 0 = bi (decide (i < i) && digs cs i (i - i)) by simp [bi, nar]) own_d10_6 (by decide) (by decide) (fun _ q => q) ⟨rfl, rfl, rfl⟩
  · replace R := R.icmpY (pc' := 7) own_d10_2 (feq hc1).2 (by decide) rfl
    replace R := R.iloadN (pc' := 8) (v := lo) own_d10_7 rfl rfl
    replace R := R.istoreN (pc' := 9) (l' := #[.val (.ref a), .val (.int lo), .val (.int hi), .val (.int lo), .unset]) own_d10_8 rfl rfl
    have e : i < j := by
      rcases Nat.lt_or_ge i j with q | q
      · exact q
      · exact absurd (by rw [hi', hj', Nat.le_antisymm hij q]) hc1
    subst hi'
    have q := lp_isDigits hw own_cs own_si hj' hjl F hret (j - i) i _ One.u (by omega) R
    simpa [e] using q
def s_exp (lo : Int32) (hi : Int32) (c0 : Int32) (c1 : Int32) (c2 : Int32) (c3 : Int32) : Int32 := if lo < hi then (if (s_ok (0 : Int32) lo hi c0) = (0 : Int32) then (0 : Int32) else (if (s_ok (1 : Int32) lo hi c1) = (0 : Int32) then (0 : Int32) else (if (s_ok (2 : Int32) lo hi c2) = (0 : Int32) then (0 : Int32) else (if (s_ok (3 : Int32) lo hi c3) = (0 : Int32) then (0 : Int32) else (1 : Int32))))) else (0 : Int32)
theorem lohi (e : Int32) : ∃ i j : Nat, i ≤ j ∧ j ≤ 4 ∧ s_min ((e &&& 7) % 5) ((((e.toUInt32 >>> ((3 : Int32) &&& 31).toUInt32).toInt32) &&& 7) % 5) = Int32.ofNat i ∧ s_max ((e &&& 7) % 5) ((((e.toUInt32 >>> ((3 : Int32) &&& 31).toUInt32).toInt32) &&& 7) % 5) = Int32.ofNat j := by
  obtain ⟨k, hk⟩ := own_and7 e
  obtain ⟨k2, hk2⟩ := own_and7 ((e.toUInt32 >>> ((3 : Int32) &&& 31).toUInt32).toInt32)
  rw [hk, hk2]
  have t : ∀ k k2 : Fin 8, ∃ i j : Fin 5, i ≤ j ∧ s_min (Int32.ofNat k.val % 5) (Int32.ofNat k2.val % 5) = Int32.ofNat i.val ∧ s_max (Int32.ofNat k.val % 5) (Int32.ofNat k2.val % 5) = Int32.ofNat j.val := by decide +kernel
  obtain ⟨i, j, h1, h2, h3⟩ := t k k2
  exact ⟨i.val, j.val, h1, by omega, h2, h3⟩
theorem lohi' {e lo hi : Int32} (h1 : lo = (s_min ((e &&& (7 : Int32)) % (5 : Int32)) ((((e.toUInt32 >>> ((3 : Int32) &&& 31).toUInt32).toInt32) &&& (7 : Int32)) % (5 : Int32)))) (h2 : hi = (s_max ((e &&& (7 : Int32)) % (5 : Int32)) ((((e.toUInt32 >>> ((3 : Int32) &&& 31).toUInt32).toInt32) &&& (7 : Int32)) % (5 : Int32)))) : ∃ i j : Nat, i ≤ j ∧ j ≤ 4 ∧ lo = Int32.ofNat i ∧ hi = Int32.ofNat j := by
  subst h1 h2; exact lohi e
theorem s_isD_dig (c : Int32) : s_isD c = bi (dig c) := by
  unfold s_isD dig bi; split
  · simp [*]
  · split <;> simp [*]
theorem s_ok_eq {k i j : Nat} {c : Int32} (hk : k ≤ 4) (hi : i ≤ 4) (hj : j ≤ 4) : s_ok (Int32.ofNat k) (Int32.ofNat i) (Int32.ofNat j) c = bi (!(decide (i ≤ k) && decide (k < j)) || dig c) := by
  unfold s_ok
  by_cases h1 : k < i
  · rw [if_pos (own_lt (by omega) h1), decide_eq_false (by omega : ¬ i ≤ k)]; rfl
  · rw [if_neg (own_nlt (by omega) (by omega)), decide_eq_true (by omega : i ≤ k)]
    by_cases h2 : k < j
    · rw [if_pos (own_lt (by omega) h2), decide_eq_true h2, s_isD_dig]; simp
    · rw [if_neg (own_nlt (by omega) (by omega)), decide_eq_false h2]; rfl
theorem law_eq {i j : Nat} {lo hi c0 c1 c2 c3 : Int32} (hij : i ≤ j) (hj : j ≤ 4) (h1 : lo = Int32.ofNat i) (h2 : hi = Int32.ofNat j) : bi (decide (i < j) && digs [c0, c1, c2, c3] i (j - i)) = s_exp lo hi c0 c1 c2 c3 := by
  subst h1 h2
  have k0 : s_ok 0 (Int32.ofNat i) (Int32.ofNat j) c0 = _ := s_ok_eq (k := 0) (by omega) (by omega) (by omega)
  have k1 : s_ok 1 (Int32.ofNat i) (Int32.ofNat j) c1 = _ := s_ok_eq (k := 1) (by omega) (by omega) (by omega)
  have k2 : s_ok 2 (Int32.ofNat i) (Int32.ofNat j) c2 = _ := s_ok_eq (k := 2) (by omega) (by omega) (by omega)
  have k3 : s_ok 3 (Int32.ofNat i) (Int32.ofNat j) c3 = _ := s_ok_eq (k := 3) (by omega) (by omega) (by omega)
  have hd : digs [c0, c1, c2, c3] i (j - i) = ((!(decide (i ≤ 0) && decide (0 < j)) || dig c0) && (!(decide (i ≤ 1) && decide (1 < j)) || dig c1) && (!(decide (i ≤ 2) && decide (2 < j)) || dig c2) && (!(decide (i ≤ 3) && decide (3 < j)) || dig c3)) := by
    have hi' : i = 0 ∨ i = 1 ∨ i = 2 ∨ i = 3 ∨ i = 4 := by omega
    have hj' : j = 0 ∨ j = 1 ∨ j = 2 ∨ j = 3 ∨ j = 4 := by omega
    rcases hi' with rfl | rfl | rfl | rfl | rfl <;> rcases hj' with rfl | rfl | rfl | rfl | rfl <;> first | omega | simp [digs, Bool.and_assoc]
  rw [hd]
  unfold s_exp
  rw [k0, k1, k2, k3]
  generalize (!(decide (i ≤ 0) && decide (0 < j)) || dig c0) = A0
  generalize (!(decide (i ≤ 1) && decide (1 < j)) || dig c1) = A1
  generalize (!(decide (i ≤ 2) && decide (2 < j)) || dig c2) = A2
  generalize (!(decide (i ≤ 3) && decide (3 < j)) || dig c3) = A3
  by_cases h : i < j
  · rw [if_pos (own_lt (by omega) h), decide_eq_true h]
    cases A0 <;> cases A1 <;> cases A2 <;> cases A3 <;> rfl
  · rw [if_neg (own_nlt (by omega) (by omega)), decide_eq_false h]; rfl
set_option maxRecDepth 65536 in
set_option maxHeartbeats 40000000 in
theorem rm_law (l : Launch) (Z : State) (a0 : Array Value) (hw : ∀ d ∈ tables_1, d.before a0 Z = true) (i0 i1 i2 i3 i4 : Int32) (h : Heap) (n0 : Nat) (Ds : List Addr) (own_cs : CompactOn Z) (own_si : SiooOk Z) :
    Ctr l Z x code maxLocals ret tables_1 room_1 #[(.int i0), (.int i1), (.int i2), (.int i3), (.int i4)] h n0 Ds (fun v h' Ds' => v = some (.int 1)) := by
  have own_hws : ∀ d ∈ StrChars.Road.words, d.before a0 Z = true := fun d hd => hw d ((by decide +kernel : ∀ d ∈ StrChars.Road.words, d ∈ tables_1) d hd)
  refine ctr_of (Ls := #[.val (.int i0), .val (.int i1), .val (.int i2), .val (.int i3), .val (.int i4), .unset, .unset, .unset, .unset, .unset, .unset, .unset, .unset, .unset, .unset, .unset]) (plainFor_of_name own_pn0) (fun m => by first | (simp [entryFrame, mkF, argsToLocals, Value.category, maxLocals]; done) | rfl) ?_
  intro C hl hret hnm R
  subst hl
  replace R := R.iloadN (pc' := 1) (v := i0) at_0 rfl rfl
  obtain ⟨_, _, _, ⟨rfl, rfl, rfl⟩, R⟩ := R.callS (pc' := 4) (argsL := [(.int i0)]) (rest := []) (W := 0) (own_w0 hw) (own_w1 hw) (own_w2 hw) (own_w3 hw) (by decide) (rm_ch C.l Z a0 hw i0 h n0 Ds) rfl (lenOf own_pd1 rfl) rfl rfl at_1 (by decide) (by decide) (by decide) (by decide) rfl
  replace R := R.mono (ce' := 0) (sl' := 0) (by decide) (by decide)
  replace R := R.stk (S' := [(.int (s_ch i0))]) rfl
  replace R := R.istore (pc' := 6) (l' := #[.val (.int i0), .val (.int i1), .val (.int i2), .val (.int i3), .val (.int i4), .val (.int (s_ch i0)), .unset, .unset, .unset, .unset, .unset, .unset, .unset, .unset, .unset, .unset]) at_4 rfl rfl
  replace R := R.iloadN (pc' := 7) (v := i1) at_6 rfl rfl
  obtain ⟨_, _, _, ⟨rfl, rfl, rfl⟩, R⟩ := R.callS (pc' := 10) (argsL := [(.int i1)]) (rest := []) (W := 0) (own_w0 hw) (own_w1 hw) (own_w2 hw) (own_w3 hw) (by decide) (rm_ch C.l Z a0 hw i1 h n0 Ds) rfl (lenOf own_pd1 rfl) rfl rfl at_7 (by decide) (by decide) (by decide) (by decide) rfl
  replace R := R.mono (ce' := 0) (sl' := 0) (by decide) (by decide)
  replace R := R.stk (S' := [(.int (s_ch i1))]) rfl
  replace R := R.istore (pc' := 12) (l' := #[.val (.int i0), .val (.int i1), .val (.int i2), .val (.int i3), .val (.int i4), .val (.int (s_ch i0)), .val (.int (s_ch i1)), .unset, .unset, .unset, .unset, .unset, .unset, .unset, .unset, .unset]) at_10 rfl rfl
  replace R := R.iloadN (pc' := 13) (v := i2) at_12 rfl rfl
  obtain ⟨_, _, _, ⟨rfl, rfl, rfl⟩, R⟩ := R.callS (pc' := 16) (argsL := [(.int i2)]) (rest := []) (W := 0) (own_w0 hw) (own_w1 hw) (own_w2 hw) (own_w3 hw) (by decide) (rm_ch C.l Z a0 hw i2 h n0 Ds) rfl (lenOf own_pd1 rfl) rfl rfl at_13 (by decide) (by decide) (by decide) (by decide) rfl
  replace R := R.mono (ce' := 0) (sl' := 0) (by decide) (by decide)
  replace R := R.stk (S' := [(.int (s_ch i2))]) rfl
  replace R := R.istore (pc' := 18) (l' := #[.val (.int i0), .val (.int i1), .val (.int i2), .val (.int i3), .val (.int i4), .val (.int (s_ch i0)), .val (.int (s_ch i1)), .val (.int (s_ch i2)), .unset, .unset, .unset, .unset, .unset, .unset, .unset, .unset]) at_16 rfl rfl
  replace R := R.iloadN (pc' := 19) (v := i3) at_18 rfl rfl
  obtain ⟨_, _, _, ⟨rfl, rfl, rfl⟩, R⟩ := R.callS (pc' := 22) (argsL := [(.int i3)]) (rest := []) (W := 0) (own_w0 hw) (own_w1 hw) (own_w2 hw) (own_w3 hw) (by decide) (rm_ch C.l Z a0 hw i3 h n0 Ds) rfl (lenOf own_pd1 rfl) rfl rfl at_19 (by decide) (by decide) (by decide) (by decide) rfl
  replace R := R.mono (ce' := 0) (sl' := 0) (by decide) (by decide)
  replace R := R.stk (S' := [(.int (s_ch i3))]) rfl
  replace R := R.istore (pc' := 24) (l' := #[.val (.int i0), .val (.int i1), .val (.int i2), .val (.int i3), .val (.int i4), .val (.int (s_ch i0)), .val (.int (s_ch i1)), .val (.int (s_ch i2)), .val (.int (s_ch i3)), .unset, .unset, .unset, .unset, .unset, .unset, .unset]) at_22 rfl rfl
  replace R := R.iconst (pc' := 25) (z := (4 : Int32)) at_24 rfl rfl
  obtain ⟨h1, b1, k1, g1, E1, V1, R⟩ := R.newP (pc' := 27) (aty := .char) (cap := 4) (own_w4 hw) at_25 (by decide) (by decide) (by decide) (by decide) (by decide) rfl
  have V1p : Arv Z h1 b1 k1 .char (4 : Int32) [(.int (0 : Int32)), (.int (0 : Int32)), (.int (0 : Int32)), (.int (0 : Int32))] (.int (0 : Int32)) := V1.pad (pad_rep [] (.int (0 : Int32)) 4)
  replace R := R.dup (pc' := 28) at_27 rfl rfl
  replace R := R.iconst (pc' := 29) (z := (0 : Int32)) at_28 rfl rfl
  replace R := R.iload (pc' := 31) (v := (s_ch i0)) at_29 rfl rfl
  obtain ⟨h2, K2, V2, R⟩ := R.castore (pc' := 32) V1p ⟨by decide, by decide⟩ 0 rfl (Nat.le_of_ble_eq_true rfl) (List.mem_of_getElem? (i := 0) rfl) at_31 rfl
  have V2p : Arv Z h2 b1 k1 .char (4 : Int32) [(.int (s_ch i0)), (.int (0 : Int32)), (.int (0 : Int32)), (.int (0 : Int32))] (.int (0 : Int32)) := by
    have q := V2
    rw [s_ch_nar i0] at q
    exact q
  replace R := R.dup (pc' := 33) at_32 rfl rfl
  replace R := R.iconst (pc' := 34) (z := (1 : Int32)) at_33 rfl rfl
  replace R := R.iload (pc' := 36) (v := (s_ch i1)) at_34 rfl rfl
  obtain ⟨h3, K3, V3, R⟩ := R.castore (pc' := 37) V2p ⟨by decide, by decide⟩ 1 rfl (Nat.le_of_ble_eq_true rfl) (List.mem_of_getElem? (i := 0) rfl) at_36 rfl
  have V3p : Arv Z h3 b1 k1 .char (4 : Int32) [(.int (s_ch i0)), (.int (s_ch i1)), (.int (0 : Int32)), (.int (0 : Int32))] (.int (0 : Int32)) := by
    have q := V3
    rw [s_ch_nar i1] at q
    exact q
  replace R := R.dup (pc' := 38) at_37 rfl rfl
  replace R := R.iconst (pc' := 39) (z := (2 : Int32)) at_38 rfl rfl
  replace R := R.iload (pc' := 41) (v := (s_ch i2)) at_39 rfl rfl
  obtain ⟨h4, K4, V4, R⟩ := R.castore (pc' := 42) V3p ⟨by decide, by decide⟩ 2 rfl (Nat.le_of_ble_eq_true rfl) (List.mem_of_getElem? (i := 0) rfl) at_41 rfl
  have V4p : Arv Z h4 b1 k1 .char (4 : Int32) [(.int (s_ch i0)), (.int (s_ch i1)), (.int (s_ch i2)), (.int (0 : Int32))] (.int (0 : Int32)) := by
    have q := V4
    rw [s_ch_nar i2] at q
    exact q
  replace R := R.dup (pc' := 43) at_42 rfl rfl
  replace R := R.iconst (pc' := 44) (z := (3 : Int32)) at_43 rfl rfl
  replace R := R.iload (pc' := 46) (v := (s_ch i3)) at_44 rfl rfl
  obtain ⟨h5, K5, V5, R⟩ := R.castore (pc' := 47) V4p ⟨by decide, by decide⟩ 3 rfl (Nat.le_of_ble_eq_true rfl) (List.mem_of_getElem? (i := 0) rfl) at_46 rfl
  have V5p : Arv Z h5 b1 k1 .char (4 : Int32) [(.int (s_ch i0)), (.int (s_ch i1)), (.int (s_ch i2)), (.int (s_ch i3))] (.int (0 : Int32)) := by
    have q := V5
    rw [s_ch_nar i3] at q
    exact q
  replace R := R.astore (pc' := 49) (l' := #[.val (.int i0), .val (.int i1), .val (.int i2), .val (.int i3), .val (.int i4), .val (.int (s_ch i0)), .val (.int (s_ch i1)), .val (.int (s_ch i2)), .val (.int (s_ch i3)), .val (.ref b1), .unset, .unset, .unset, .unset, .unset, .unset]) at_47 rfl rfl rfl
  obtain ⟨h6, b6, g6, E6, X6, D6, R⟩ := R.newO (pc' := 52) (own_w5 hw) (own_w6 hw) (own_w7 hw) at_49 (by decide) (by decide) rfl
  have F6_coder : Fld Z h6 b6 "java/lang/String" "coder" "B" (.int (0 : Int32)) := D6 (Or.inr (own_w31 hw)) (ty := .byte) (by decide)
  have F6_value : Fld Z h6 b6 "java/lang/String" "value" "[B" .null := D6 (Or.inr (own_w33 hw)) (ty := (.array .byte)) (by decide)
  replace R := R.dup (pc' := 53) at_52 rfl rfl
  replace R := R.aload (pc' := 55) (v := (.ref b1)) at_53 rfl rfl rfl
  have K7 := ((Keep.refl h5 []).trans ((Keep.refl h5 []).ext E6) all0)
  have F8 := V5p.keep K7 nin0
  obtain ⟨h9, K9, S9, R⟩ := R.newStr (pc' := 58) (W := 1) (cs := [(s_ch i0), (s_ch i1), (s_ch i2), (s_ch i3)]) own_hws (own_w6 hw) (own_w8 hw) (own_w9 hw) own_cs X6 F6_value F6_coder F8 rfl (Nat.le_of_ble_eq_true rfl) (Nat.le_of_ble_eq_true rfl) (chS (s_ch_b i0) (chS (s_ch_b i1) (chS (s_ch_b i2) (chS (s_ch_b i3) ch0)))) (List.mem_of_getElem? (i := 0) rfl) rfl rfl at_55 (by decide) (by decide) (by decide) (Nat.le_of_ble_eq_true rfl) rfl
  replace R := R.mono (ce' := 3) (sl' := 12) (Nat.le_of_ble_eq_true rfl) (Nat.le_of_ble_eq_true rfl)
  replace R := R.astore (pc' := 60) (l' := #[.val (.int i0), .val (.int i1), .val (.int i2), .val (.int i3), .val (.int i4), .val (.int (s_ch i0)), .val (.int (s_ch i1)), .val (.int (s_ch i2)), .val (.int (s_ch i3)), .val (.ref b1), .val (.ref b6), .unset, .unset, .unset, .unset, .unset]) at_58 rfl rfl rfl
  replace R := R.iload (pc' := 62) (v := i4) at_60 rfl rfl
  replace R := R.bipush (pc' := 64) (z := (7 : Int32)) at_62 rfl rfl
  replace R := R.iand (pc' := 65) at_64 rfl
  replace R := R.iconst (pc' := 66) (z := (5 : Int32)) at_65 rfl rfl
  replace R := R.irem (pc' := 67) at_66 (by decide) rfl
  replace R := R.istore (pc' := 69) (l' := #[.val (.int i0), .val (.int i1), .val (.int i2), .val (.int i3), .val (.int i4), .val (.int (s_ch i0)), .val (.int (s_ch i1)), .val (.int (s_ch i2)), .val (.int (s_ch i3)), .val (.ref b1), .val (.ref b6), .val (.int ((i4 &&& (7 : Int32)) % (5 : Int32))), .unset, .unset, .unset, .unset]) at_67 rfl rfl
  replace R := R.iload (pc' := 71) (v := i4) at_69 rfl rfl
  replace R := R.iconst (pc' := 72) (z := (3 : Int32)) at_71 rfl rfl
  replace R := R.iushr (pc' := 73) at_72 rfl
  replace R := R.bipush (pc' := 75) (z := (7 : Int32)) at_73 rfl rfl
  replace R := R.iand (pc' := 76) at_75 rfl
  replace R := R.iconst (pc' := 77) (z := (5 : Int32)) at_76 rfl rfl
  replace R := R.irem (pc' := 78) at_77 (by decide) rfl
  replace R := R.istore (pc' := 80) (l' := #[.val (.int i0), .val (.int i1), .val (.int i2), .val (.int i3), .val (.int i4), .val (.int (s_ch i0)), .val (.int (s_ch i1)), .val (.int (s_ch i2)), .val (.int (s_ch i3)), .val (.ref b1), .val (.ref b6), .val (.int ((i4 &&& (7 : Int32)) % (5 : Int32))), .val (.int ((((i4.toUInt32 >>> ((3 : Int32) &&& 31).toUInt32).toInt32) &&& (7 : Int32)) % (5 : Int32))), .unset, .unset, .unset]) at_78 rfl rfl
  replace R := R.iload (pc' := 82) (v := ((i4 &&& (7 : Int32)) % (5 : Int32))) at_80 rfl rfl
  replace R := R.iload (pc' := 84) (v := ((((i4.toUInt32 >>> ((3 : Int32) &&& 31).toUInt32).toInt32) &&& (7 : Int32)) % (5 : Int32))) at_82 rfl rfl
  obtain ⟨_, _, _, ⟨rfl, rfl, rfl⟩, R⟩ := R.callS (pc' := 87) (argsL := [(.int ((i4 &&& (7 : Int32)) % (5 : Int32))), (.int ((((i4.toUInt32 >>> ((3 : Int32) &&& 31).toUInt32).toInt32) &&& (7 : Int32)) % (5 : Int32)))]) (rest := []) (W := 0) (own_w34 hw) (own_w35 hw) (own_w36 hw) (own_w37 hw) (by decide) (rm_min C.l Z a0 hw ((i4 &&& (7 : Int32)) % (5 : Int32)) ((((i4.toUInt32 >>> ((3 : Int32) &&& 31).toUInt32).toInt32) &&& (7 : Int32)) % (5 : Int32)) h9 n0 (b6 :: b1 :: Ds)) rfl (lenOf own_pd2 rfl) rfl rfl at_84 (by decide) (by decide) (by decide) (by decide) rfl
  replace R := R.mono (ce' := 3) (sl' := 12) (by decide) (by decide)
  replace R := R.stk (S' := [(.int (s_min ((i4 &&& (7 : Int32)) % (5 : Int32)) ((((i4.toUInt32 >>> ((3 : Int32) &&& 31).toUInt32).toInt32) &&& (7 : Int32)) % (5 : Int32))))]) rfl
  replace R := R.istore (pc' := 89) (l' := #[.val (.int i0), .val (.int i1), .val (.int i2), .val (.int i3), .val (.int i4), .val (.int (s_ch i0)), .val (.int (s_ch i1)), .val (.int (s_ch i2)), .val (.int (s_ch i3)), .val (.ref b1), .val (.ref b6), .val (.int ((i4 &&& (7 : Int32)) % (5 : Int32))), .val (.int ((((i4.toUInt32 >>> ((3 : Int32) &&& 31).toUInt32).toInt32) &&& (7 : Int32)) % (5 : Int32))), .val (.int (s_min ((i4 &&& (7 : Int32)) % (5 : Int32)) ((((i4.toUInt32 >>> ((3 : Int32) &&& 31).toUInt32).toInt32) &&& (7 : Int32)) % (5 : Int32)))), .unset, .unset]) at_87 rfl rfl
  replace R := R.iload (pc' := 91) (v := ((i4 &&& (7 : Int32)) % (5 : Int32))) at_89 rfl rfl
  replace R := R.iload (pc' := 93) (v := ((((i4.toUInt32 >>> ((3 : Int32) &&& 31).toUInt32).toInt32) &&& (7 : Int32)) % (5 : Int32))) at_91 rfl rfl
  obtain ⟨_, _, _, ⟨rfl, rfl, rfl⟩, R⟩ := R.callS (pc' := 96) (argsL := [(.int ((i4 &&& (7 : Int32)) % (5 : Int32))), (.int ((((i4.toUInt32 >>> ((3 : Int32) &&& 31).toUInt32).toInt32) &&& (7 : Int32)) % (5 : Int32)))]) (rest := []) (W := 0) (own_w38 hw) (own_w39 hw) (own_w36 hw) (own_w40 hw) (by decide) (rm_max C.l Z a0 hw ((i4 &&& (7 : Int32)) % (5 : Int32)) ((((i4.toUInt32 >>> ((3 : Int32) &&& 31).toUInt32).toInt32) &&& (7 : Int32)) % (5 : Int32)) h9 n0 (b6 :: b1 :: Ds)) rfl (lenOf own_pd2 rfl) rfl rfl at_93 (by decide) (by decide) (by decide) (by decide) rfl
  replace R := R.mono (ce' := 3) (sl' := 12) (by decide) (by decide)
  replace R := R.stk (S' := [(.int (s_max ((i4 &&& (7 : Int32)) % (5 : Int32)) ((((i4.toUInt32 >>> ((3 : Int32) &&& 31).toUInt32).toInt32) &&& (7 : Int32)) % (5 : Int32))))]) rfl
  replace R := R.istore (pc' := 98) (l' := #[.val (.int i0), .val (.int i1), .val (.int i2), .val (.int i3), .val (.int i4), .val (.int (s_ch i0)), .val (.int (s_ch i1)), .val (.int (s_ch i2)), .val (.int (s_ch i3)), .val (.ref b1), .val (.ref b6), .val (.int ((i4 &&& (7 : Int32)) % (5 : Int32))), .val (.int ((((i4.toUInt32 >>> ((3 : Int32) &&& 31).toUInt32).toInt32) &&& (7 : Int32)) % (5 : Int32))), .val (.int (s_min ((i4 &&& (7 : Int32)) % (5 : Int32)) ((((i4.toUInt32 >>> ((3 : Int32) &&& 31).toUInt32).toInt32) &&& (7 : Int32)) % (5 : Int32)))), .val (.int (s_max ((i4 &&& (7 : Int32)) % (5 : Int32)) ((((i4.toUInt32 >>> ((3 : Int32) &&& 31).toUInt32).toInt32) &&& (7 : Int32)) % (5 : Int32)))), .unset]) at_96 rfl rfl
  obtain ⟨lo, elo⟩ : ∃ z, z = (s_min ((i4 &&& (7 : Int32)) % (5 : Int32)) ((((i4.toUInt32 >>> ((3 : Int32) &&& 31).toUInt32).toInt32) &&& (7 : Int32)) % (5 : Int32))) := ⟨_, rfl⟩
  obtain ⟨hi, ehi⟩ : ∃ z, z = (s_max ((i4 &&& (7 : Int32)) % (5 : Int32)) ((((i4.toUInt32 >>> ((3 : Int32) &&& 31).toUInt32).toInt32) &&& (7 : Int32)) % (5 : Int32))) := ⟨_, rfl⟩
  obtain ⟨c0, ec0⟩ : ∃ z, z = s_ch i0 := ⟨_, rfl⟩
  obtain ⟨c1, ec1⟩ : ∃ z, z = s_ch i1 := ⟨_, rfl⟩
  obtain ⟨c2, ec2⟩ : ∃ z, z = s_ch i2 := ⟨_, rfl⟩
  obtain ⟨c3, ec3⟩ : ∃ z, z = s_ch i3 := ⟨_, rfl⟩
  rw [← elo, ← ehi, ← ec0, ← ec1, ← ec2, ← ec3] at R
  rw [← ec0, ← ec1, ← ec2, ← ec3] at S9
  replace R : Rc C room_1 "com/example/vestbook/vestbook/WholeNumbersIsDigitsPinLaw" code maxLocals Z n0 3 12 162 #[.val (.int i0), .val (.int i1), .val (.int i2), .val (.int i3), .val (.int i4), .val (.int c0), .val (.int c1), .val (.int c2), .val (.int c3), .val (.ref b1), .val (.ref b6), .val (.int ((i4 &&& (7 : Int32)) % (5 : Int32))), .val (.int ((((i4.toUInt32 >>> ((3 : Int32) &&& 31).toUInt32).toInt32) &&& (7 : Int32)) % (5 : Int32))), .val (.int lo), .val (.int hi), .unset] [(.int (s_exp lo hi c0 c1 c2 c3))] h9 (b6 :: b1 :: Ds) := by
    replace R := R.iload (pc' := 100) (v := lo) at_98 rfl rfl
    replace R := R.iload (pc' := 102) (v := hi) at_100 rfl rfl
    by_cases hc10 : lo < hi
    · replace R := R.icmpN (pc' := 105) at_102 (tlt hc10).2.1 rfl
      replace R := R.iconst (pc' := 106) (z := (0 : Int32)) at_105 rfl rfl
      replace R := R.iload (pc' := 108) (v := lo) at_106 rfl rfl
      replace R := R.iload (pc' := 110) (v := hi) at_108 rfl rfl
      replace R := R.iload (pc' := 112) (v := c0) at_110 rfl rfl
      obtain ⟨_, _, _, ⟨rfl, rfl, rfl⟩, R⟩ := R.callS (pc' := 115) (argsL := [(.int (0 : Int32)), (.int lo), (.int hi), (.int c0)]) (rest := []) (W := 0) (own_w45 hw) (own_w46 hw) (own_w2 hw) (own_w47 hw) (by decide) (rm_ok C.l Z a0 hw (0 : Int32) lo hi c0 h9 n0 (b6 :: b1 :: Ds)) rfl (lenOf own_pd3 rfl) rfl rfl at_112 (by decide) (by decide) (by decide) (by decide) rfl
      replace R := R.mono (ce' := 3) (sl' := 12) (by decide) (by decide)
      replace R := R.stk (S' := [(.int (s_ok (0 : Int32) lo hi c0))]) rfl
      by_cases hc11 : (s_ok (0 : Int32) lo hi c0) = (0 : Int32)
      · replace R := R.ifY (pc' := 161) at_115 (teq hc11).1 (by decide) rfl
        replace R := R.iconst (pc' := 162) (z := (0 : Int32)) at_161 rfl rfl
        have hv : (0 : Int32) = (s_exp lo hi c0 c1 c2 c3) := by unfold s_exp; rw [if_pos hc10, if_pos hc11]
        exact (R.mono (ce' := 3) (sl' := 12) (by decide) (by decide)).stk (congrArg (fun z => (Value.int z :: [] : List Value)) hv)
      · replace R := R.ifN (pc' := 118) at_115 (feq hc11).1 rfl
        replace R := R.iconst (pc' := 119) (z := (1 : Int32)) at_118 rfl rfl
        replace R := R.iload (pc' := 121) (v := lo) at_119 rfl rfl
        replace R := R.iload (pc' := 123) (v := hi) at_121 rfl rfl
        replace R := R.iload (pc' := 125) (v := c1) at_123 rfl rfl
        obtain ⟨_, _, _, ⟨rfl, rfl, rfl⟩, R⟩ := R.callS (pc' := 128) (argsL := [(.int (1 : Int32)), (.int lo), (.int hi), (.int c1)]) (rest := []) (W := 0) (own_w45 hw) (own_w46 hw) (own_w2 hw) (own_w47 hw) (by decide) (rm_ok C.l Z a0 hw (1 : Int32) lo hi c1 h9 n0 (b6 :: b1 :: Ds)) rfl (lenOf own_pd3 rfl) rfl rfl at_125 (by decide) (by decide) (by decide) (by decide) rfl
        replace R := R.mono (ce' := 3) (sl' := 12) (by decide) (by decide)
        replace R := R.stk (S' := [(.int (s_ok (1 : Int32) lo hi c1))]) rfl
        by_cases hc12 : (s_ok (1 : Int32) lo hi c1) = (0 : Int32)
        · replace R := R.ifY (pc' := 161) at_128 (teq hc12).1 (by decide) rfl
          replace R := R.iconst (pc' := 162) (z := (0 : Int32)) at_161 rfl rfl
          have hv : (0 : Int32) = (s_exp lo hi c0 c1 c2 c3) := by unfold s_exp; rw [if_pos hc10, if_neg hc11, if_pos hc12]
          exact (R.mono (ce' := 3) (sl' := 12) (by decide) (by decide)).stk (congrArg (fun z => (Value.int z :: [] : List Value)) hv)
        · replace R := R.ifN (pc' := 131) at_128 (feq hc12).1 rfl
          replace R := R.iconst (pc' := 132) (z := (2 : Int32)) at_131 rfl rfl
          replace R := R.iload (pc' := 134) (v := lo) at_132 rfl rfl
          replace R := R.iload (pc' := 136) (v := hi) at_134 rfl rfl
          replace R := R.iload (pc' := 138) (v := c2) at_136 rfl rfl
          obtain ⟨_, _, _, ⟨rfl, rfl, rfl⟩, R⟩ := R.callS (pc' := 141) (argsL := [(.int (2 : Int32)), (.int lo), (.int hi), (.int c2)]) (rest := []) (W := 0) (own_w45 hw) (own_w46 hw) (own_w2 hw) (own_w47 hw) (by decide) (rm_ok C.l Z a0 hw (2 : Int32) lo hi c2 h9 n0 (b6 :: b1 :: Ds)) rfl (lenOf own_pd3 rfl) rfl rfl at_138 (by decide) (by decide) (by decide) (by decide) rfl
          replace R := R.mono (ce' := 3) (sl' := 12) (by decide) (by decide)
          replace R := R.stk (S' := [(.int (s_ok (2 : Int32) lo hi c2))]) rfl
          by_cases hc13 : (s_ok (2 : Int32) lo hi c2) = (0 : Int32)
          · replace R := R.ifY (pc' := 161) at_141 (teq hc13).1 (by decide) rfl
            replace R := R.iconst (pc' := 162) (z := (0 : Int32)) at_161 rfl rfl
            have hv : (0 : Int32) = (s_exp lo hi c0 c1 c2 c3) := by unfold s_exp; rw [if_pos hc10, if_neg hc11, if_neg hc12, if_pos hc13]
            exact (R.mono (ce' := 3) (sl' := 12) (by decide) (by decide)).stk (congrArg (fun z => (Value.int z :: [] : List Value)) hv)
          · replace R := R.ifN (pc' := 144) at_141 (feq hc13).1 rfl
            replace R := R.iconst (pc' := 145) (z := (3 : Int32)) at_144 rfl rfl
            replace R := R.iload (pc' := 147) (v := lo) at_145 rfl rfl
            replace R := R.iload (pc' := 149) (v := hi) at_147 rfl rfl
            replace R := R.iload (pc' := 151) (v := c3) at_149 rfl rfl
            obtain ⟨_, _, _, ⟨rfl, rfl, rfl⟩, R⟩ := R.callS (pc' := 154) (argsL := [(.int (3 : Int32)), (.int lo), (.int hi), (.int c3)]) (rest := []) (W := 0) (own_w45 hw) (own_w46 hw) (own_w2 hw) (own_w47 hw) (by decide) (rm_ok C.l Z a0 hw (3 : Int32) lo hi c3 h9 n0 (b6 :: b1 :: Ds)) rfl (lenOf own_pd3 rfl) rfl rfl at_151 (by decide) (by decide) (by decide) (by decide) rfl
            replace R := R.mono (ce' := 3) (sl' := 12) (by decide) (by decide)
            replace R := R.stk (S' := [(.int (s_ok (3 : Int32) lo hi c3))]) rfl
            by_cases hc14 : (s_ok (3 : Int32) lo hi c3) = (0 : Int32)
            · replace R := R.ifY (pc' := 161) at_154 (teq hc14).1 (by decide) rfl
              replace R := R.iconst (pc' := 162) (z := (0 : Int32)) at_161 rfl rfl
              have hv : (0 : Int32) = (s_exp lo hi c0 c1 c2 c3) := by unfold s_exp; rw [if_pos hc10, if_neg hc11, if_neg hc12, if_neg hc13, if_pos hc14]
              exact (R.mono (ce' := 3) (sl' := 12) (by decide) (by decide)).stk (congrArg (fun z => (Value.int z :: [] : List Value)) hv)
            · replace R := R.ifN (pc' := 157) at_154 (feq hc14).1 rfl
              replace R := R.iconst (pc' := 158) (z := (1 : Int32)) at_157 rfl rfl
              replace R := R.goto (pc' := 162) at_158 (by decide) rfl
              have hv : (1 : Int32) = (s_exp lo hi c0 c1 c2 c3) := by unfold s_exp; rw [if_pos hc10, if_neg hc11, if_neg hc12, if_neg hc13, if_neg hc14]
              exact (R.mono (ce' := 3) (sl' := 12) (by decide) (by decide)).stk (congrArg (fun z => (Value.int z :: [] : List Value)) hv)
    · replace R := R.icmpY (pc' := 161) at_102 (flt hc10).2.1 (by decide) rfl
      replace R := R.iconst (pc' := 162) (z := (0 : Int32)) at_161 rfl rfl
      have hv : (0 : Int32) = (s_exp lo hi c0 c1 c2 c3) := by unfold s_exp; rw [if_neg hc10]
      exact (R.mono (ce' := 3) (sl' := 12) (by decide) (by decide)).stk (congrArg (fun z => (Value.int z :: [] : List Value)) hv)
  replace R := R.istore (pc' := 164) (l' := #[.val (.int i0), .val (.int i1), .val (.int i2), .val (.int i3), .val (.int i4), .val (.int c0), .val (.int c1), .val (.int c2), .val (.int c3), .val (.ref b1), .val (.ref b6), .val (.int ((i4 &&& (7 : Int32)) % (5 : Int32))), .val (.int ((((i4.toUInt32 >>> ((3 : Int32) &&& 31).toUInt32).toInt32) &&& (7 : Int32)) % (5 : Int32))), .val (.int lo), .val (.int hi), .val (.int (s_exp lo hi c0 c1 c2 c3))]) at_162 rfl rfl
  replace R := R.aload (pc' := 166) (v := (.ref b6)) at_164 rfl rfl rfl
  replace R := R.iload (pc' := 168) (v := lo) at_166 rfl rfl
  replace R := R.iload (pc' := 170) (v := hi) at_168 rfl rfl
  obtain ⟨i, j, hij, hj4, hlo, hhi⟩ := lohi' elo ehi
  obtain ⟨_, _, _, ⟨rfl, rfl, rfl⟩, R⟩ := R.callS (pc' := 173) (argsL := [(.ref b6), (.int lo), (.int hi)]) (rest := []) (W := 0) (own_w41 hw) (own_w42 hw) (own_w43 hw) (own_w44 hw) (by decide) (rm_isDigits C.l Z a0 hw b6 lo hi h9 n0 (b6 :: b1 :: Ds) own_cs own_si (i := i) (j := j) (cs := [c0, c1, c2, c3]) hlo hhi hij hj4 S9) rfl (lenOf own_pd4 rfl) rfl rfl at_170 (by decide) (by decide) (by decide) (by decide) rfl
  replace R := R.mono (ce' := 3) (sl' := 12) (by decide) (by decide)
  replace R := R.stk (S' := [(.int (bi (decide (i < j) && digs [c0, c1, c2, c3] i (j - i))))]) rfl
  replace R := R.iload (pc' := 175) (v := (s_exp lo hi c0 c1 c2 c3)) at_173 rfl rfl
  replace R := R.icmpN (pc' := 178) at_175 (teq (law_eq hij hj4 hlo hhi)).2 rfl
  replace R := R.iconst (pc' := 179) (z := (1 : Int32)) at_178 rfl rfl
  replace R := R.goto (pc' := 183) at_179 (by decide) rfl
  exact R.retN (Ds' := []) hret (by simp) (show nar .boolean 1 = 1 from rfl) at_183 (by decide) (by decide) (fun _ q => nomatch q) rfl
set_option maxRecDepth 65536 in
set_option maxHeartbeats 40000000 in
theorem comes_1 {Post : Tables → Env → Array Value → State → Outcome → State → Prop} (hpost : ∀ tb e args s v u, (limb_1_1.after args s (.returned v) u = true ∧ limb_1_2.after args s (.returned v) u = true ∧ True) → FrameEnd s (.returned v) u (Jvm.fieldLocs frame_1_writes args s ++ Jvm.arrayLocs frame_1_arrays args s ++ Jvm.staticLocs frame_1_statics s) 16 128 → Post tb e args s (.returned v) u) :
    ArmFor flags0 classFile x code maxLocals ret World_1 tables_1 room_1 Calls_1 rest_1 Pre_1 Post := by
  intro l hfl _ _ p e ha hc hk s m args below hf hA hF happ hP
  obtain ⟨hcalls, hrest, hpre⟩ := hP
  obtain ⟨-, -, -, hnamed, -, -, -, hat⟩ := (Spec.applies_iff hf).mp happ
  obtain ⟨hg, hn⟩ := and_e (Cond.before_iff.mp (show (Jvm.Cond.and given_1 narrow_1).before args s = true from hpre))
  obtain ⟨g1, g2⟩ := and_e hg
  obtain ⟨g3, g4⟩ := and_e g2
  obtain ⟨g5, g6⟩ := and_e g4
  obtain ⟨g7, g8⟩ := and_e g6
  obtain ⟨g9, g10⟩ := and_e g8
  obtain ⟨w0, w1, w2, w3, w4, rfl⟩ : ∃ w0 w1 w2 w3 w4 : Value, args = #[w0, w1, w2, w3, w4] := by
    have hs : args.size = 5 := by simpa [Cond.value, given_1] using g1
    obtain ⟨L⟩ := args
    match L, hs with
    | [w0, w1, w2, w3, w4], _ => exact ⟨w0, w1, w2, w3, w4, rfl⟩
  have hw := fun d (hd : d ∈ tables_1) => atoms_spec (ws := Jvm.Cond.code x code maxLocals ret :: tables_1) hat d (List.mem_cons_of_mem _ hd)
  have hfit : Fit s := fun {y c} hc i hi => by
    obtain ⟨ha, rfl⟩ := Array.getElem?_eq_some_iff.mp hc
    have q := List.all_eq_true.mp ((Array.all_eq_true_iff_forall_mem.mp hF) _ (Array.getElem_mem ha)) i (List.mem_range.mpr hi)
    simpa [Array.getElem?_eq_getElem hi] using q
  obtain ⟨hsets, hown0⟩ := atoms_of _ (rest_1_c_eq ▸ (show rest_1_c.before _ s = true from hrest))
  have hr0 := Cond.before_iff.mp hown0
  have own_cs : CompactOn s := by
    have n3 := not_v (Cond.before_iff.mp (hsets _ (List.mem_of_getElem? (i := 2) rfl)))
    obtain ⟨i7, e6⟩ := is_v (Cond.before_iff.mp (hsets _ (List.mem_of_getElem? (i := 1) rfl)))
    refine ⟨i7, Sta.start e6 (Or.inl (hsets _ (List.mem_of_getElem? (i := 0) rfl))), fun e0 => ?_⟩
    subst e0
    have q := eq_i e6 (Term.int_eval (0 : Int32)) rfl
    rw [q] at n3; cases n3
  have own_si : SiooOk s := by
    obtain ⟨v9, e10, r11⟩ := isR_v (Cond.before_iff.mp (hsets _ (List.mem_of_getElem? (i := 8) rfl)))
    exact ⟨v9, Sta.start e10 (Or.inl (hsets _ (List.mem_of_getElem? (i := 7) rfl))), r11⟩
  obtain ⟨i0, ei0⟩ := is_v g3
  obtain rfl : w0 = (.int i0) := Option.some.inj ei0
  obtain ⟨i1, ei1⟩ := is_v g5
  obtain rfl : w1 = (.int i1) := Option.some.inj ei1
  obtain ⟨i2, ei2⟩ := is_v g7
  obtain rfl : w2 = (.int i2) := Option.some.inj ei2
  obtain ⟨i3, ei3⟩ := is_v g9
  obtain rfl : w3 = (.int i3) := Option.some.inj ei3
  obtain ⟨i4, ei4⟩ := is_v g10
  obtain rfl : w4 = (.int i4) := Option.some.inj ei4
  have J0 : JJ s s.heap.size s.vm s.heap [] := ⟨Old.start s, fun _ => State.WarmedH.refl s, fun x hx => (nomatch hx), fun o i hm => (nomatch hm), fun o i hm => (nomatch hm)⟩
  obtain ⟨n, o, h1, h2, h3, v, L, Ds', rfl, hQ, hJ, hFr, hE⟩ := rm_law l s _ hw i0 i1 i2 i3 i4 s.heap s.heap.size [] own_cs own_si p e ha hc hk s m _ below hf ((Spec.applies_iff_loose hf).mp happ).1 ⟨rfl, State.Warmed39.refl s, rfl, J0⟩ trivial
  subst hQ
  refine ⟨n, _, h1, h2, h3, hpost _ _ _ _ _ _ ⟨Cond.after_iff.mpr rfl, Cond.after_iff.mpr (eq_i res_at (Term.int_eval (1)) rfl), trivial⟩ ⟨hE.1, hJ.2.1 rfl, (hE.2.2.2.sift fun y hy => Or.inr (hFr y hy)).mono (by decide) (by decide)⟩⟩
theorem main_1_1 : Claimed_1_1 := comes_1 fun _ _ _ _ _ _ h hF => ⟨h.1, hF⟩
theorem main_1_2 : Claimed_1_2 := comes_1 fun _ _ _ _ _ _ h hF => ⟨h.2.1, hF⟩
end Jvm.Pilot.@@N@@
namespace Jvm.Pilot.@@N@@
open Jvm Jvm.ClassFile Sem Op Lib Jvm.Free Jvm.Stand Jvm.Pilot.@@N@@.Jvm.D
/-! MADE BY PROGRAM (witnessworld.py) out of the Statement's table words and the real class files: 21 classes; the members and pool entries that the words name. The judged class is class 1, her method 4. -/
namespace start1
open Jvm.ClassFile
def u (s : String) : CpInfo := .utf8 (stringToUtf16 s)
/-- a pool by its gaps: so many unusable entries, then the entry; so many at the end -/
def gap : Nat → List CpInfo → List CpInfo
  | 0, r => r
  | n + 1, r => .unusable :: gap n r
def poolList (es : List (Nat × CpInfo)) (last : Nat) : List CpInfo := es.foldr (fun e r => gap e.1 (e.2 :: r)) (gap last [])
def pool (es : List (Nat × CpInfo)) (last : Nat) : Array CpInfo := ⟨poolList es last⟩
def fileOf (pool : Array CpInfo) (this : Nat) (attrs : Array Attribute := #[]) (ms : Array MethodInfo := #[]) (fl : Nat := 33) (sup : Nat := 0) (ifs : Array Nat := #[]) (fds : Array FieldInfo := #[]) : ClassFile where
  minorVersion := 0
  majorVersion := 65
  constantPool := pool
  accessFlags := fl
  thisClass := this
  superClass := sup
  interfaces := ifs
  fields := fds
  methods := ms
  attributes := attrs
def plain (name : String) (sup : Option ClassId) : Class where
  name := name
  kind := .ordinary
  loader := none
  accessFlags := 33
  super := sup
  interfaces := #[]
  cf := none
  fields := #[]
  methods := #[]
  instanceTypes := #[]
  staticTypes := #[]
  resolved := #[]
  callSites := []
  init := .initialized
  statics := none
  mirror := none

def pool0 : Array CpInfo := pool [(5, u "<init>"), (0, u "()V"), (1, .class_ 10), (1, u "java/lang/Object")] 113

def k0c0 : Code := { maxStack := 0, maxLocals := 1, code := object_method_1_code, exceptionTable := #[], attributes := #[] }
def k0m0 : Method := { name := "<init>", desc := "()V", sig := { parameters := [], returnType := none }, accessFlags := 1, code := some k0c0 }
/-- java/lang/Object -/
def k0 : Class := { plain "java/lang/Object" none with
  accessFlags := 33
  interfaces := #[]
  cf := some (fileOf pool0 8 #[] #[{ accessFlags := 1, nameIndex := 5, descriptorIndex := 6, attributes := #[] }] 33 0 #[] #[])
  fields := #[]
  methods := #[k0m0]
  instanceTypes := #[]
  staticTypes := #[]
  resolved := Array.replicate 124 none
  statics := none }

def pool1 : Array CpInfo := pool [(2, .class_ 4), (1, u "java/lang/Object"), (0, u "<init>"), (0, u "()V"), (0, .methodref 8 9), (0, .class_ 10), (0, .nameAndType 11 12), (0, u "com/example/vestbook/vestbook/WholeNumbersIsDigitsPinLaw"), (0, u "isD"), (0, u "(C)Z"), (0, .methodref 8 14), (0, .nameAndType 15 16), (0, u "ch"), (0, u "(I)C"), (0, .class_ 18), (0, u "java/lang/String"), (0, .methodref 17 20), (0, .nameAndType 5 21), (0, u "([C)V"), (0, .methodref 23 24), (0, .class_ 25), (0, .nameAndType 26 27), (0, u "java/lang/Math"), (0, u "min"), (0, u "(II)I"), (0, .methodref 23 29), (0, .nameAndType 30 27), (0, u "max"), (0, .methodref 8 32), (0, .nameAndType 33 34), (0, u "ok"), (0, u "(IIIC)Z"), (0, .methodref 36 37), (0, .class_ 38), (0, .nameAndType 39 40), (0, u "com/example/vestbook/vestbook/WholeNumbers"), (0, u "isDigits"), (0, u "(Ljava/lang/String;II)Z"), (3, u "law"), (0, u "(IIIII)Z")] 4

def k1m0 : Method := { name := "<init>", desc := "()V", sig := { parameters := [], returnType := none }, accessFlags := 2, code := none }
def k1c1 : Code := { maxStack := 3, maxLocals := 1, code := method_2_code, exceptionTable := #[], attributes := #[] }
def k1m1 : Method := { name := "ch", desc := "(I)C", sig := { parameters := [.int], returnType := some .char }, accessFlags := 10, code := some k1c1 }
def k1c2 : Code := { maxStack := 2, maxLocals := 1, code := method_3_code, exceptionTable := #[], attributes := #[] }
def k1m2 : Method := { name := "isD", desc := "(C)Z", sig := { parameters := [.char], returnType := some .boolean }, accessFlags := 10, code := some k1c2 }
def k1c3 : Code := { maxStack := 2, maxLocals := 4, code := method_4_code, exceptionTable := #[], attributes := #[] }
def k1m3 : Method := { name := "ok", desc := "(IIIC)Z", sig := { parameters := [.int, .int, .int, .char], returnType := some .boolean }, accessFlags := 10, code := some k1c3 }
def k1c4 : Code := { maxStack := 4, maxLocals := 16, code := code, exceptionTable := #[], attributes := #[] }
def k1m4 : Method := { name := "law", desc := "(IIIII)Z", sig := { parameters := [.int, .int, .int, .int, .int], returnType := some .boolean }, accessFlags := 9, code := some k1c4 }
/-- com/example/vestbook/vestbook/WholeNumbersIsDigitsPinLaw -/
def k1 : Class := { plain "com/example/vestbook/vestbook/WholeNumbersIsDigitsPinLaw" (some 0) with
  accessFlags := 49
  interfaces := #[]
  cf := some (fileOf pool1 8 #[] #[{ accessFlags := 2, nameIndex := 5, descriptorIndex := 6, attributes := #[] }, { accessFlags := 10, nameIndex := 15, descriptorIndex := 16, attributes := #[] }, { accessFlags := 10, nameIndex := 11, descriptorIndex := 12, attributes := #[] }, { accessFlags := 10, nameIndex := 33, descriptorIndex := 34, attributes := #[] }, { accessFlags := 9, nameIndex := 44, descriptorIndex := 45, attributes := #[] }] 49 2 #[] #[])
  fields := #[]
  methods := #[k1m0, k1m1, k1m2, k1m3, k1m4]
  instanceTypes := #[]
  staticTypes := #[]
  resolved := Array.replicate 50 none
  statics := none }

def pool2 : Array CpInfo := pool [(1, .class_ 2), (0, u "java/io/Serializable"), (0, .class_ 4), (0, u "java/lang/Object")] 2

/-- java/io/Serializable -/
def k2 : Class := { plain "java/io/Serializable" (some 0) with
  accessFlags := 1537
  interfaces := #[]
  cf := some (fileOf pool2 1 #[] #[] 1537 3 #[] #[])
  fields := #[]
  methods := #[]
  instanceTypes := #[]
  staticTypes := #[]
  resolved := Array.replicate 7 none
  statics := none }

def pool3 : Array CpInfo := pool [(1, .class_ 2), (0, u "java/lang/Comparable"), (0, .class_ 4), (0, u "java/lang/Object")] 7

/-- java/lang/Comparable -/
def k3 : Class := { plain "java/lang/Comparable" (some 0) with
  accessFlags := 1537
  interfaces := #[]
  cf := some (fileOf pool3 1 #[] #[] 1537 3 #[] #[])
  fields := #[]
  methods := #[]
  instanceTypes := #[]
  staticTypes := #[]
  resolved := Array.replicate 12 none
  statics := none }

def pool4 : Array CpInfo := pool [(2, .class_ 4), (1, u "java/lang/CharSequence"), (42, .class_ 48), (0, u "java/lang/CharSequence$1CodePointIterator"), (10, .class_ 60), (0, u "java/lang/CharSequence$1CharIterator"), (5, .class_ 67), (0, u "java/lang/Object")] 63

/-- java/lang/CharSequence -/
def k4 : Class := { plain "java/lang/CharSequence" (some 0) with
  accessFlags := 1537
  interfaces := #[]
  cf := some (fileOf pool4 2 #[.nestMembers #[47, 59]] #[] 1537 66 #[] #[])
  fields := #[]
  methods := #[]
  instanceTypes := #[]
  staticTypes := #[]
  resolved := Array.replicate 131 none
  statics := none }

def pool5 : Array CpInfo := pool [(1, .class_ 2), (0, u "java/lang/constant/Constable"), (0, .class_ 4), (0, u "java/lang/Object")] 6

/-- java/lang/constant/Constable -/
def k5 : Class := { plain "java/lang/constant/Constable" (some 0) with
  accessFlags := 1537
  interfaces := #[]
  cf := some (fileOf pool5 1 #[] #[] 1537 3 #[] #[])
  fields := #[]
  methods := #[]
  instanceTypes := #[]
  staticTypes := #[]
  resolved := Array.replicate 11 none
  statics := none }

def pool6 : Array CpInfo := pool [(1, .class_ 2), (0, u "java/lang/constant/ConstantDesc"), (0, .class_ 4), (0, u "java/lang/Object")] 32

/-- java/lang/constant/ConstantDesc -/
def k6 : Class := { plain "java/lang/constant/ConstantDesc" (some 0) with
  accessFlags := 1537
  interfaces := #[]
  cf := some (fileOf pool6 1 #[] #[] 1537 3 #[] #[])
  fields := #[]
  methods := #[]
  instanceTypes := #[]
  staticTypes := #[]
  resolved := Array.replicate 37 none
  statics := none }

def pool7 : Array CpInfo := pool [(1, .methodref 2 3), (0, .class_ 4), (0, .nameAndType 5 6), (0, u "java/lang/Object"), (0, u "<init>"), (0, u "()V"), (2, .fieldref 10 11), (0, .class_ 12), (0, .nameAndType 13 14), (0, u "java/lang/String"), (0, u "value"), (0, u "[B"), (0, .fieldref 10 16), (0, .nameAndType 17 18), (0, u "coder"), (0, u "B"), (2, u "hash"), (0, u "I"), (2, u "hashIsZero"), (0, u "Z"), (0, .methodref 10 28), (0, .nameAndType 5 29), (0, u "([CIILjava/lang/Void;)V"), (8, .fieldref 10 39), (0, .nameAndType 40 26), (0, u "COMPACT_STRINGS"), (1, .class_ 44), (1, u "java/lang/StringUTF16"), (0, u "compress"), (1, .methodref 42 48), (0, .nameAndType 49 50), (0, u "coderFromArrayLen"), (0, u "([BI)B"), (56, .class_ 109), (1, u "java/lang/StringLatin1"), (32, u "()Z"), (34, .methodref 42 178), (0, .nameAndType 45 179), (0, u "([CII)[B"), (183, u "([BI)C"), (27, u "(II)V"), (35, u "(I)C"), (64, .methodref 10 493), (0, .nameAndType 494 142), (0, u "isLatin1"), (0, .methodref 107 496), (0, .nameAndType 497 363), (0, u "charAt"), (3, u "checkIndex"), (73, .class_ 576), (0, u "java/lang/CharSequence"), (22, u "CASE_INSENSITIVE_ORDER"), (0, u "Ljava/util/Comparator;"), (409, u "([C)V"), (42, .fieldref 1054 1055), (0, .class_ 1056), (0, .nameAndType 1057 1058), (0, u "jdk/internal/util/Preconditions"), (0, u "SIOOBE_FORMATTER"), (0, u "Ljava/util/function/BiFunction;"), (0, .methodref 1054 1060), (0, .nameAndType 501 1061), (0, u "(IILjava/util/function/BiFunction;)I"), (39, u "serialPersistentFields"), (0, u "[Ljava/io/ObjectStreamField;"), (0, .class_ 1104), (0, u "java/lang/String$CaseInsensitiveComparator"), (1, .class_ 1107), (0, u "java/io/Serializable"), (0, .class_ 1109), (0, u "java/lang/Comparable"), (0, .class_ 1111), (0, u "java/lang/constant/Constable"), (0, .class_ 1113), (0, u "java/lang/constant/ConstantDesc"), (2, u "serialVersionUID"), (0, u "J"), (3, u "REPL"), (0, u "C"), (2, u "LATIN1"), (1, u "UTF16")] 323

def k7m0 : Method := { name := "<init>", desc := "()V", sig := { parameters := [], returnType := none }, accessFlags := 1, code := none }
def k7c1 : Code := { maxStack := 5, maxLocals := 2, code := jdk_42_method_3_code, exceptionTable := #[], attributes := #[] }
def k7m1 : Method := { name := "<init>", desc := "([C)V", sig := { parameters := [(.array .char)], returnType := none }, accessFlags := 1, code := some k7c1 }
def k7c2 : Code := { maxStack := 2, maxLocals := 2, code := jdk_42_method_56_code, exceptionTable := #[], attributes := #[] }
def k7m2 : Method := { name := "charAt", desc := "(I)C", sig := { parameters := [.int], returnType := some .char }, accessFlags := 1, code := some k7c2 }
def k7c3 : Code := { maxStack := 4, maxLocals := 6, code := jdk_42_method_149_code, exceptionTable := #[], attributes := #[] }
def k7m3 : Method := { name := "<init>", desc := "([CIILjava/lang/Void;)V", sig := { parameters := [(.array .char), .int, .int, (.object "java/lang/Void")], returnType := none }, accessFlags := 2, code := some k7c3 }
def k7c4 : Code := { maxStack := 1, maxLocals := 1, code := jdk_42_method_154_code, exceptionTable := #[], attributes := #[] }
def k7m4 : Method := { name := "isLatin1", desc := "()Z", sig := { parameters := [], returnType := some .boolean }, accessFlags := 0, code := some k7c4 }
def k7c5 : Code := { maxStack := 3, maxLocals := 2, code := jdk_42_method_155_code, exceptionTable := #[], attributes := #[] }
def k7m5 : Method := { name := "checkIndex", desc := "(II)V", sig := { parameters := [.int, .int], returnType := none }, accessFlags := 8, code := some k7c5 }
/-- java/lang/String -/
def k7 : Class := { plain "java/lang/String" (some 0) with
  accessFlags := 49
  interfaces := #[2, 3, 4, 5, 6]
  cf := some (fileOf pool7 10 #[.nestMembers #[1103]] #[{ accessFlags := 1, nameIndex := 5, descriptorIndex := 6, attributes := #[] }, { accessFlags := 1, nameIndex := 5, descriptorIndex := 1010, attributes := #[] }, { accessFlags := 1, nameIndex := 497, descriptorIndex := 427, attributes := #[] }, { accessFlags := 2, nameIndex := 5, descriptorIndex := 29, attributes := #[] }, { accessFlags := 0, nameIndex := 494, descriptorIndex := 142, attributes := #[] }, { accessFlags := 8, nameIndex := 501, descriptorIndex := 391, attributes := #[] }] 49 2 #[1106, 1108, 575, 1110, 1112] #[{ accessFlags := 18, nameIndex := 13, descriptorIndex := 14, attributes := #[] }, { accessFlags := 18, nameIndex := 17, descriptorIndex := 18, attributes := #[] }, { accessFlags := 2, nameIndex := 21, descriptorIndex := 22, attributes := #[] }, { accessFlags := 2, nameIndex := 25, descriptorIndex := 26, attributes := #[] }, { accessFlags := 26, nameIndex := 1116, descriptorIndex := 1117, attributes := #[] }, { accessFlags := 24, nameIndex := 40, descriptorIndex := 26, attributes := #[] }, { accessFlags := 26, nameIndex := 1101, descriptorIndex := 1102, attributes := #[] }, { accessFlags := 26, nameIndex := 1121, descriptorIndex := 1122, attributes := #[] }, { accessFlags := 25, nameIndex := 599, descriptorIndex := 600, attributes := #[] }, { accessFlags := 24, nameIndex := 1125, descriptorIndex := 18, attributes := #[] }, { accessFlags := 24, nameIndex := 1127, descriptorIndex := 18, attributes := #[] }])
  fields := #[{ name := "value", type := (.array .byte), accessFlags := 18, slot := 0, constantValue := 0 }, { name := "coder", type := .byte, accessFlags := 18, slot := 1, constantValue := 0 }, { name := "hash", type := .int, accessFlags := 2, slot := 2, constantValue := 0 }, { name := "hashIsZero", type := .boolean, accessFlags := 2, slot := 3, constantValue := 0 }, { name := "serialVersionUID", type := .long, accessFlags := 26, slot := 0, constantValue := 0 }, { name := "COMPACT_STRINGS", type := .boolean, accessFlags := 24, slot := 1, constantValue := 0 }, { name := "serialPersistentFields", type := (.array (.object "java/io/ObjectStreamField")), accessFlags := 26, slot := 2, constantValue := 0 }, { name := "REPL", type := .char, accessFlags := 26, slot := 3, constantValue := 0 }, { name := "CASE_INSENSITIVE_ORDER", type := (.object "java/util/Comparator"), accessFlags := 25, slot := 4, constantValue := 0 }, { name := "LATIN1", type := .byte, accessFlags := 24, slot := 5, constantValue := 0 }, { name := "UTF16", type := .byte, accessFlags := 24, slot := 6, constantValue := 0 }]
  methods := #[k7m0, k7m1, k7m2, k7m3, k7m4, k7m5]
  instanceTypes := #[(.array .byte), .byte, .int, .boolean]
  staticTypes := #[.long, .boolean, (.array (.object "java/io/ObjectStreamField")), .char, (.object "java/util/Comparator"), .byte, .byte]
  resolved := Array.replicate 1451 none
  statics := some 0 }

def pool8 : Array CpInfo := pool [(6, .class_ 8), (1, u "java/lang/Object"), (0, u "<init>"), (0, u "()V"), (1, .class_ 14), (1, u "java/lang/StringUTF16"), (31, u "$assertionsDisabled"), (0, u "Z"), (13, u "HI_BYTE_SHIFT"), (0, u "I"), (2, u "LO_BYTE_SHIFT"), (49, .methodref 12 116), (0, .nameAndType 117 118), (0, u "compress"), (0, u "([CI[BII)I"), (3, u "([CII)[B"), (138, u "coderFromArrayLen"), (0, u "([BI)B"), (106, .class_ 371), (1, u "java/lang/StringUTF16$LinesSpliterator"), (58, u "MAX_LENGTH"), (196, .class_ 628), (0, u "java/lang/StringUTF16$CodePointsSpliterator"), (0, .class_ 630), (0, u "java/lang/StringUTF16$CharsSpliterator")] 4

def k8m0 : Method := { name := "<init>", desc := "()V", sig := { parameters := [], returnType := none }, accessFlags := 0, code := none }
def k8c1 : Code := { maxStack := 2, maxLocals := 2, code := jdk_52_method_15_code, exceptionTable := #[], attributes := #[] }
def k8m1 : Method := { name := "coderFromArrayLen", desc := "([BI)B", sig := { parameters := [(.array .byte), .int], returnType := some .byte }, accessFlags := 8, code := some k8c1 }
def k8c2 : Code := { maxStack := 5, maxLocals := 6, code := jdk_52_method_16_code, exceptionTable := #[], attributes := #[] }
def k8m2 : Method := { name := "compress", desc := "([CII)[B", sig := { parameters := [(.array .char), .int, .int], returnType := some (.array .byte) }, accessFlags := 9, code := some k8c2 }
def k8c3 : Code := { maxStack := 3, maxLocals := 7, code := jdk_52_method_21_code, exceptionTable := #[], attributes := #[] }
def k8m3 : Method := { name := "compress", desc := "([CI[BII)I", sig := { parameters := [(.array .char), .int, (.array .byte), .int, .int], returnType := some .int }, accessFlags := 9, code := some k8c3 }
/-- java/lang/StringUTF16 -/
def k8 : Class := { plain "java/lang/StringUTF16" (some 0) with
  accessFlags := 48
  interfaces := #[]
  cf := some (fileOf pool8 12 #[.nestMembers #[627, 629, 369]] #[{ accessFlags := 0, nameIndex := 9, descriptorIndex := 10, attributes := #[] }, { accessFlags := 8, nameIndex := 261, descriptorIndex := 262, attributes := #[] }, { accessFlags := 9, nameIndex := 117, descriptorIndex := 122, attributes := #[] }, { accessFlags := 9, nameIndex := 117, descriptorIndex := 118, attributes := #[] }] 48 6 #[] #[{ accessFlags := 26, nameIndex := 61, descriptorIndex := 62, attributes := #[] }, { accessFlags := 26, nameIndex := 65, descriptorIndex := 62, attributes := #[] }, { accessFlags := 24, nameIndex := 430, descriptorIndex := 62, attributes := #[] }, { accessFlags := 4120, nameIndex := 46, descriptorIndex := 47, attributes := #[] }])
  fields := #[{ name := "HI_BYTE_SHIFT", type := .int, accessFlags := 26, slot := 0, constantValue := 0 }, { name := "LO_BYTE_SHIFT", type := .int, accessFlags := 26, slot := 1, constantValue := 0 }, { name := "MAX_LENGTH", type := .int, accessFlags := 24, slot := 2, constantValue := 0 }, { name := "$assertionsDisabled", type := .boolean, accessFlags := 4120, slot := 3, constantValue := 0 }]
  methods := #[k8m0, k8m1, k8m2, k8m3]
  instanceTypes := #[]
  staticTypes := #[.int, .int, .int, .boolean]
  resolved := Array.replicate 635 none
  statics := none }

def pool9 : Array CpInfo := pool [(1, .class_ 2), (0, u "java/lang/Math"), (1, .class_ 6), (1, u "java/lang/Object"), (0, u "<init>"), (0, u "()V"), (89, .class_ 100), (1, u "java/lang/Math$RandomNumberGeneratorHolder"), (71, u "negativeZeroFloatBits"), (0, u "J"), (2, u "negativeZeroDoubleBits"), (21, u "max"), (2, u "min"), (43, u "$assertionsDisabled"), (0, u "Z"), (88, u "(II)I"), (2, u "twoToTheDoubleScaleDown"), (0, u "D"), (4, u "twoToTheDoubleScaleUp"), (9, u "E"), (3, u "PI"), (2, u "TAU"), (2, u "DEGREES_TO_RADIANS"), (0, u "RADIANS_TO_DEGREES")] 94

def k9m0 : Method := { name := "<init>", desc := "()V", sig := { parameters := [], returnType := none }, accessFlags := 2, code := none }
def k9c1 : Code := { maxStack := 2, maxLocals := 2, code := jdk_29_method_65_code, exceptionTable := #[], attributes := #[] }
def k9m1 : Method := { name := "max", desc := "(II)I", sig := { parameters := [.int, .int], returnType := some .int }, accessFlags := 9, code := some k9c1 }
def k9c2 : Code := { maxStack := 2, maxLocals := 2, code := jdk_29_method_69_code, exceptionTable := #[], attributes := #[] }
def k9m2 : Method := { name := "min", desc := "(II)I", sig := { parameters := [.int, .int], returnType := some .int }, accessFlags := 9, code := some k9c2 }
/-- java/lang/Math -/
def k9 : Class := { plain "java/lang/Math" (some 0) with
  accessFlags := 49
  interfaces := #[]
  cf := some (fileOf pool9 1 #[.nestMembers #[98]] #[{ accessFlags := 2, nameIndex := 7, descriptorIndex := 8, attributes := #[] }, { accessFlags := 9, nameIndex := 198, descriptorIndex := 335, attributes := #[] }, { accessFlags := 9, nameIndex := 201, descriptorIndex := 335, attributes := #[] }] 49 4 #[] #[{ accessFlags := 25, nameIndex := 354, descriptorIndex := 339, attributes := #[] }, { accessFlags := 25, nameIndex := 358, descriptorIndex := 339, attributes := #[] }, { accessFlags := 25, nameIndex := 361, descriptorIndex := 339, attributes := #[] }, { accessFlags := 26, nameIndex := 364, descriptorIndex := 339, attributes := #[] }, { accessFlags := 26, nameIndex := 365, descriptorIndex := 339, attributes := #[] }, { accessFlags := 26, nameIndex := 172, descriptorIndex := 173, attributes := #[] }, { accessFlags := 26, nameIndex := 176, descriptorIndex := 173, attributes := #[] }, { accessFlags := 8, nameIndex := 344, descriptorIndex := 339, attributes := #[] }, { accessFlags := 8, nameIndex := 338, descriptorIndex := 339, attributes := #[] }, { accessFlags := 4120, nameIndex := 245, descriptorIndex := 246, attributes := #[] }])
  fields := #[{ name := "E", type := .double, accessFlags := 25, slot := 0, constantValue := 0 }, { name := "PI", type := .double, accessFlags := 25, slot := 1, constantValue := 0 }, { name := "TAU", type := .double, accessFlags := 25, slot := 2, constantValue := 0 }, { name := "DEGREES_TO_RADIANS", type := .double, accessFlags := 26, slot := 3, constantValue := 0 }, { name := "RADIANS_TO_DEGREES", type := .double, accessFlags := 26, slot := 4, constantValue := 0 }, { name := "negativeZeroFloatBits", type := .long, accessFlags := 26, slot := 5, constantValue := 0 }, { name := "negativeZeroDoubleBits", type := .long, accessFlags := 26, slot := 6, constantValue := 0 }, { name := "twoToTheDoubleScaleUp", type := .double, accessFlags := 8, slot := 7, constantValue := 0 }, { name := "twoToTheDoubleScaleDown", type := .double, accessFlags := 8, slot := 8, constantValue := 0 }, { name := "$assertionsDisabled", type := .boolean, accessFlags := 4120, slot := 9, constantValue := 0 }]
  methods := #[k9m0, k9m1, k9m2]
  instanceTypes := #[]
  staticTypes := #[.double, .double, .double, .double, .double, .long, .long, .double, .double, .boolean]
  resolved := Array.replicate 460 none
  statics := none }

def pool10 : Array CpInfo := pool [(2, .class_ 4), (1, u "java/lang/Object"), (0, u "<init>"), (0, u "()V"), (1, .class_ 10), (1, u "java/lang/String"), (3, .class_ 16), (1, u "com/example/vestbook/vestbook/WholeNumbers"), (0, u "isDigits"), (3, u "(Ljava/lang/String;II)Z"), (0, .methodref 8 23), (0, .nameAndType 24 25), (0, u "charAt"), (0, u "(I)C")] 8

def k10m0 : Method := { name := "<init>", desc := "()V", sig := { parameters := [], returnType := none }, accessFlags := 2, code := none }
def k10c1 : Code := { maxStack := 2, maxLocals := 5, code := prog_7_method_6_code, exceptionTable := #[], attributes := #[] }
def k10m1 : Method := { name := "isDigits", desc := "(Ljava/lang/String;II)Z", sig := { parameters := [(.object "java/lang/String"), .int, .int], returnType := some .boolean }, accessFlags := 9, code := some k10c1 }
/-- com/example/vestbook/vestbook/WholeNumbers -/
def k10 : Class := { plain "com/example/vestbook/vestbook/WholeNumbers" (some 0) with
  accessFlags := 49
  interfaces := #[]
  cf := some (fileOf pool10 14 #[] #[{ accessFlags := 2, nameIndex := 5, descriptorIndex := 6, attributes := #[] }, { accessFlags := 9, nameIndex := 17, descriptorIndex := 21, attributes := #[] }] 49 2 #[] #[])
  fields := #[]
  methods := #[k10m0, k10m1]
  instanceTypes := #[]
  staticTypes := #[]
  resolved := Array.replicate 34 none
  statics := none }

def pool11 : Array CpInfo := pool [(1, .class_ 2), (0, u "java/lang/String"), (1, .class_ 6), (1, u "java/lang/Object"), (0, u "<init>"), (0, u "()V"), (0, .methodref 1 10), (0, .nameAndType 11 12), (0, u "checkIndex"), (0, u "(II)V"), (1, .class_ 16), (1, u "java/lang/StringLatin1"), (36, u "([BI)C"), (67, u "$assertionsDisabled"), (0, u "Z"), (98, .class_ 223), (1, u "java/lang/StringLatin1$LinesSpliterator"), (28, u "charAt"), (137, .class_ 391), (0, u "java/lang/StringLatin1$CharsSpliterator")] 3

def k11m0 : Method := { name := "<init>", desc := "()V", sig := { parameters := [], returnType := none }, accessFlags := 0, code := none }
def k11c1 : Code := { maxStack := 2, maxLocals := 2, code := jdk_43_method_2_code, exceptionTable := #[], attributes := #[] }
def k11m1 : Method := { name := "charAt", desc := "([BI)C", sig := { parameters := [(.array .byte), .int], returnType := some .char }, accessFlags := 9, code := some k11c1 }
/-- java/lang/StringLatin1 -/
def k11 : Class := { plain "java/lang/StringLatin1" (some 0) with
  accessFlags := 48
  interfaces := #[]
  cf := some (fileOf pool11 14 #[.nestMembers #[390, 221]] #[{ accessFlags := 0, nameIndex := 7, descriptorIndex := 8, attributes := #[] }, { accessFlags := 9, nameIndex := 252, descriptorIndex := 53, attributes := #[] }] 48 4 #[] #[{ accessFlags := 4120, nameIndex := 121, descriptorIndex := 122, attributes := #[] }])
  fields := #[{ name := "$assertionsDisabled", type := .boolean, accessFlags := 4120, slot := 0, constantValue := 0 }]
  methods := #[k11m0, k11m1]
  instanceTypes := #[]
  staticTypes := #[.boolean]
  resolved := Array.replicate 395 none
  statics := none }

def pool12 : Array CpInfo := pool [(2, .class_ 4), (1, u "java/lang/Object"), (0, u "<init>"), (0, u "()V"), (17, .class_ 26), (1, u "jdk/internal/util/Preconditions"), (6, u "checkIndex"), (21, .class_ 56), (0, u "jdk/internal/util/Preconditions$4"), (57, .class_ 115), (0, u "jdk/internal/util/Preconditions$1"), (7, u "SIOOBE_FORMATTER"), (0, u "Ljava/util/function/BiFunction;"), (0, .class_ 126), (0, u "jdk/internal/util/Preconditions$2"), (3, u "AIOOBE_FORMATTER"), (0, .class_ 132), (0, u "jdk/internal/util/Preconditions$3"), (3, u "IOOBE_FORMATTER"), (41, u "(IILjava/util/function/BiFunction;)I")] 15

def k12m0 : Method := { name := "<init>", desc := "()V", sig := { parameters := [], returnType := none }, accessFlags := 1, code := none }
def k12c1 : Code := { maxStack := 3, maxLocals := 3, code := jdk_41_method_11_code, exceptionTable := #[], attributes := #[] }
def k12m1 : Method := { name := "checkIndex", desc := "(IILjava/util/function/BiFunction;)I", sig := { parameters := [.int, .int, (.object "java/util/function/BiFunction")], returnType := some .int }, accessFlags := 9, code := some k12c1 }
/-- jdk/internal/util/Preconditions -/
def k12 : Class := { plain "jdk/internal/util/Preconditions" (some 0) with
  accessFlags := 33
  interfaces := #[]
  cf := some (fileOf pool12 24 #[.nestMembers #[55, 131, 125, 114]] #[{ accessFlags := 1, nameIndex := 5, descriptorIndex := 6, attributes := #[] }, { accessFlags := 9, nameIndex := 33, descriptorIndex := 178, attributes := #[] }] 33 2 #[] #[{ accessFlags := 25, nameIndex := 123, descriptorIndex := 124, attributes := #[] }, { accessFlags := 25, nameIndex := 130, descriptorIndex := 124, attributes := #[] }, { accessFlags := 25, nameIndex := 136, descriptorIndex := 124, attributes := #[] }])
  fields := #[{ name := "SIOOBE_FORMATTER", type := (.object "java/util/function/BiFunction"), accessFlags := 25, slot := 0, constantValue := 0 }, { name := "AIOOBE_FORMATTER", type := (.object "java/util/function/BiFunction"), accessFlags := 25, slot := 1, constantValue := 0 }, { name := "IOOBE_FORMATTER", type := (.object "java/util/function/BiFunction"), accessFlags := 25, slot := 2, constantValue := 0 }]
  methods := #[k12m0, k12m1]
  instanceTypes := #[]
  staticTypes := #[(.object "java/util/function/BiFunction"), (.object "java/util/function/BiFunction"), (.object "java/util/function/BiFunction")]
  resolved := Array.replicate 194 none
  statics := some 1 }

def pool13 : Array CpInfo := pool [(9, u "<init>"), (6, .class_ 18), (1, u "java/lang/Object"), (0, u "()V"), (1, .class_ 23), (1, u "jdk/internal/util/ArraysSupport"), (0, u "LOG2_ARRAY_LONG_INDEX_SCALE"), (0, u "I"), (2, u "U"), (0, u "Ljdk/internal/misc/Unsafe;"), (8, u "BIG_ENDIAN"), (0, u "Z"), (8, u "LOG2_BYTE_BIT_SIZE"), (4, u "LOG2_ARRAY_INT_INDEX_SCALE"), (54, u "JLA"), (0, u "Ljdk/internal/access/JavaLangAccess;"), (11, u "LOG2_ARRAY_BOOLEAN_INDEX_SCALE"), (9, u "LOG2_ARRAY_BYTE_INDEX_SCALE"), (5, u "LOG2_ARRAY_CHAR_INDEX_SCALE"), (5, u "LOG2_ARRAY_SHORT_INDEX_SCALE"), (18, u "LOG2_ARRAY_FLOAT_INDEX_SCALE"), (24, u "LOG2_ARRAY_DOUBLE_INDEX_SCALE"), (89, u "T_BOOLEAN"), (2, u "T_CHAR"), (1, u "T_FLOAT"), (1, u "T_DOUBLE"), (1, u "T_BYTE"), (1, u "T_SHORT"), (1, u "T_INT"), (1, u "T_LONG"), (1, u "SOFT_MAX_ARRAY_LENGTH")] 83

def k13m0 : Method := { name := "<init>", desc := "()V", sig := { parameters := [], returnType := none }, accessFlags := 2, code := none }
/-- jdk/internal/util/ArraysSupport -/
def k13 : Class := { plain "jdk/internal/util/ArraysSupport" (some 0) with
  accessFlags := 33
  interfaces := #[]
  cf := some (fileOf pool13 21 #[] #[{ accessFlags := 2, nameIndex := 9, descriptorIndex := 19, attributes := #[] }] 33 16 #[] #[{ accessFlags := 24, nameIndex := 28, descriptorIndex := 29, attributes := #[] }, { accessFlags := 26, nameIndex := 38, descriptorIndex := 39, attributes := #[] }, { accessFlags := 25, nameIndex := 121, descriptorIndex := 25, attributes := #[] }, { accessFlags := 25, nameIndex := 131, descriptorIndex := 25, attributes := #[] }, { accessFlags := 25, nameIndex := 137, descriptorIndex := 25, attributes := #[] }, { accessFlags := 25, nameIndex := 143, descriptorIndex := 25, attributes := #[] }, { accessFlags := 25, nameIndex := 53, descriptorIndex := 25, attributes := #[] }, { accessFlags := 25, nameIndex := 24, descriptorIndex := 25, attributes := #[] }, { accessFlags := 25, nameIndex := 162, descriptorIndex := 25, attributes := #[] }, { accessFlags := 25, nameIndex := 187, descriptorIndex := 25, attributes := #[] }, { accessFlags := 26, nameIndex := 48, descriptorIndex := 25, attributes := #[] }, { accessFlags := 25, nameIndex := 277, descriptorIndex := 25, attributes := #[] }, { accessFlags := 25, nameIndex := 280, descriptorIndex := 25, attributes := #[] }, { accessFlags := 25, nameIndex := 282, descriptorIndex := 25, attributes := #[] }, { accessFlags := 25, nameIndex := 284, descriptorIndex := 25, attributes := #[] }, { accessFlags := 25, nameIndex := 286, descriptorIndex := 25, attributes := #[] }, { accessFlags := 25, nameIndex := 288, descriptorIndex := 25, attributes := #[] }, { accessFlags := 25, nameIndex := 290, descriptorIndex := 25, attributes := #[] }, { accessFlags := 25, nameIndex := 292, descriptorIndex := 25, attributes := #[] }, { accessFlags := 26, nameIndex := 108, descriptorIndex := 109, attributes := #[] }, { accessFlags := 25, nameIndex := 294, descriptorIndex := 25, attributes := #[] }])
  fields := #[{ name := "U", type := (.object "jdk/internal/misc/Unsafe"), accessFlags := 24, slot := 0, constantValue := 0 }, { name := "BIG_ENDIAN", type := .boolean, accessFlags := 26, slot := 1, constantValue := 0 }, { name := "LOG2_ARRAY_BOOLEAN_INDEX_SCALE", type := .int, accessFlags := 25, slot := 2, constantValue := 0 }, { name := "LOG2_ARRAY_BYTE_INDEX_SCALE", type := .int, accessFlags := 25, slot := 3, constantValue := 0 }, { name := "LOG2_ARRAY_CHAR_INDEX_SCALE", type := .int, accessFlags := 25, slot := 4, constantValue := 0 }, { name := "LOG2_ARRAY_SHORT_INDEX_SCALE", type := .int, accessFlags := 25, slot := 5, constantValue := 0 }, { name := "LOG2_ARRAY_INT_INDEX_SCALE", type := .int, accessFlags := 25, slot := 6, constantValue := 0 }, { name := "LOG2_ARRAY_LONG_INDEX_SCALE", type := .int, accessFlags := 25, slot := 7, constantValue := 0 }, { name := "LOG2_ARRAY_FLOAT_INDEX_SCALE", type := .int, accessFlags := 25, slot := 8, constantValue := 0 }, { name := "LOG2_ARRAY_DOUBLE_INDEX_SCALE", type := .int, accessFlags := 25, slot := 9, constantValue := 0 }, { name := "LOG2_BYTE_BIT_SIZE", type := .int, accessFlags := 26, slot := 10, constantValue := 0 }, { name := "T_BOOLEAN", type := .int, accessFlags := 25, slot := 11, constantValue := 0 }, { name := "T_CHAR", type := .int, accessFlags := 25, slot := 12, constantValue := 0 }, { name := "T_FLOAT", type := .int, accessFlags := 25, slot := 13, constantValue := 0 }, { name := "T_DOUBLE", type := .int, accessFlags := 25, slot := 14, constantValue := 0 }, { name := "T_BYTE", type := .int, accessFlags := 25, slot := 15, constantValue := 0 }, { name := "T_SHORT", type := .int, accessFlags := 25, slot := 16, constantValue := 0 }, { name := "T_INT", type := .int, accessFlags := 25, slot := 17, constantValue := 0 }, { name := "T_LONG", type := .int, accessFlags := 25, slot := 18, constantValue := 0 }, { name := "JLA", type := (.object "jdk/internal/access/JavaLangAccess"), accessFlags := 26, slot := 19, constantValue := 0 }, { name := "SOFT_MAX_ARRAY_LENGTH", type := .int, accessFlags := 25, slot := 20, constantValue := 0 }]
  methods := #[k13m0]
  instanceTypes := #[]
  staticTypes := #[(.object "jdk/internal/misc/Unsafe"), .boolean, .int, .int, .int, .int, .int, .int, .int, .int, .int, .int, .int, .int, .int, .int, .int, .int, .int, (.object "jdk/internal/access/JavaLangAccess"), .int]
  resolved := Array.replicate 378 none
  statics := none }

def pool14 : Array CpInfo := pool [(1, u "java/lang/Cloneable"), (0, .class_ 1), (0, u "java/lang/Object"), (0, .class_ 3)] 3

/-- java/lang/Cloneable -/
def k14 : Class := { plain "java/lang/Cloneable" (some 0) with
  accessFlags := 1537
  interfaces := #[]
  cf := some (fileOf pool14 2 #[] #[] 1537 4 #[] #[])
  fields := #[]
  methods := #[]
  instanceTypes := #[]
  staticTypes := #[]
  resolved := Array.replicate 8 none
  statics := none }

/-- the primitive byte -/
def k15 : Class := { plain "byte" none with kind := .primitive 'B', accessFlags := 0x411 }
/-- [B -/
def k16 : Class := { plain "[B" (some 0) with kind := .array 15 .byte, interfaces := #[14, 2], accessFlags := 1041 }

/-- the primitive char -/
def k17 : Class := { plain "char" none with kind := .primitive 'C', accessFlags := 0x411 }
/-- [C -/
def k18 : Class := { plain "[C" (some 0) with kind := .array 17 .char, interfaces := #[14, 2], accessFlags := 1041 }

/-- the primitive int -/
def k19 : Class := { plain "int" none with kind := .primitive 'I', accessFlags := 0x411 }
/-- [I -/
def k20 : Class := { plain "[I" (some 0) with kind := .array 19 .int, interfaces := #[14, 2], accessFlags := 1041 }

def heap : Heap := #[{ cls := 7, slots := #[.long 0, .int 1, .null, .int 0, .null, .int 0, .int 0], vm := .statics 7 },
  { cls := 12, slots := #[.null, .null, .null], vm := .statics 12 }]
def classes : Array Class := #[k0, k1, k2, k3, k4, k5, k6, k7, k8, k9, k10, k11, k12, k13, k14, k15, k16, k17, k18, k19, k20]
def interned : List (Array UInt16 × Addr) := []
def slotsUsed : Nat := 10
def theMethod : MethodId := ⟨1, 4⟩
def args0 : Array Value := #[.int 5, .int 5, .int 5, .int 5, .int 5]
def aboutOver (below : List Frame) : State where
  vm := { classes := classes, interned := interned.toArray }
  heap := heap
  slotsUsed := slotsUsed
  threads := #[{ frames := .invoking theMethod args0 :: below }]
def below0 : List Frame := [.native { method := ⟨0, 0⟩, args := #[] }]
def about1 : State := aboutOver below0
def p0 : Program := .bare "" "" ""
def e0 : Env := launch0.env 0 0 0
theorem w_frames : about1.frames = Frame.invoking theMethod args0 :: below0 := rfl
set_option maxRecDepth 65536 in
theorem w_args : argsFit about1.vm theMethod args0 = true := by decide +kernel
set_option maxRecDepth 65536 in
theorem w_heap : heapFits about1 = true := by decide +kernel
set_option maxRecDepth 65536 in
theorem w_runnable : about1.curStatus? = some .runnable := by decide +kernel
set_option maxRecDepth 65536 in
theorem w_alone : about1.alone = true := by decide +kernel
set_option maxRecDepth 65536 in
theorem w_named : about1.methodNamed? x = some theMethod := by decide +kernel
set_option maxRecDepth 65536 in
theorem w_hears : about1.hears theMethod below0 = true := by decide +kernel
set_option maxRecDepth 65536 in
theorem w_ripe : about1.ripe theMethod args0 below0 = true := by decide +kernel
theorem w_running : about1.status = .running := rfl
set_option maxRecDepth 65536 in
theorem w_room : about1.hasRoom e0.platform room_1 = true :=
  launch0.hasRoom_least _ room_1 (by decide +kernel) (by decide +kernel) (by decide +kernel) (by decide +kernel) (by decide +kernel) (by decide +kernel)
theorem allAtoms_all (ts : List Jvm.Cond) (a : Array Jvm.Value) (st : Jvm.State) : (allAtoms ts).before a st = ts.all (fun c => c.before a st) := by
  induction ts with
  | nil => rfl
  | cons c t ih =>
    show (Jvm.Cond.and c (allAtoms t)).before a st = _
    rw [Jvm.Cond.before_and, ih, List.all_cons]
def words1 : List Jvm.Cond := Jvm.Cond.code x code maxLocals ret :: tables_1
/-- a 'code' word, met by the world's own term for the bytes: nothing is compared byte by byte -/
theorem code_word {y : MethodName} {bytes : ByteArray} {mx : Nat} {rt : Option FieldType} {a : Array Value} {s : State} {m : MethodId} {meth : Method} {c : Code} (h1 : s.methodNamed? y = some m) (h2 : s.vm.method? m = some meth) (h3 : meth.code = some c) (h4 : c.code = bytes)
    (h5 : (c.maxLocals == mx && c.exceptionTable.isEmpty && decide (c.maxStack ≤ mostOperands) && decide (meth.sig.returnType = rt) && !meth.locks && decide (parseMethodDescriptor y.desc = some meth.sig)) = true) : (Jvm.Cond.code y bytes mx rt).before a s = true := by
  simp only [Bool.and_eq_true, beq_iff_eq, Bool.not_eq_true', decide_eq_true_eq] at h5
  obtain ⟨⟨⟨⟨⟨g1, g2⟩, g3⟩, g4⟩, g5⟩, g6⟩ := h5
  simp [Cond.before, Cond.holds, Cond.value, h1, h2, h3, h4, g1, g2, g3, g4, g5, g6]
def isCode : Jvm.Cond → Bool
  | .code _ _ _ _ => true
  | _ => false
theorem all_split {L : List Jvm.Cond} {P : Jvm.Cond → Bool} (h1 : L.all (fun c => isCode c || P c) = true) (h2 : ∀ c ∈ L.filter isCode, P c = true) : L.all P = true := by
  refine List.all_eq_true.mpr fun c hc => ?_
  have h := List.all_eq_true.mp h1 c hc
  rcases Bool.eq_false_or_eq_true (isCode c) with hi | hi
  · exact h2 c (List.mem_filter.mpr ⟨hc, hi⟩)
  · simpa [hi] using h
set_option maxRecDepth 65536 in
theorem w_c0 : (Jvm.Cond.code x code maxLocals ret).before args0 about1 = true := code_word (m := ⟨1, 4⟩) (meth := k1m4) (c := k1c4) (by decide +kernel) rfl rfl rfl (by decide +kernel)
set_option maxRecDepth 65536 in
theorem w_c1 : (Jvm.Cond.code ({ cls := "com/example/vestbook/vestbook/WholeNumbersIsDigitsPinLaw", name := "ch", desc := "(I)C" } : Jvm.MethodName) method_2_code (1 : Nat) (Option.some Jvm.ClassFile.FieldType.char)).before args0 about1 = true := code_word (m := ⟨1, 1⟩) (meth := k1m1) (c := k1c1) (by decide +kernel) rfl rfl rfl (by decide +kernel)
set_option maxRecDepth 65536 in
theorem w_c2 : (Jvm.Cond.code ({ cls := "java/lang/String", name := "<init>", desc := "([C)V" } : Jvm.MethodName) jdk_42_method_3_code (2 : Nat) (Option.none : Option Jvm.ClassFile.FieldType)).before args0 about1 = true := code_word (m := ⟨7, 1⟩) (meth := k7m1) (c := k7c1) (by decide +kernel) rfl rfl rfl (by decide +kernel)
set_option maxRecDepth 65536 in
theorem w_c3 : (Jvm.Cond.code ({ cls := "java/lang/String", name := "<init>", desc := "([CIILjava/lang/Void;)V" } : Jvm.MethodName) jdk_42_method_149_code (6 : Nat) (Option.none : Option Jvm.ClassFile.FieldType)).before args0 about1 = true := code_word (m := ⟨7, 3⟩) (meth := k7m3) (c := k7c3) (by decide +kernel) rfl rfl rfl (by decide +kernel)
set_option maxRecDepth 65536 in
theorem w_c4 : (Jvm.Cond.code ({ cls := "java/lang/Object", name := "<init>", desc := "()V" } : Jvm.MethodName) object_method_1_code (1 : Nat) (Option.none : Option Jvm.ClassFile.FieldType)).before args0 about1 = true := code_word (m := ⟨0, 0⟩) (meth := k0m0) (c := k0c0) (by decide +kernel) rfl rfl rfl (by decide +kernel)
set_option maxRecDepth 65536 in
theorem w_c5 : (Jvm.Cond.code ({ cls := "java/lang/StringUTF16", name := "compress", desc := "([CII)[B" } : Jvm.MethodName) jdk_52_method_16_code (6 : Nat) (Option.some (Jvm.ClassFile.FieldType.array Jvm.ClassFile.FieldType.byte))).before args0 about1 = true := code_word (m := ⟨8, 2⟩) (meth := k8m2) (c := k8c2) (by decide +kernel) rfl rfl rfl (by decide +kernel)
set_option maxRecDepth 65536 in
theorem w_c6 : (Jvm.Cond.code ({ cls := "java/lang/StringUTF16", name := "compress", desc := "([CI[BII)I" } : Jvm.MethodName) jdk_52_method_21_code (7 : Nat) (Option.some Jvm.ClassFile.FieldType.int)).before args0 about1 = true := code_word (m := ⟨8, 3⟩) (meth := k8m3) (c := k8c3) (by decide +kernel) rfl rfl rfl (by decide +kernel)
set_option maxRecDepth 65536 in
theorem w_c7 : (Jvm.Cond.code ({ cls := "java/lang/StringUTF16", name := "coderFromArrayLen", desc := "([BI)B" } : Jvm.MethodName) jdk_52_method_15_code (2 : Nat) (Option.some Jvm.ClassFile.FieldType.byte)).before args0 about1 = true := code_word (m := ⟨8, 1⟩) (meth := k8m1) (c := k8c1) (by decide +kernel) rfl rfl rfl (by decide +kernel)
set_option maxRecDepth 65536 in
theorem w_c8 : (Jvm.Cond.code ({ cls := "java/lang/Math", name := "min", desc := "(II)I" } : Jvm.MethodName) jdk_29_method_69_code (2 : Nat) (Option.some Jvm.ClassFile.FieldType.int)).before args0 about1 = true := code_word (m := ⟨9, 2⟩) (meth := k9m2) (c := k9c2) (by decide +kernel) rfl rfl rfl (by decide +kernel)
set_option maxRecDepth 65536 in
theorem w_c9 : (Jvm.Cond.code ({ cls := "java/lang/Math", name := "max", desc := "(II)I" } : Jvm.MethodName) jdk_29_method_65_code (2 : Nat) (Option.some Jvm.ClassFile.FieldType.int)).before args0 about1 = true := code_word (m := ⟨9, 1⟩) (meth := k9m1) (c := k9c1) (by decide +kernel) rfl rfl rfl (by decide +kernel)
set_option maxRecDepth 65536 in
theorem w_c10 : (Jvm.Cond.code ({ cls := "com/example/vestbook/vestbook/WholeNumbers", name := "isDigits", desc := "(Ljava/lang/String;II)Z" } : Jvm.MethodName) prog_7_method_6_code (5 : Nat) (Option.some Jvm.ClassFile.FieldType.boolean)).before args0 about1 = true := code_word (m := ⟨10, 1⟩) (meth := k10m1) (c := k10c1) (by decide +kernel) rfl rfl rfl (by decide +kernel)
set_option maxRecDepth 65536 in
theorem w_c11 : (Jvm.Cond.code ({ cls := "com/example/vestbook/vestbook/WholeNumbersIsDigitsPinLaw", name := "ok", desc := "(IIIC)Z" } : Jvm.MethodName) method_4_code (4 : Nat) (Option.some Jvm.ClassFile.FieldType.boolean)).before args0 about1 = true := code_word (m := ⟨1, 3⟩) (meth := k1m3) (c := k1c3) (by decide +kernel) rfl rfl rfl (by decide +kernel)
set_option maxRecDepth 65536 in
theorem w_c12 : (Jvm.Cond.code ({ cls := "com/example/vestbook/vestbook/WholeNumbersIsDigitsPinLaw", name := "isD", desc := "(C)Z" } : Jvm.MethodName) method_3_code (1 : Nat) (Option.some Jvm.ClassFile.FieldType.boolean)).before args0 about1 = true := code_word (m := ⟨1, 2⟩) (meth := k1m2) (c := k1c2) (by decide +kernel) rfl rfl rfl (by decide +kernel)
set_option maxRecDepth 65536 in
theorem w_c13 : (Jvm.Cond.code ({ cls := "java/lang/String", name := "charAt", desc := "(I)C" } : Jvm.MethodName) jdk_42_method_56_code (2 : Nat) (Option.some Jvm.ClassFile.FieldType.char)).before args0 about1 = true := code_word (m := ⟨7, 2⟩) (meth := k7m2) (c := k7c2) (by decide +kernel) rfl rfl rfl (by decide +kernel)
set_option maxRecDepth 65536 in
theorem w_c14 : (Jvm.Cond.code ({ cls := "java/lang/String", name := "isLatin1", desc := "()Z" } : Jvm.MethodName) jdk_42_method_154_code (1 : Nat) (Option.some Jvm.ClassFile.FieldType.boolean)).before args0 about1 = true := code_word (m := ⟨7, 4⟩) (meth := k7m4) (c := k7c4) (by decide +kernel) rfl rfl rfl (by decide +kernel)
set_option maxRecDepth 65536 in
theorem w_c15 : (Jvm.Cond.code ({ cls := "java/lang/StringLatin1", name := "charAt", desc := "([BI)C" } : Jvm.MethodName) jdk_43_method_2_code (2 : Nat) (Option.some Jvm.ClassFile.FieldType.char)).before args0 about1 = true := code_word (m := ⟨11, 1⟩) (meth := k11m1) (c := k11c1) (by decide +kernel) rfl rfl rfl (by decide +kernel)
set_option maxRecDepth 65536 in
theorem w_c16 : (Jvm.Cond.code ({ cls := "java/lang/String", name := "checkIndex", desc := "(II)V" } : Jvm.MethodName) jdk_42_method_155_code (2 : Nat) (Option.none : Option Jvm.ClassFile.FieldType)).before args0 about1 = true := code_word (m := ⟨7, 5⟩) (meth := k7m5) (c := k7c5) (by decide +kernel) rfl rfl rfl (by decide +kernel)
set_option maxRecDepth 65536 in
theorem w_c17 : (Jvm.Cond.code ({ cls := "jdk/internal/util/Preconditions", name := "checkIndex", desc := "(IILjava/util/function/BiFunction;)I" } : Jvm.MethodName) jdk_41_method_11_code (3 : Nat) (Option.some Jvm.ClassFile.FieldType.int)).before args0 about1 = true := code_word (m := ⟨12, 1⟩) (meth := k12m1) (c := k12c1) (by decide +kernel) rfl rfl rfl (by decide +kernel)
def codes1 : List Jvm.Cond := [Jvm.Cond.code x code maxLocals ret, Jvm.Cond.code ({ cls := "com/example/vestbook/vestbook/WholeNumbersIsDigitsPinLaw", name := "ch", desc := "(I)C" } : Jvm.MethodName) method_2_code (1 : Nat) (Option.some Jvm.ClassFile.FieldType.char), Jvm.Cond.code ({ cls := "java/lang/String", name := "<init>", desc := "([C)V" } : Jvm.MethodName) jdk_42_method_3_code (2 : Nat) (Option.none : Option Jvm.ClassFile.FieldType), Jvm.Cond.code ({ cls := "java/lang/String", name := "<init>", desc := "([CIILjava/lang/Void;)V" } : Jvm.MethodName) jdk_42_method_149_code (6 : Nat) (Option.none : Option Jvm.ClassFile.FieldType), Jvm.Cond.code ({ cls := "java/lang/Object", name := "<init>", desc := "()V" } : Jvm.MethodName) object_method_1_code (1 : Nat) (Option.none : Option Jvm.ClassFile.FieldType), Jvm.Cond.code ({ cls := "java/lang/StringUTF16", name := "compress", desc := "([CII)[B" } : Jvm.MethodName) jdk_52_method_16_code (6 : Nat) (Option.some (Jvm.ClassFile.FieldType.array Jvm.ClassFile.FieldType.byte)), Jvm.Cond.code ({ cls := "java/lang/StringUTF16", name := "compress", desc := "([CI[BII)I" } : Jvm.MethodName) jdk_52_method_21_code (7 : Nat) (Option.some Jvm.ClassFile.FieldType.int), Jvm.Cond.code ({ cls := "java/lang/StringUTF16", name := "coderFromArrayLen", desc := "([BI)B" } : Jvm.MethodName) jdk_52_method_15_code (2 : Nat) (Option.some Jvm.ClassFile.FieldType.byte), Jvm.Cond.code ({ cls := "java/lang/Math", name := "min", desc := "(II)I" } : Jvm.MethodName) jdk_29_method_69_code (2 : Nat) (Option.some Jvm.ClassFile.FieldType.int), Jvm.Cond.code ({ cls := "java/lang/Math", name := "max", desc := "(II)I" } : Jvm.MethodName) jdk_29_method_65_code (2 : Nat) (Option.some Jvm.ClassFile.FieldType.int), Jvm.Cond.code ({ cls := "com/example/vestbook/vestbook/WholeNumbers", name := "isDigits", desc := "(Ljava/lang/String;II)Z" } : Jvm.MethodName) prog_7_method_6_code (5 : Nat) (Option.some Jvm.ClassFile.FieldType.boolean), Jvm.Cond.code ({ cls := "com/example/vestbook/vestbook/WholeNumbersIsDigitsPinLaw", name := "ok", desc := "(IIIC)Z" } : Jvm.MethodName) method_4_code (4 : Nat) (Option.some Jvm.ClassFile.FieldType.boolean), Jvm.Cond.code ({ cls := "com/example/vestbook/vestbook/WholeNumbersIsDigitsPinLaw", name := "isD", desc := "(C)Z" } : Jvm.MethodName) method_3_code (1 : Nat) (Option.some Jvm.ClassFile.FieldType.boolean), Jvm.Cond.code ({ cls := "java/lang/String", name := "charAt", desc := "(I)C" } : Jvm.MethodName) jdk_42_method_56_code (2 : Nat) (Option.some Jvm.ClassFile.FieldType.char), Jvm.Cond.code ({ cls := "java/lang/String", name := "isLatin1", desc := "()Z" } : Jvm.MethodName) jdk_42_method_154_code (1 : Nat) (Option.some Jvm.ClassFile.FieldType.boolean), Jvm.Cond.code ({ cls := "java/lang/StringLatin1", name := "charAt", desc := "([BI)C" } : Jvm.MethodName) jdk_43_method_2_code (2 : Nat) (Option.some Jvm.ClassFile.FieldType.char), Jvm.Cond.code ({ cls := "java/lang/String", name := "checkIndex", desc := "(II)V" } : Jvm.MethodName) jdk_42_method_155_code (2 : Nat) (Option.none : Option Jvm.ClassFile.FieldType), Jvm.Cond.code ({ cls := "jdk/internal/util/Preconditions", name := "checkIndex", desc := "(IILjava/util/function/BiFunction;)I" } : Jvm.MethodName) jdk_41_method_11_code (3 : Nat) (Option.some Jvm.ClassFile.FieldType.int)]
set_option maxRecDepth 65536 in
theorem codes_eq : words1.filter isCode = codes1 := rfl
theorem w_codes : ∀ c ∈ words1.filter isCode, c.before args0 about1 = true := by
  rw [codes_eq]
  intro c hc
  simp only [codes1, List.mem_cons, List.not_mem_nil, or_false] at hc
  rcases hc with rfl | rfl | rfl | rfl | rfl | rfl | rfl | rfl | rfl | rfl | rfl | rfl | rfl | rfl | rfl | rfl | rfl | rfl
  · exact w_c0
  · exact w_c1
  · exact w_c2
  · exact w_c3
  · exact w_c4
  · exact w_c5
  · exact w_c6
  · exact w_c7
  · exact w_c8
  · exact w_c9
  · exact w_c10
  · exact w_c11
  · exact w_c12
  · exact w_c13
  · exact w_c14
  · exact w_c15
  · exact w_c16
  · exact w_c17
set_option maxRecDepth 65536 in
theorem w_t1 : (words1.take 24).all (fun c => isCode c || c.before args0 about1) = true := by decide +kernel
set_option maxRecDepth 65536 in
theorem w_t2 : ((words1.drop 24).take 24).all (fun c => isCode c || c.before args0 about1) = true := by decide +kernel
set_option maxRecDepth 65536 in
theorem w_t3 : (((words1.drop 24).drop 24).take 24).all (fun c => isCode c || c.before args0 about1) = true := by decide +kernel
set_option maxRecDepth 65536 in
theorem w_t4 : (((words1.drop 24).drop 24).drop 24).all (fun c => isCode c || c.before args0 about1) = true := by decide +kernel
theorem w_tables : (allAtoms (Jvm.Cond.code x code maxLocals ret :: tables_1)).before args0 about1 = true := by
  rw [allAtoms_all]
  show words1.all (fun c => c.before args0 about1) = true
  refine all_split ?_ w_codes
  rw [← List.take_append_drop 24 words1, List.all_append, w_t1, ← List.take_append_drop 24 (words1.drop 24), List.all_append, w_t2, ← List.take_append_drop 24 ((words1.drop 24).drop 24), List.all_append, w_t3, w_t4]
  rfl
set_option maxRecDepth 65536 in
theorem w_rest : rest_1_c.before args0 about1 = true := by decide +kernel
set_option maxRecDepth 65536 in
theorem w_case : (Jvm.Cond.and given_1 narrow_1).before args0 about1 = true := by decide +kernel
theorem w_applies : (headSpec (Jvm.Cond.code x code maxLocals ret :: tables_1) room_1).applies x e0.platform about1 = true :=
  (Spec.applies_iff w_frames).mpr ⟨w_running, w_runnable, w_alone, w_named, w_hears, w_ripe, w_room, w_tables⟩
theorem atStart : AtStart classFile x code maxLocals ret World_1 tables_1 room_1 Calls_1 rest_1 Pre_1 launch0 p0 e0 about1 theMethod args0 below0 :=
  ⟨lists_1, trivial, launch0.admits_env _ _ _, launch0.least_env, fairChoices_fair.cas, fairChoices_fair.clock, w_frames, w_args, w_heap, w_applies, trivial, w_rest, w_case⟩
end start1
theorem witness_1 : WitnessClaimed_1 := ⟨start1.p0, start1.e0, start1.about1, start1.theMethod, start1.args0, start1.below0, start1.atStart⟩
end Jvm.Pilot.@@N@@
