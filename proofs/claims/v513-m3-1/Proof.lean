import JvmDerived
import JvmDerived.Pilot.@@N@@Statement
import JvmDerived.Pilot.@@N@@Code
set_option linter.unusedVariables false
set_option linter.unusedSimpArgs false
/- laws to paste: Road.backV, Road.lenW, Road.codOf (cut by pick.py; bodies as the Statement names them) -/
namespace Jvm.Pilot.@@N@@
namespace StrChars
open Jvm Sem ClassFile Op Lib Jvm.Stand Jvm.Free.XT Jvm.Free.ALB Jvm.Free.JM Jvm.Free
open Jvm.Lib.Cold (StaticIs)
/-- a char array whose places are chars -/
def Ch (a : Addr) (A : Cell) (U : State) : Prop := Arr .char a A U ∧ Typed .char A
theorem Ch.mv {a : Addr} {A : Cell} {U U' : State} (h : Ch a A U) (hal : U.vm.Alike U'.vm) (hh : U'.heap = U.heap) : Ch a A U' := ⟨h.1.mv hal hh, h.2⟩
theorem Ch.keep {a : Addr} {A : Cell} {U U' : State} (h : Ch a A U) (hal : U.vm.Alike U'.vm) (hk : U'.heap[a]? = some A) : Ch a A U' := ⟨h.1.keep hal hk, h.2⟩
/-- what place i of a char[]'s cell holds -/
def cv (A : Cell) (i : Nat) : Int32 := match A.slots[i]? with | some (.int x) => x | _ => 0
theorem Ch.get {a : Addr} {A : Cell} {U : State} (h : Ch a A U) {i : Nat} (hi : i < A.slots.size) : A.slots[i]? = some (.int (cv A i)) := by
  have e := Array.getElem?_eq_getElem hi
  have f := h.2 i _ e
  unfold cv; rw [e]
  generalize A.slots[i] = v at f
  cases v <;> simp [fits] at f ⊢
/-- the byte that i2b leaves of a char -/
def lo8 (x : Int32) : Int32 := x.toInt8.toInt32
theorem fits_lo8 (y : Int32) : fits .byte (.int (lo8 y)) = true := by
  have h1 := y.toInt8.le_toInt
  have h2 := y.toInt8.toInt_lt
  simp only [lo8, fits, Bool.and_eq_true, decide_eq_true_eq, Int32.le_iff_toInt_le, Int8.toInt_toInt32, show (-128 : Int32).toInt = -128 from by decide, show (127 : Int32).toInt = 127 from by decide]
  omega
/-- A' is A but that each place j of lo .. hi - 1 holds f j -/
def Laid (A A' : Cell) (lo hi : Nat) (f : Nat → Value) : Prop := A'.cls = A.cls ∧ A'.vm = A.vm ∧ A'.slots.size = A.slots.size ∧ ∀ i, A'.slots[i]? = if lo ≤ i ∧ i < hi then some (f i) else A.slots[i]?
theorem Laid.zero (A : Cell) (lo : Nat) (f : Nat → Value) : Laid A A lo (lo + 0) f := ⟨rfl, rfl, rfl, fun i => by rw [if_neg (by omega)]⟩
theorem Laid.step {A Ak : Cell} {lo k : Nat} {f : Nat → Value} {v : Value} (h : Laid A Ak lo k f) (hlo : lo ≤ k) (hk : k < Ak.slots.size) (hv : v = f k) : Laid A (Ak.setSlot k v) lo (k + 1) f := by
  refine ⟨h.1, h.2.1, by simpa [Cell.setSlot] using h.2.2.1, fun i => ?_⟩
  by_cases e : k = i
  · subst e; rw [Cell.slots_setSlot_self v hk, if_pos (by omega), hv]
  · rw [Cell.slots_setSlot_ne v e, h.2.2.2 i]
    by_cases q : lo ≤ i ∧ i < k
    · rw [if_pos q, if_pos (by omega)]
    · rw [if_neg q, if_neg (by omega)]
def U16 : String := "java/lang/StringUTF16"
namespace Cmp5
def yN : MethodName := ⟨"java/lang/StringUTF16", "compress", "([CI[BII)I"⟩
abbrev yB : ByteArray := jdk_52_method_21_code
theorem d0 : decode yB 0 = .ok (.iconst 0, 1) := by decide +kernel
theorem d1 : decode yB 1 = .ok (.istore 5, 2) := by decide +kernel
theorem d3 : decode yB 3 = .ok (.iload 5, 2) := by decide +kernel
theorem d5 : decode yB 5 = .ok (.iload 4, 2) := by decide +kernel
theorem d7 : decode yB 7 = .ok (.if_icmp (.ge) 37, 3) := by decide +kernel
theorem d10 : decode yB 10 = .ok (.aload_n 0, 1) := by decide +kernel
theorem d11 : decode yB 11 = .ok (.iload_n 1, 1) := by decide +kernel
theorem d12 : decode yB 12 = .ok (.caload, 1) := by decide +kernel
theorem d13 : decode yB 13 = .ok (.istore 6, 2) := by decide +kernel
theorem d15 : decode yB 15 = .ok (.iload 6, 2) := by decide +kernel
theorem d17 : decode yB 17 = .ok (.sipush 255, 3) := by decide +kernel
theorem d20 : decode yB 20 = .ok (.if_icmp (.le) 6, 3) := by decide +kernel
theorem d26 : decode yB 26 = .ok (.aload_n 2, 1) := by decide +kernel
theorem d27 : decode yB 27 = .ok (.iload_n 3, 1) := by decide +kernel
theorem d28 : decode yB 28 = .ok (.iload 6, 2) := by decide +kernel
theorem d30 : decode yB 30 = .ok (.i2b, 1) := by decide +kernel
theorem d31 : decode yB 31 = .ok (.bastore, 1) := by decide +kernel
theorem d32 : decode yB 32 = .ok (.iinc 1 1, 3) := by decide +kernel
theorem d35 : decode yB 35 = .ok (.iinc 3 1, 3) := by decide +kernel
theorem d38 : decode yB 38 = .ok (.iinc 5 1, 3) := by decide +kernel
theorem d41 : decode yB 41 = .ok (.goto (-38), 3) := by decide +kernel
theorem d44 : decode yB 44 = .ok (.iload 4, 2) := by decide +kernel
theorem d46 : decode yB 46 = .ok (.ireturn, 1) := by decide +kernel
def site : List Cond := []
def tab : Cond := tabOf yN yB 7 (some .int) site
def P (b : Addr) (A : Cell) (d : Addr) (B : Cell) (o q len : Nat) (args : Array Value) (s : State) : Prop := args = #[.ref b, .int (Int32.ofNat o), .ref d, .int (Int32.ofNat q), .int (Int32.ofNat len)] ∧ Ch b A s ∧ Arr .byte d B s ∧ b ≠ d ∧ o + len ≤ A.slots.size ∧ q + len ≤ B.slots.size ∧ ∀ i, i < len → ¬ 255 < cv A (o + i)
def E (b : Addr) (A : Cell) (d : Addr) (B : Cell) (o q len : Nat) (r : Option Value) (s u : State) : Prop := r = some (.int (Int32.ofNat len)) ∧ ∃ B', Put d B' s u ∧ Laid B B' q (q + len) (fun j => Value.int (lo8 (cv A (o + (j - q)))))
/-- no char of the range above 255: len; the places written hold each char's low byte -/
theorem law (l : Launch) (b : Addr) (A : Cell) (d : Addr) (B : Cell) (o q len : Nat) : Law l yN 5 5 0 0 yB 7 (some .int) site (P b A d B o q len) (E b A d B o q len) (copyLocs d q len) 0 0 := by
  refine Law.of_walk (plainFor_of_name (by decide +kernel)) (by decide +kernel) (by decide +kernel) (by decide) (fun _ _ h => by rw [h.1]; rfl) (fun _ U U' hal hh h => ⟨h.1, h.2.1.mv hal hh, h.2.2.1.mv hal hh, h.2.2.2⟩) (fun r U U' V V' h1 hal h2 h => ⟨h.1, h.2.elim fun B' q => ⟨B', q.1.mv h1 h2, q.2⟩⟩) ?_
  intro p e s m args below meth c s₁ X0 hexec hbytes hml hret hlk hnm hown hh0 W hP
  obtain ⟨rfl, hA, hB, hne, l1, l2, hp⟩ := hP
  have c1 : Steps p.tables e below (s₁.setTop (entryFrame m #[.ref b, .int (Int32.ofNat o), .ref d, .int (Int32.ofNat q), .int (Int32.ofNat len)] 7)) (s₁.setTop (mkF m 0 #[.val (.ref b), .val (.int (Int32.ofNat o)), .val (.ref d), .val (.int (Int32.ofNat q)), .val (.int (Int32.ofNat len)), .unset, .unset] [])) := entry rfl
  have hA0 := hA.1.mv X0.warmed.alike hh0
  have hB0 := hB.mv X0.warmed.alike hh0
  have a31 := hA.1.2.2.2
  have c2 : Steps p.tables e below (s₁.setTop (entryFrame m #[.ref b, .int (Int32.ofNat o), .ref d, .int (Int32.ofNat q), .int (Int32.ofNat len)] 7)) (s₁.setTop (mkF m 3 #[.val (.ref b), .val (.int (Int32.ofNat o)), .val (.ref d), .val (.int (Int32.ofNat q)), .val (.int (Int32.ofNat len)), .val (.int 0), .unset] [])) := c1.trans (by
    refine iconstV X0.here hexec rfl 0 (hb hbytes d0) (by decide) ?_
    refine XS.istore X0.here hexec rfl (hb hbytes d1) rfl rfl ?_
    exact Steps.refl _)
  have loop : ∀ (r i : Nat), i + r = len → ∀ (z : Slot), (z = .unset ∨ ∃ w, z = .val w ∧ w.category = 1) → ∀ (Tl : State) (Bk : Cell), Stand p l e { frames := 0, locals := 0, cells := 0, slots := 0 } s m #[.ref b, .int (Int32.ofNat o), .ref d, .int (Int32.ofNat q), .int (Int32.ofNat len)] below meth c Tl ([] ++ copyLocs d q i) 0 0 → Put d Bk s₁ Tl → Laid B Bk q (q + i) (fun j => Value.int (lo8 (cv A (o + (j - q))))) →
      Steps p.tables e below (s₁.setTop (entryFrame m #[.ref b, .int (Int32.ofNat o), .ref d, .int (Int32.ofNat q), .int (Int32.ofNat len)] 7)) (Tl.setTop (mkF m 3 #[.val (.ref b), .val (.int (Int32.ofNat (o + i))), .val (.ref d), .val (.int (Int32.ofNat (q + i))), .val (.int (Int32.ofNat len)), .val (.int (Int32.ofNat i)), z] [])) → ∃ (T' : State) (B' : Cell) (z' : Slot), Stand p l e { frames := 0, locals := 0, cells := 0, slots := 0 } s m #[.ref b, .int (Int32.ofNat o), .ref d, .int (Int32.ofNat q), .int (Int32.ofNat len)] below meth c T' ([] ++ copyLocs d q len) 0 0 ∧ Put d B' s₁ T' ∧ Laid B B' q (q + len) (fun j => Value.int (lo8 (cv A (o + (j - q))))) ∧
      Steps p.tables e below (s₁.setTop (entryFrame m #[.ref b, .int (Int32.ofNat o), .ref d, .int (Int32.ofNat q), .int (Int32.ofNat len)] 7)) (T'.setTop (mkF m 3 #[.val (.ref b), .val (.int (Int32.ofNat (o + len))), .val (.ref d), .val (.int (Int32.ofNat (q + len))), .val (.int (Int32.ofNat len)), .val (.int (Int32.ofNat len)), z'] [])) := by
    intro r
    induction r with
    | zero =>
      intro i hi z hz Tl Bk Xl pl fl cl
      have hil : i = len := by omega
      rw [hil] at Xl fl cl
      exact ⟨Tl, Bk, z, Xl, pl, fl, cl⟩
    | succ r ih =>
      intro i hi z hz Tl Bk Xl pl fl cl
      have all := X0.warmed.alike.symm.trans Xl.warmed.alike
      have hAl := hA0.keep all (pl.other hne hA0.1)
      have hBk := hB0.like all pl.1 fl.1 fl.2.1 fl.2.2.1
      have hlt : q + i < Bk.slots.size := by rw [fl.2.2.1]; omega
      have c3 : Steps p.tables e below (s₁.setTop (entryFrame m #[.ref b, .int (Int32.ofNat o), .ref d, .int (Int32.ofNat q), .int (Int32.ofNat len)] 7)) (Tl.setTop (mkF m 12 #[.val (.ref b), .val (.int (Int32.ofNat (o + i))), .val (.ref d), .val (.int (Int32.ofNat (q + i))), .val (.int (Int32.ofNat len)), .val (.int (Int32.ofNat i)), z] [.int (Int32.ofNat (o + i)), .ref b])) := cl.trans (by
        refine XS.iload Xl.here hexec rfl (hb hbytes d3) rfl ?_
        refine XS.iload Xl.here hexec rfl (hb hbytes d5) rfl ?_
        refine XS.icmpNo Xl.here hexec rfl (hb hbytes d7) rfl (ii_ge_f (lt32 (by omega) (by omega))) ?_
        refine XS.aloadN Xl.here hexec rfl (hb hbytes d10) rfl rfl ?_
        refine XS.iloadN Xl.here hexec rfl (hb hbytes d11) rfl ?_
        exact Steps.refl _)
      have c4 : Steps p.tables e below (s₁.setTop (entryFrame m #[.ref b, .int (Int32.ofNat o), .ref d, .int (Int32.ofNat q), .int (Int32.ofNat len)] 7)) (Tl.setTop (mkF m 13 #[.val (.ref b), .val (.int (Int32.ofNat (o + i))), .val (.ref d), .val (.int (Int32.ofNat (q + i))), .val (.int (Int32.ofNat len)), .val (.int (Int32.ofNat i)), z] [.int (cv A (o + i))])) := c3.trans (by
        refine Xl.aget hexec hAl rfl (hA.get (i := o + i) (by omega)) rfl rfl (hb hbytes d12) ?_
        exact Steps.refl _)
      have c5 : Steps p.tables e below (s₁.setTop (entryFrame m #[.ref b, .int (Int32.ofNat o), .ref d, .int (Int32.ofNat q), .int (Int32.ofNat len)] 7)) (Tl.setTop (mkF m 15 #[.val (.ref b), .val (.int (Int32.ofNat (o + i))), .val (.ref d), .val (.int (Int32.ofNat (q + i))), .val (.int (Int32.ofNat len)), .val (.int (Int32.ofNat i)), .val (.int (cv A (o + i)))] [])) := c4.trans (by
        refine XS.istoreS Xl.here hexec rfl (hb hbytes d13) rfl rfl hz ?_
        exact Steps.refl _)
      have c6 : Steps p.tables e below (s₁.setTop (entryFrame m #[.ref b, .int (Int32.ofNat o), .ref d, .int (Int32.ofNat q), .int (Int32.ofNat len)] 7)) (Tl.setTop (mkF m 31 #[.val (.ref b), .val (.int (Int32.ofNat (o + i))), .val (.ref d), .val (.int (Int32.ofNat (q + i))), .val (.int (Int32.ofNat len)), .val (.int (Int32.ofNat i)), .val (.int (cv A (o + i)))] [.int (lo8 (cv A (o + i))), .int (Int32.ofNat (q + i)), .ref d])) := c5.trans (by
        refine XS.iload Xl.here hexec rfl (hb hbytes d15) rfl ?_
        refine sipushV Xl.here hexec rfl 255 (hb hbytes d17) (by decide) ?_
        refine XS.icmpYes Xl.here hexec rfl (pc0 := 20) rfl (hb hbytes d20) rfl (ii_le_t (hp i (by omega))) (by decide) rfl ?_
        refine XS.aloadN Xl.here hexec rfl (hb hbytes d26) rfl rfl ?_
        refine XS.iloadN Xl.here hexec rfl (hb hbytes d27) rfl ?_
        refine XS.iload Xl.here hexec rfl (hb hbytes d28) rfl ?_
        refine i2b Xl.here hexec rfl (hb hbytes d30) rfl ?_
        exact Steps.refl _)
      obtain ⟨T7, X7, p7, st7⟩ := Xl.aput hexec hBk rfl hlt rfl (fits_lo8 (cv A (o + i))) (g := (mkF m 31 #[.val (.ref b), .val (.int (Int32.ofNat (o + i))), .val (.ref d), .val (.int (Int32.ofNat (q + i))), .val (.int (Int32.ofNat len)), .val (.int (Int32.ofNat i)), .val (.int (cv A (o + i)))] [.int (lo8 (cv A (o + i))), .int (Int32.ofNat (q + i)), .ref d])) rfl (rest := []) rfl (hb hbytes d31)
      have c8 : Steps p.tables e below (s₁.setTop (entryFrame m #[.ref b, .int (Int32.ofNat o), .ref d, .int (Int32.ofNat q), .int (Int32.ofNat len)] 7)) (T7.setTop (mkF m 32 #[.val (.ref b), .val (.int (Int32.ofNat (o + i))), .val (.ref d), .val (.int (Int32.ofNat (q + i))), .val (.int (Int32.ofNat len)), .val (.int (Int32.ofNat i)), .val (.int (cv A (o + i)))] [])) := c6.trans (st7 _ (Steps.refl _))
      have c9 : Steps p.tables e below (s₁.setTop (entryFrame m #[.ref b, .int (Int32.ofNat o), .ref d, .int (Int32.ofNat q), .int (Int32.ofNat len)] 7)) (T7.setTop (mkF m 3 #[.val (.ref b), .val (.int (Int32.ofNat (o + i) + 1)), .val (.ref d), .val (.int (Int32.ofNat (q + i) + 1)), .val (.int (Int32.ofNat len)), .val (.int (Int32.ofNat i + 1)), .val (.int (cv A (o + i)))] [])) := c8.trans (by
        refine iincV X7.here hexec rfl 1 (hb hbytes d32) (by decide) rfl rfl ?_
        refine iincV X7.here hexec rfl 1 (hb hbytes d35) (by decide) rfl rfl ?_
        refine iincV X7.here hexec rfl 1 (hb hbytes d38) (by decide) rfl rfl ?_
        refine XS.goto X7.here hexec rfl (pc0 := 41) rfl (hb hbytes d41) (by decide) rfl ?_
        exact Steps.refl _)
      have c10 : Steps p.tables e below (s₁.setTop (entryFrame m #[.ref b, .int (Int32.ofNat o), .ref d, .int (Int32.ofNat q), .int (Int32.ofNat len)] 7)) (T7.setTop (mkF m 3 #[.val (.ref b), .val (.int (Int32.ofNat (o + (i + 1)))), .val (.ref d), .val (.int (Int32.ofNat (q + (i + 1)))), .val (.int (Int32.ofNat len)), .val (.int (Int32.ofNat (i + 1))), .val (.int (cv A (o + i)))] [])) := by
        have := c9
        rw [succ32, succ32, succ32] at this
        exact this
      exact ih (i + 1) (by omega) _ (Or.inr ⟨_, rfl, rfl⟩) T7 _ (by rw [copyLocs_step, ← List.append_assoc]; exact X7) (pl.trans p7) (fl.step (by omega) hlt (by simp)) c10
  obtain ⟨T9, B9, z9, X9, p9, f9, g9⟩ := loop len 0 (by omega) .unset (Or.inl rfl) s₁ B (by simpa [copyLocs] using X0) ⟨hB0.1, fun _ _ => rfl, rfl⟩ (Laid.zero _ _ _) c2
  have c11 : Steps p.tables e below (s₁.setTop (entryFrame m #[.ref b, .int (Int32.ofNat o), .ref d, .int (Int32.ofNat q), .int (Int32.ofNat len)] 7)) (T9.setTop (mkF m 46 #[.val (.ref b), .val (.int (Int32.ofNat (o + len))), .val (.ref d), .val (.int (Int32.ofNat (q + len))), .val (.int (Int32.ofNat len)), .val (.int (Int32.ofNat len)), z9] [.int (Int32.ofNat len)])) := g9.trans (by
    refine XS.iload X9.here hexec rfl (hb hbytes d3) rfl ?_
    refine XS.iload X9.here hexec rfl (hb hbytes d5) rfl ?_
    refine XS.icmpYes X9.here hexec rfl (pc0 := 7) rfl (hb hbytes d7) rfl (ii_ge_t (nlt32 (by omega) (Nat.le_refl _))) (by decide) rfl ?_
    refine XS.iload X9.here hexec rfl (hb hbytes d44) rfl ?_
    exact Steps.refl _)
  exact ⟨T9, some (.int (Int32.ofNat len)), _, _, _, X9, by simp, rfl, rfl, (fun h => by cases h), ⟨rfl, B9, p9.from hh0, f9⟩, fun fs hl => c11.trans (X9.ireturnOut hexec hret rfl (Or.inl rfl) (hb hbytes d46) hl)⟩
end Cmp5
namespace Cmp3
def yN : MethodName := ⟨"java/lang/StringUTF16", "compress", "([CII)[B"⟩
abbrev yB : ByteArray := jdk_52_method_16_code
theorem d0 : decode yB 0 = .ok (.iload_n 2, 1) := by decide +kernel
theorem d1 : decode yB 1 = .ok (.newarray .byte, 2) := by decide +kernel
theorem d3 : decode yB 3 = .ok (.astore_n 3, 1) := by decide +kernel
theorem d4 : decode yB 4 = .ok (.aload_n 0, 1) := by decide +kernel
theorem d5 : decode yB 5 = .ok (.iload_n 1, 1) := by decide +kernel
theorem d6 : decode yB 6 = .ok (.aload_n 3, 1) := by decide +kernel
theorem d7 : decode yB 7 = .ok (.iconst 0, 1) := by decide +kernel
theorem d8 : decode yB 8 = .ok (.iload_n 2, 1) := by decide +kernel
theorem d9 : decode yB 9 = .ok (.invokestatic 115, 3) := by decide +kernel
theorem d12 : decode yB 12 = .ok (.istore 4, 2) := by decide +kernel
theorem d14 : decode yB 14 = .ok (.iload 4, 2) := by decide +kernel
theorem d16 : decode yB 16 = .ok (.iload_n 2, 1) := by decide +kernel
theorem d17 : decode yB 17 = .ok (.if_icmp (.eq) 40, 3) := by decide +kernel
theorem d57 : decode yB 57 = .ok (.aload_n 3, 1) := by decide +kernel
theorem d58 : decode yB 58 = .ok (.areturn, 1) := by decide +kernel
def site : List Cond := [.arrayClass .byte, Cmp5.tab] ++ staticW U16 115 Cmp5.yN
def tab : Cond := tabOf yN yB 6 (some (.array .byte)) site
def P (b : Addr) (A : Cell) (o len : Nat) (args : Array Value) (s : State) : Prop := args = #[.ref b, .int (Int32.ofNat o), .int (Int32.ofNat len)] ∧ Ch b A s ∧ o + len ≤ A.slots.size ∧ len ≤ 536870912 ∧ ∀ i, i < len → ¬ 255 < cv A (o + i)
def E (b : Addr) (A : Cell) (o len : Nat) (r : Option Value) (s u : State) : Prop := NewArr .byte "[B" len (fun j => .int (lo8 (cv A (o + j)))) r s u ∧ u.heap.size = s.heap.size + 1
/-- no char of the range above 255: a new byte[] of their low bytes -/
theorem law (l : Launch) (b : Addr) (A : Cell) (o len : Nat) : Law l yN 3 3 1 18 yB 6 (some (.array .byte)) site (P b A o len) (E b A o len) [] 1 len := by
  refine Law.of_walk (plainFor_of_name (by decide +kernel)) (by decide +kernel) (by decide +kernel) (by decide) (fun _ _ h => by rw [h.1]; rfl) (fun _ U U' hal hh h => ⟨h.1, h.2.1.mv hal hh, h.2.2⟩) (fun r U U' V V' h1 hal h2 h => ⟨NewArr.mv r U U' V V' h1 hal h2 h.1, by rw [h1, h2]; exact h.2⟩) ?_
  intro p e s m args below meth c s₁ X0 hexec hbytes hml hret hlk hnm hown hh0 W hP
  obtain ⟨rfl, hA, l1, l2, hp⟩ := hP
  have a31 := hA.1.2.2.2
  have c1 : Steps p.tables e below (s₁.setTop (entryFrame m #[.ref b, .int (Int32.ofNat o), .int (Int32.ofNat len)] 6)) (s₁.setTop (mkF m 0 #[.val (.ref b), .val (.int (Int32.ofNat o)), .val (.int (Int32.ofNat len)), .unset, .unset, .unset] [])) := entry rfl
  have c2 : Steps p.tables e below (s₁.setTop (entryFrame m #[.ref b, .int (Int32.ofNat o), .int (Int32.ofNat len)] 6)) (s₁.setTop (mkF m 1 #[.val (.ref b), .val (.int (Int32.ofNat o)), .val (.int (Int32.ofNat len)), .unset, .unset, .unset] [.int (Int32.ofNat len)])) := c1.trans (by
    refine XS.iloadN X0.here hexec rfl (hb hbytes d0) rfl ?_
    exact Steps.refl _)
  obtain ⟨T3, B3, X3, ba3, bs3, bv3, bh3, bf3, st3⟩ := X0.anew hexec (atype := .byte) (wk W (.arrayClass .byte)) rfl (by show len * 1 ≤ _; omega) (by omega) (g := (mkF m 1 #[.val (.ref b), .val (.int (Int32.ofNat o)), .val (.int (Int32.ofNat len)), .unset, .unset, .unset] [.int (Int32.ofNat len)])) rfl (hb hbytes d1) (rest := []) rfl (Nat.le_refl _) (by show 0 + len ≤ len; omega)
  rw [hh0] at ba3 st3
  have kp3 : XT.Kept s T3 := (XT.Kept.of_eq hh0).push bh3
  have hA3 := hA.keep X3.warmed.alike (kp3 _ _ hA.1.1)
  have hne : b ≠ s.heap.size := hA.1.ne
  have c4 : Steps p.tables e below (s₁.setTop (entryFrame m #[.ref b, .int (Int32.ofNat o), .int (Int32.ofNat len)] 6)) (T3.setTop (mkF m 3 #[.val (.ref b), .val (.int (Int32.ofNat o)), .val (.int (Int32.ofNat len)), .unset, .unset, .unset] [.ref s.heap.size])) := c2.trans (st3 _ (Steps.refl _))
  have c5 : Steps p.tables e below (s₁.setTop (entryFrame m #[.ref b, .int (Int32.ofNat o), .int (Int32.ofNat len)] 6)) (T3.setTop (mkF m 9 #[.val (.ref b), .val (.int (Int32.ofNat o)), .val (.int (Int32.ofNat len)), .val (.ref s.heap.size), .unset, .unset] [.int (Int32.ofNat len), .int 0, .ref s.heap.size, .int (Int32.ofNat o), .ref b])) := c4.trans (by
    refine XS.astoreN X3.here hexec rfl (hb hbytes d3) rfl rfl rfl ?_
    refine XS.aloadN X3.here hexec rfl (hb hbytes d4) rfl rfl ?_
    refine XS.iloadN X3.here hexec rfl (hb hbytes d5) rfl ?_
    refine XS.aloadN X3.here hexec rfl (hb hbytes d6) rfl rfl ?_
    refine iconstV X3.here hexec rfl 0 (hb hbytes d7) (by decide) ?_
    refine XS.iloadN X3.here hexec rfl (hb hbytes d8) rfl ?_
    exact Steps.refl _)
  obtain ⟨v6, T6, X6, E6, g6⟩ := X3.callS hexec (Cmp5.law l b A s.heap.size B3 o 0 len) hown (wks W (staticW U16 115 Cmp5.yN)) (wk W Cmp5.tab) (W := 0) (Nat.le_of_ble_eq_true rfl) (Nat.le_of_ble_eq_true rfl) (Nat.le_refl _) (by show 0 + len + 0 ≤ len; omega) (g := (mkF m 9 #[.val (.ref b), .val (.int (Int32.ofNat o)), .val (.int (Int32.ofNat len)), .val (.ref s.heap.size), .unset, .unset] [.int (Int32.ofNat len), .int (Int32.ofNat 0), .ref s.heap.size, .int (Int32.ofNat o), .ref b])) rfl (by rw [hml]; rfl) c5 (argsL := [.ref b, .int (Int32.ofNat o), .ref s.heap.size, .int (Int32.ofNat 0), .int (Int32.ofNat len)]) (rest := []) rfl rfl (by show 2 * 0 + 0 ≤ _; decide) (hb hbytes d9) (⟨rfl, hA3, ba3, hne, l1, by rw [bs3]; simp, hp⟩)
  obtain ⟨rfl, B6, p6, f6⟩ := E6
  have c7 : Steps p.tables e below (s₁.setTop (entryFrame m #[.ref b, .int (Int32.ofNat o), .int (Int32.ofNat len)] 6)) (T6.setTop (mkF m 12 #[.val (.ref b), .val (.int (Int32.ofNat o)), .val (.int (Int32.ofNat len)), .val (.ref s.heap.size), .unset, .unset] [.int (Int32.ofNat len)])) := g6
  have c8 : Steps p.tables e below (s₁.setTop (entryFrame m #[.ref b, .int (Int32.ofNat o), .int (Int32.ofNat len)] 6)) (T6.setTop (mkF m 58 #[.val (.ref b), .val (.int (Int32.ofNat o)), .val (.int (Int32.ofNat len)), .val (.ref s.heap.size), .val (.int (Int32.ofNat len)), .unset] [.ref s.heap.size])) := c7.trans (by
    refine XS.istore X6.here hexec rfl (hb hbytes d12) rfl rfl ?_
    refine XS.iload X6.here hexec rfl (hb hbytes d14) rfl ?_
    refine XS.iloadN X6.here hexec rfl (hb hbytes d16) rfl ?_
    refine XS.icmpYes X6.here hexec rfl (pc0 := 17) rfl (hb hbytes d17) rfl (ii_eq_t rfl) (by decide) rfl ?_
    refine XS.aloadN X6.here hexec rfl (hb hbytes d57) rfl rfl ?_
    exact Steps.refl _)
  have X8 := X6.wide (L' := []) (cells' := 1) (slots' := len) (fun x hx hlt => by
    simp only [List.nil_append, copyLocs, List.mem_map, List.mem_range] at hx
    obtain ⟨i, -, rfl⟩ := hx
    exact absurd hlt (Nat.lt_irrefl _)) (Nat.le_refl _) (by omega)
  exact ⟨T6, some (.ref s.heap.size), _, _, _, X8, rfl, rfl, rfl, (fun h => by cases h), ⟨⟨rfl, B6, ba3.like (X3.warmed.alike.symm.trans X6.warmed.alike) p6.1 f6.1 f6.2.1 f6.2.2.1, f6.2.1.trans bv3, by rw [X6.warmed.alike.findClass, f6.1]; exact bf3, by rw [f6.2.2.1, bs3]; simp, fun j hj => by rw [f6.2.2.2 j, if_pos (by omega)]; rfl, kp3.put p6 (Nat.le_refl _)⟩, by rw [p6.2.2, bh3, hh0]; simp⟩, fun fs hl => c8.trans (X8.areturnOut hexec rfl hret rfl (hb hbytes d58) hl)⟩
end Cmp3
namespace CodL
def yN : MethodName := ⟨"java/lang/StringUTF16", "coderFromArrayLen", "([BI)B"⟩
abbrev yB : ByteArray := jdk_52_method_15_code
theorem d0 : decode yB 0 = .ok (.iload_n 1, 1) := by decide +kernel
theorem d1 : decode yB 1 = .ok (.aload_n 0, 1) := by decide +kernel
theorem d2 : decode yB 2 = .ok (.arraylength, 1) := by decide +kernel
theorem d3 : decode yB 3 = .ok (.isub, 1) := by decide +kernel
theorem d4 : decode yB 4 = .ok (.bipush 31, 2) := by decide +kernel
theorem d6 : decode yB 6 = .ok (.iushr, 1) := by decide +kernel
theorem d7 : decode yB 7 = .ok (.i2b, 1) := by decide +kernel
theorem d8 : decode yB 8 = .ok (.ireturn, 1) := by decide +kernel
def site : List Cond := []
def tab : Cond := tabOf yN yB 2 (some .byte) site
def P (d : Addr) (B : Cell) (args : Array Value) (s : State) : Prop := args = #[.ref d, .int (Int32.ofNat B.slots.size)] ∧ Arr .byte d B s
def E (r : Option Value) (s u : State) : Prop := XT.PureE (some (.int 0)) r s u
/-- an array as long as the number of chars: LATIN1 -/
theorem law (l : Launch) (d : Addr) (B : Cell) : Law l yN 2 2 0 0 yB 2 (some .byte) site (P d B) E [] 0 0 := by
  refine Law.of_walk (plainFor_of_name (by decide +kernel)) (by decide +kernel) (by decide +kernel) (by decide) (fun _ _ h => by rw [h.1]; rfl) (fun _ U U' hal hh h => ⟨h.1, h.2.mv hal hh⟩) (fun r U U' V V' h1 hal h2 h => XT.PureE.mv r U U' V V' h1 hal h2 h) ?_
  intro p e s m args below meth c s₁ X0 hexec hbytes hml hret hlk hnm hown hh0 W hP
  obtain ⟨rfl, hB⟩ := hP
  have hB0 := hB.mv X0.warmed.alike hh0
  have c1 : Steps p.tables e below (s₁.setTop (entryFrame m #[.ref d, .int (Int32.ofNat B.slots.size)] 2)) (s₁.setTop (mkF m 0 #[.val (.ref d), .val (.int (Int32.ofNat B.slots.size))] [])) := entry rfl
  have c2 : Steps p.tables e below (s₁.setTop (entryFrame m #[.ref d, .int (Int32.ofNat B.slots.size)] 2)) (s₁.setTop (mkF m 2 #[.val (.ref d), .val (.int (Int32.ofNat B.slots.size))] [.ref d, .int (Int32.ofNat B.slots.size)])) := c1.trans (by
    refine XS.iloadN X0.here hexec rfl (hb hbytes d0) rfl ?_
    refine XS.aloadN X0.here hexec rfl (hb hbytes d1) rfl rfl ?_
    exact Steps.refl _)
  have c3 : Steps p.tables e below (s₁.setTop (entryFrame m #[.ref d, .int (Int32.ofNat B.slots.size)] 2)) (s₁.setTop (mkF m 8 #[.val (.ref d), .val (.int (Int32.ofNat B.slots.size))] [.int (lo8 (ushr (Int32.ofNat B.slots.size - Int32.ofNat B.slots.size) 31))])) := c2.trans (by
    refine X0.alen hexec hB0 rfl rfl (hb hbytes d2) ?_
    refine XS.isub X0.here hexec rfl (hb hbytes d3) rfl ?_
    refine bipushV X0.here hexec rfl 31 (hb hbytes d4) (by decide) ?_
    refine iushr X0.here hexec rfl (hb hbytes d6) rfl ?_
    refine i2b X0.here hexec rfl (hb hbytes d7) rfl ?_
    exact Steps.refl _)
  have e0 : lo8 (ushr (Int32.ofNat B.slots.size - Int32.ofNat B.slots.size) 31) = 0 := by rw [Int32.sub_self]; decide
  rw [e0] at c3
  exact ⟨s₁, some (.int 0), _, _, _, X0, rfl, rfl, rfl, (fun h => by cases h), ⟨rfl, hh0⟩, fun fs hl => c3.trans (X0.ireturnOut hexec hret rfl (Or.inr (Or.inr (Or.inl rfl))) (hb hbytes d8) hl)⟩
end CodL
/-- the String at a is Latin-1 over a new byte[] (the heap's one new cell): the low bytes of the len chars of A from o on; every cell but a is kept -/
def Got (a : Addr) (D : Cell) (fV fC : Field) (A : Cell) (o len : Nat) (r : Option Value) (s u : State) : Prop := r = none ∧ ∃ D' V : Cell, Blank "java/lang/String" a D' u ∧ Same D D' [fV.slot, fC.slot] ∧ D'.slots[fV.slot]? = some (.ref s.heap.size) ∧ D'.slots[fC.slot]? = some (.int 0) ∧ Arr .byte s.heap.size V u ∧ V.vm = .none ∧ u.vm.findClass "[B" = some V.cls ∧ V.slots.size = len ∧ (∀ j, j < len → V.slots[j]? = some (.int (lo8 (cv A (o + j))))) ∧ (∀ (y : Addr) (c : Cell), y ≠ a → s.heap[y]? = some c → u.heap[y]? = some c) ∧ u.heap.size = s.heap.size + 1
theorem Got.mv {a : Addr} {D A : Cell} {fV fC : Field} {o len : Nat} : ∀ r (U U' V V' : State), U'.heap = U.heap → V.vm.Alike V'.vm → V'.heap = V.heap → Got a D fV fC A o len r U V → Got a D fV fC A o len r U' V' :=
  fun r U U' V V' h1 hal h2 ⟨e0, D', X, a1, a2, a3, a4, a5, a6, a7, a8, a9, a10, a11⟩ => ⟨e0, D', X, a1.mv hal h2, a2, by rw [h1]; exact a3, a4, by rw [h1]; exact a5.mv hal h2, a6, by rw [hal.findClass]; exact a7, a8, a9, by rw [h1, h2]; exact a10, by rw [h1, h2]; exact a11⟩
namespace New4
def yN : MethodName := ⟨"java/lang/String", "<init>", "([CIILjava/lang/Void;)V"⟩
abbrev yB : ByteArray := jdk_42_method_149_code
theorem d0 : decode yB 0 = .ok (.aload_n 0, 1) := by decide +kernel
theorem d1 : decode yB 1 = .ok (.invokespecial 1, 3) := by decide +kernel
theorem d4 : decode yB 4 = .ok (.iload_n 3, 1) := by decide +kernel
theorem d5 : decode yB 5 = .ok (.ifCond (.ne) 22, 3) := by decide +kernel
theorem d27 : decode yB 27 = .ok (.getstatic 38, 3) := by decide +kernel
theorem d30 : decode yB 30 = .ok (.ifCond (.eq) 28, 3) := by decide +kernel
theorem d33 : decode yB 33 = .ok (.aload_n 1, 1) := by decide +kernel
theorem d34 : decode yB 34 = .ok (.iload_n 2, 1) := by decide +kernel
theorem d35 : decode yB 35 = .ok (.iload_n 3, 1) := by decide +kernel
theorem d36 : decode yB 36 = .ok (.invokestatic 177, 3) := by decide +kernel
theorem d39 : decode yB 39 = .ok (.astore 5, 2) := by decide +kernel
theorem d41 : decode yB 41 = .ok (.aload_n 0, 1) := by decide +kernel
theorem d42 : decode yB 42 = .ok (.aload 5, 2) := by decide +kernel
theorem d44 : decode yB 44 = .ok (.iload_n 3, 1) := by decide +kernel
theorem d45 : decode yB 45 = .ok (.invokestatic 47, 3) := by decide +kernel
theorem d48 : decode yB 48 = .ok (.putfield 15, 3) := by decide +kernel
theorem d51 : decode yB 51 = .ok (.aload_n 0, 1) := by decide +kernel
theorem d52 : decode yB 52 = .ok (.aload 5, 2) := by decide +kernel
theorem d54 : decode yB 54 = .ok (.putfield 9, 3) := by decide +kernel
theorem d57 : decode yB 57 = .ok (.return_, 1) := by decide +kernel
def site : List Cond := [.fieldLink "java/lang/String" 38 "java/lang/String" "COMPACT_STRINGS" "Z", Cmp3.tab, CodL.tab, .laysFinal "java/lang/String" "java/lang/String" "value" "[B", .fieldLink "java/lang/String" 9 "java/lang/String" "value" "[B", .laysFinal "java/lang/String" "java/lang/String" "coder" "B", .fieldLink "java/lang/String" 15 "java/lang/String" "coder" "B"] ++ objW "java/lang/String" 1 ++ staticW "java/lang/String" 177 Cmp3.yN ++ staticW "java/lang/String" 47 CodL.yN
def tab : Cond := tabOf yN yB 6 none site
def P (a : Addr) (D : Cell) (fV fC : Field) (b : Addr) (A : Cell) (z : Int32) (o len : Nat) (args : Array Value) (s : State) : Prop := args = #[.ref a, .ref b, .int (Int32.ofNat o), .int (Int32.ofNat len), .null] ∧ Blank "java/lang/String" a D s ∧ Found "java/lang/String" "value" "[B" fV s ∧ Found "java/lang/String" "coder" "B" fC s ∧ Ch b A s ∧ StaticIs s "java/lang/String" "COMPACT_STRINGS" "Z" (.int z) ∧ ¬ z = 0 ∧ 0 < len ∧ o + len ≤ A.slots.size ∧ len ≤ 536870912 ∧ ∀ i, i < len → ¬ 255 < cv A (o + i)
def E (a : Addr) (D : Cell) (fV fC : Field) (A : Cell) (o len : Nat) (r : Option Value) (s u : State) : Prop := Got a D fV fC A o len r s u
/-- len > 0, no char of the range above 255: a Latin-1 String of their low bytes -/
theorem law (l : Launch) (a : Addr) (D : Cell) (fV fC : Field) (b : Addr) (A : Cell) (z : Int32) (o len : Nat) : Law l yN 5 4 2 35 yB 6 none site (P a D fV fC b A z o len) (E a D fV fC A o len) [⟨a, fC.slot⟩, ⟨a, fV.slot⟩] 1 len := by
  refine Law.of_walk (plainFor_of_name (by decide +kernel)) (by decide +kernel) (by decide +kernel) (by decide) (fun _ _ h => by rw [h.1]; rfl) (fun _ U U' hal hh h => ⟨h.1, h.2.1.mv hal hh, h.2.2.1.al hal, h.2.2.2.1.al hal, h.2.2.2.2.1.mv hal hh, h.2.2.2.2.2.1.there hal hh, h.2.2.2.2.2.2⟩) (fun r U U' V V' h1 hal h2 h => Got.mv r U U' V V' h1 hal h2 h) ?_
  intro p e s m args below meth c s₁ X0 hexec hbytes hml hret hlk hnm hown hh0 W hP
  obtain ⟨rfl, hB, f1, f2, hA, s1, hz, l0, l1, l2, hp⟩ := hP
  have a31 := hA.1.2.2.2
  have c1 : Steps p.tables e below (s₁.setTop (entryFrame m #[.ref a, .ref b, .int (Int32.ofNat o), .int (Int32.ofNat len), .null] 6)) (s₁.setTop (mkF m 0 #[.val (.ref a), .val (.ref b), .val (.int (Int32.ofNat o)), .val (.int (Int32.ofNat len)), .val .null, .unset] [])) := entry rfl
  have c2 : Steps p.tables e below (s₁.setTop (entryFrame m #[.ref a, .ref b, .int (Int32.ofNat o), .int (Int32.ofNat len), .null] 6)) (s₁.setTop (mkF m 1 #[.val (.ref a), .val (.ref b), .val (.int (Int32.ofNat o)), .val (.int (Int32.ofNat len)), .val .null, .unset] [.ref a])) := c1.trans (by
    refine XS.aloadN X0.here hexec rfl (hb hbytes d0) rfl rfl ?_
    exact Steps.refl _)
  obtain ⟨T3, X3, q3, st3⟩ := X0.oinit hexec hown (wks W (objW "java/lang/String" 1)) (g := (mkF m 1 #[.val (.ref a), .val (.ref b), .val (.int (Int32.ofNat o)), .val (.int (Int32.ofNat len)), .val .null, .unset] [.ref a])) rfl (by rw [hml]; rfl) (rest := []) rfl (hb hbytes d1) (W := 0) (by show 2 * 0 + 0 ≤ _; decide) (Nat.le_of_ble_eq_true rfl) (Nat.le_of_ble_eq_true rfl)
  have hh3 := q3.trans hh0
  have c4 : Steps p.tables e below (s₁.setTop (entryFrame m #[.ref a, .ref b, .int (Int32.ofNat o), .int (Int32.ofNat len), .null] 6)) (T3.setTop (mkF m 27 #[.val (.ref a), .val (.ref b), .val (.int (Int32.ofNat o)), .val (.int (Int32.ofNat len)), .val .null, .unset] [])) := (c2.trans (st3 _ (Steps.refl _))).trans (by
    refine XS.iloadN X3.here hexec rfl (hb hbytes d4) rfl ?_
    refine XS.ifYes X3.here hexec rfl (pc0 := 5) rfl (hb hbytes d5) rfl (i0_ne_t (nz32 (by omega) l0)) (by decide) rfl ?_
    exact Steps.refl _)
  obtain ⟨T5, X5, q5, st5⟩ := X3.sget hexec hown (wk W (.fieldLink "java/lang/String" 38 "java/lang/String" "COMPACT_STRINGS" "Z")) s1 (fun _ _ h => by rw [hh3]; exact h) (g := (mkF m 27 #[.val (.ref a), .val (.ref b), .val (.int (Int32.ofNat o)), .val (.int (Int32.ofNat len)), .val .null, .unset] [])) rfl (hb hbytes d27)
  have hh5 := q5.trans hh3
  have c6 : Steps p.tables e below (s₁.setTop (entryFrame m #[.ref a, .ref b, .int (Int32.ofNat o), .int (Int32.ofNat len), .null] 6)) (T5.setTop (mkF m 30 #[.val (.ref a), .val (.ref b), .val (.int (Int32.ofNat o)), .val (.int (Int32.ofNat len)), .val .null, .unset] [.int z])) := c4.trans (st5 _ (Steps.refl _))
  have c7 : Steps p.tables e below (s₁.setTop (entryFrame m #[.ref a, .ref b, .int (Int32.ofNat o), .int (Int32.ofNat len), .null] 6)) (T5.setTop (mkF m 36 #[.val (.ref a), .val (.ref b), .val (.int (Int32.ofNat o)), .val (.int (Int32.ofNat len)), .val .null, .unset] [.int (Int32.ofNat len), .int (Int32.ofNat o), .ref b])) := c6.trans (by
    refine XS.ifNo X5.here hexec rfl (hb hbytes d30) rfl (i0_eq_f hz) ?_
    refine XS.aloadN X5.here hexec rfl (hb hbytes d33) rfl rfl ?_
    refine XS.iloadN X5.here hexec rfl (hb hbytes d34) rfl ?_
    refine XS.iloadN X5.here hexec rfl (hb hbytes d35) rfl ?_
    exact Steps.refl _)
  obtain ⟨v8, T8, X8, E8, g8⟩ := X5.callS hexec (Cmp3.law l b A o len) hown (wks W (staticW "java/lang/String" 177 Cmp3.yN)) (wk W Cmp3.tab) (W := 0) (Nat.le_of_ble_eq_true rfl) (Nat.le_of_ble_eq_true rfl) (Nat.le_refl _) (by show 0 + len ≤ len; omega) (g := (mkF m 36 #[.val (.ref a), .val (.ref b), .val (.int (Int32.ofNat o)), .val (.int (Int32.ofNat len)), .val .null, .unset] [.int (Int32.ofNat len), .int (Int32.ofNat o), .ref b])) rfl (by rw [hml]; rfl) c7 (argsL := [.ref b, .int (Int32.ofNat o), .int (Int32.ofNat len)]) (rest := []) rfl rfl (by show 2 * 0 + 0 ≤ _; decide) (hb hbytes d36) (⟨rfl, hA.mv X5.warmed.alike hh5, l1, l2, hp⟩)
  obtain ⟨e8, z8⟩ := E8
  obtain ⟨rfl, N, n1, n2, n3, n4, n5, n6⟩ := NewArr.mv _ T5 s _ _ hh5.symm (Vm.Alike.refl _) rfl e8
  rw [hh5] at z8
  have hB1 := hB.keep X8.warmed.alike (n6 _ _ hB.1)
  have hne : s.heap.size ≠ a := (Nat.ne_of_lt (Array.getElem?_eq_some_iff.mp hB.1).1).symm
  have c9 : Steps p.tables e below (s₁.setTop (entryFrame m #[.ref a, .ref b, .int (Int32.ofNat o), .int (Int32.ofNat len), .null] 6)) (T8.setTop (mkF m 39 #[.val (.ref a), .val (.ref b), .val (.int (Int32.ofNat o)), .val (.int (Int32.ofNat len)), .val .null, .unset] [.ref s.heap.size])) := g8
  have c10 : Steps p.tables e below (s₁.setTop (entryFrame m #[.ref a, .ref b, .int (Int32.ofNat o), .int (Int32.ofNat len), .null] 6)) (T8.setTop (mkF m 45 #[.val (.ref a), .val (.ref b), .val (.int (Int32.ofNat o)), .val (.int (Int32.ofNat len)), .val .null, .val (.ref s.heap.size)] [.int (Int32.ofNat N.slots.size), .ref s.heap.size, .ref a])) := by
    have hc : Steps p.tables e below (s₁.setTop (entryFrame m #[.ref a, .ref b, .int (Int32.ofNat o), .int (Int32.ofNat len), .null] 6)) (T8.setTop (mkF m 45 #[.val (.ref a), .val (.ref b), .val (.int (Int32.ofNat o)), .val (.int (Int32.ofNat len)), .val .null, .val (.ref s.heap.size)] [.int (Int32.ofNat len), .ref s.heap.size, .ref a])) := c9.trans (by
      refine XS.astore X8.here hexec rfl (hb hbytes d39) rfl rfl rfl ?_
      refine XS.aloadN X8.here hexec rfl (hb hbytes d41) rfl rfl ?_
      refine XS.aload X8.here hexec rfl (hb hbytes d42) rfl rfl ?_
      refine XS.iloadN X8.here hexec rfl (hb hbytes d44) rfl ?_
      exact Steps.refl _)
    rw [n4]; exact hc
  obtain ⟨v11, T11, X11, E11, g11⟩ := X8.callS hexec (CodL.law l s.heap.size N) hown (wks W (staticW "java/lang/String" 47 CodL.yN)) (wk W CodL.tab) (W := 1) (Nat.le_of_ble_eq_true rfl) (Nat.le_of_ble_eq_true rfl) (Nat.le_refl _) (by show 0 + len + 0 ≤ len; omega) (g := (mkF m 45 #[.val (.ref a), .val (.ref b), .val (.int (Int32.ofNat o)), .val (.int (Int32.ofNat len)), .val .null, .val (.ref s.heap.size)] [.int (Int32.ofNat N.slots.size), .ref s.heap.size, .ref a])) rfl (by rw [hml]; rfl) c10 (argsL := [.ref s.heap.size, .int (Int32.ofNat N.slots.size)]) (rest := [.ref a]) rfl rfl (by show 2 * 0 + (1 + 0) ≤ _; decide) (hb hbytes d45) (⟨rfl, n1⟩)
  obtain ⟨rfl, q11⟩ := E11
  have hB11 := hB1.mv (X8.warmed.alike.symm.trans X11.warmed.alike) q11
  have c12 : Steps p.tables e below (s₁.setTop (entryFrame m #[.ref a, .ref b, .int (Int32.ofNat o), .int (Int32.ofNat len), .null] 6)) (T11.setTop (mkF m 48 #[.val (.ref a), .val (.ref b), .val (.int (Int32.ofNat o)), .val (.int (Int32.ofNat len)), .val .null, .val (.ref s.heap.size)] [.int 0, .ref a])) := g11
  obtain ⟨T13, X13, p13, bl13, sl13, st13⟩ := X11.finit hexec hown (wk W (.fieldLink "java/lang/String" 15 "java/lang/String" "coder" "B")) (Or.inr ⟨_, (wk W (.laysFinal "java/lang/String" "java/lang/String" "coder" "B"))⟩) (Or.inl ⟨rfl, hnm⟩) f2 (Or.inl rfl) hB11 (t := .byte) (by decide +kernel) rfl (g := (mkF m 48 #[.val (.ref a), .val (.ref b), .val (.int (Int32.ofNat o)), .val (.int (Int32.ofNat len)), .val .null, .val (.ref s.heap.size)] [.int 0, .ref a])) rfl (rest := []) rfl (hb hbytes d48)
  have c14 : Steps p.tables e below (s₁.setTop (entryFrame m #[.ref a, .ref b, .int (Int32.ofNat o), .int (Int32.ofNat len), .null] 6)) (T13.setTop (mkF m 54 #[.val (.ref a), .val (.ref b), .val (.int (Int32.ofNat o)), .val (.int (Int32.ofNat len)), .val .null, .val (.ref s.heap.size)] [.ref s.heap.size, .ref a])) := (c12.trans (st13 _ (Steps.refl _))).trans (by
    refine XS.aloadN X13.here hexec rfl (hb hbytes d51) rfl rfl ?_
    refine XS.aload X13.here hexec rfl (hb hbytes d52) rfl rfl ?_
    exact Steps.refl _)
  obtain ⟨T15, X15, p15, bl15, sl15, st15⟩ := X13.finit hexec hown (wk W (.fieldLink "java/lang/String" 9 "java/lang/String" "value" "[B")) (Or.inr ⟨_, (wk W (.laysFinal "java/lang/String" "java/lang/String" "value" "[B"))⟩) (Or.inl ⟨rfl, hnm⟩) f1 (Or.inl rfl) bl13 (t := (.array .byte)) (by decide +kernel) rfl (g := (mkF m 54 #[.val (.ref a), .val (.ref b), .val (.int (Int32.ofNat o)), .val (.int (Int32.ofNat len)), .val .null, .val (.ref s.heap.size)] [.ref s.heap.size, .ref a])) rfl (rest := []) rfl (hb hbytes d54)
  have c16 : Steps p.tables e below (s₁.setTop (entryFrame m #[.ref a, .ref b, .int (Int32.ofNat o), .int (Int32.ofNat len), .null] 6)) (T15.setTop (mkF m 57 #[.val (.ref a), .val (.ref b), .val (.int (Int32.ofNat o)), .val (.int (Int32.ofNat len)), .val .null, .val (.ref s.heap.size)] [])) := c14.trans (st15 _ (Steps.refl _))
  have ap := apart (Or.inr ⟨_, (wk W (.laysFinal "java/lang/String" "java/lang/String" "value" "[B"))⟩) (Or.inr ⟨_, (wk W (.laysFinal "java/lang/String" "java/lang/String" "coder" "B"))⟩) f1 f2 (t₁ := .array .byte) (t₂ := .byte) (by decide +kernel) (by decide +kernel) (by decide)
  have al := X8.warmed.alike.symm.trans X15.warmed.alike
  have n7 : T11.heap[s.heap.size]? = some N := by rw [q11]; exact n1.1
  exact ⟨T15, none, _, _, _, X15, by simp, rfl, by omega, (fun _ => rfl), ⟨rfl, _, N, bl15, ((Same.refl D _).set _ (by simp)).set _ (by simp), sl15, (Cell.slots_setSlot_ne _ ap).trans sl13, n1.keep al (p15.other hne (p13.other hne n7)), n2, by rw [al.findClass]; exact n3, n4, n5, fun y c h1 h2 => p15.other h1 (p13.other h1 (by rw [q11]; exact n6 y c h2)), by rw [p15.2.2, p13.2.2, q11]; exact z8⟩, fun fs hl => c16.trans (X15.returnOut hexec hret (hb hbytes d57) hl)⟩
end New4
namespace New1
def yN : MethodName := ⟨"java/lang/String", "<init>", "([C)V"⟩
abbrev yB : ByteArray := jdk_42_method_3_code
theorem d0 : decode yB 0 = .ok (.aload_n 0, 1) := by decide +kernel
theorem d1 : decode yB 1 = .ok (.aload_n 1, 1) := by decide +kernel
theorem d2 : decode yB 2 = .ok (.iconst 0, 1) := by decide +kernel
theorem d3 : decode yB 3 = .ok (.aload_n 1, 1) := by decide +kernel
theorem d4 : decode yB 4 = .ok (.arraylength, 1) := by decide +kernel
theorem d5 : decode yB 5 = .ok (.aconst_null, 1) := by decide +kernel
theorem d6 : decode yB 6 = .ok (.invokespecial 27, 3) := by decide +kernel
theorem d9 : decode yB 9 = .ok (.return_, 1) := by decide +kernel
def site : List Cond := [New4.tab] ++ initW "java/lang/String" 27 New4.yN
def tab : Cond := tabOf yN yB 2 none site
def P (a : Addr) (D : Cell) (fV fC : Field) (b : Addr) (A : Cell) (z : Int32) (args : Array Value) (s : State) : Prop := args = #[.ref a, .ref b] ∧ Blank "java/lang/String" a D s ∧ Found "java/lang/String" "value" "[B" fV s ∧ Found "java/lang/String" "coder" "B" fC s ∧ Ch b A s ∧ StaticIs s "java/lang/String" "COMPACT_STRINGS" "Z" (.int z) ∧ ¬ z = 0 ∧ 0 < A.slots.size ∧ A.slots.size ≤ 536870912 ∧ ∀ i, i < A.slots.size → ¬ 255 < cv A i
def E (a : Addr) (D : Cell) (fV fC : Field) (A : Cell) (r : Option Value) (s u : State) : Prop := Got a D fV fC A 0 A.slots.size r s u
/-- new String(chars), not empty, no char above 255: a Latin-1 String of their low bytes -/
theorem law (l : Launch) (a : Addr) (D : Cell) (fV fC : Field) (b : Addr) (A : Cell) (z : Int32) : Law l yN 2 1 3 52 yB 2 none site (P a D fV fC b A z) (E a D fV fC A) [⟨a, fC.slot⟩, ⟨a, fV.slot⟩] 1 A.slots.size := by
  refine Law.of_walk (plainFor_of_name (by decide +kernel)) (by decide +kernel) (by decide +kernel) (by decide) (fun _ _ h => by rw [h.1]; rfl) (fun _ U U' hal hh h => ⟨h.1, h.2.1.mv hal hh, h.2.2.1.al hal, h.2.2.2.1.al hal, h.2.2.2.2.1.mv hal hh, h.2.2.2.2.2.1.there hal hh, h.2.2.2.2.2.2⟩) (fun r U U' V V' h1 hal h2 h => Got.mv r U U' V V' h1 hal h2 h) ?_
  intro p e s m args below meth c s₁ X0 hexec hbytes hml hret hlk hnm hown hh0 W hP
  obtain ⟨rfl, hB, f1, f2, hA, s1, hz, l0, l2, hp⟩ := hP
  have c1 : Steps p.tables e below (s₁.setTop (entryFrame m #[.ref a, .ref b] 2)) (s₁.setTop (mkF m 0 #[.val (.ref a), .val (.ref b)] [])) := entry rfl
  have c2 : Steps p.tables e below (s₁.setTop (entryFrame m #[.ref a, .ref b] 2)) (s₁.setTop (mkF m 6 #[.val (.ref a), .val (.ref b)] [.null, .int (Int32.ofNat A.slots.size), .int 0, .ref b, .ref a])) := c1.trans (by
    refine XS.aloadN X0.here hexec rfl (hb hbytes d0) rfl rfl ?_
    refine XS.aloadN X0.here hexec rfl (hb hbytes d1) rfl rfl ?_
    refine iconstV X0.here hexec rfl 0 (hb hbytes d2) (by decide) ?_
    refine XS.aloadN X0.here hexec rfl (hb hbytes d3) rfl rfl ?_
    refine X0.alen hexec (hA.1.mv X0.warmed.alike hh0) rfl rfl (hb hbytes d4) ?_
    refine XS.aconstNull X0.here hexec rfl (hb hbytes d5) ?_
    exact Steps.refl _)
  obtain ⟨v3, T3, X3, E3, g3⟩ := X0.callN hexec (New4.law l a D fV fC b A z 0 A.slots.size) rfl hown (wks W (initW "java/lang/String" 27 New4.yN)) (W New4.tab (by simp only [site, List.mem_cons, List.mem_append, true_or, or_true])) (W := 0) (Nat.le_of_ble_eq_true rfl) (Nat.le_of_ble_eq_true rfl) (Nat.le_refl _) (by show 0 + A.slots.size ≤ A.slots.size; omega) (g := (mkF m 6 #[.val (.ref a), .val (.ref b)] [.null, .int (Int32.ofNat A.slots.size), .int (Int32.ofNat 0), .ref b, .ref a])) rfl (by rw [hml]; rfl) c2 (argsL := [.ref b, .int (Int32.ofNat 0), .int (Int32.ofNat A.slots.size), .null]) (rest := []) rfl rfl (by show 2 * 0 + 0 ≤ _; decide) (hb hbytes d6) (⟨rfl, hB.mv X0.warmed.alike hh0, f1.al X0.warmed.alike, f2.al X0.warmed.alike, hA.mv X0.warmed.alike hh0, s1.there X0.warmed.alike hh0, hz, l0, by omega, l2, fun i hi => by rw [Nat.zero_add]; exact hp i hi⟩)
  have e0 := Got.mv _ s₁ s _ _ hh0.symm (Vm.Alike.refl _) rfl E3
  obtain rfl := e0.1
  have c4 : Steps p.tables e below (s₁.setTop (entryFrame m #[.ref a, .ref b] 2)) (T3.setTop (mkF m 9 #[.val (.ref a), .val (.ref b)] [])) := g3
  exact ⟨T3, none, _, _, _, X3, by simp, rfl, by omega, (fun _ => rfl), e0, fun fs hl => c4.trans (X3.returnOut hexec hret (hb hbytes d9) hl)⟩
theorem pays {l : Launch} {R : Room} {p : Program} {e : Env} {below : List Frame} {s : State} {sargs : Array Value} {len W : Nat} (a : Addr) (D : Cell) (fV fC : Field) (b : Addr) (A : Cell) (z : Int32) (htab : tab.before sargs s = true) (hfr : 4 ≤ R.frames) (hlo : W + 65 ≤ R.locals) :
    Back l R p e below s sargs yN len W (fun A₁ a₁ => A₁.cells + 1 ≤ R.cells ∧ A₁.slots + A.slots.size ≤ R.slots ∧ P a D fV fC b A z a₁ A₁.U) (fun A₁ _ v₁ B₁ => E a D fV fC A v₁ A₁.U B₁.U ∧ B₁.locs = A₁.locs ++ [⟨a, fC.slot⟩, ⟨a, fV.slot⟩] ∧ B₁.cells = A₁.cells + 1 ∧ B₁.slots = A₁.slots + A.slots.size) :=
  (law l a D fV fC b A z).pays htab hfr (by omega)
end New1
end StrChars
namespace StrChars.Road
open Jvm Sem ClassFile Op Lib Jvm.Stand Jvm.Free Jvm.Free.XT
open Jvm.Lib.Cold (StaticIs)
abbrev ST : String := "java/lang/String"
/-- every table word that New1's law asks, flat -/
abbrev words : List Jvm.Cond := [.code New1.yN New1.yB 2 none, .initialized ST, .methodLink ST 27 New4.yN, .instanceMethod New4.yN,
  .code New4.yN New4.yB 6 none, .fieldLink ST 38 ST "COMPACT_STRINGS" "Z", .laysFinal ST ST "value" "[B", .fieldLink ST 9 ST "value" "[B", .laysFinal ST ST "coder" "B", .fieldLink ST 15 ST "coder" "B",
  .methodLink ST 1 Lib.objectInit, .instanceMethod Lib.objectInit, .code Lib.objectInit ⟨#[0xb1]⟩ 1 none, .methodLink ST 177 Cmp3.yN, .static Cmp3.yN, .methodLink ST 47 CodL.yN, .static CodL.yN,
  .code Cmp3.yN Cmp3.yB 6 (some (.array .byte)), .initialized U16, .arrayClass .byte, .methodLink U16 115 Cmp5.yN, .static Cmp5.yN, .code Cmp5.yN Cmp5.yB 7 (some .int), .code CodL.yN CodL.yB 2 (some .byte)]
theorem tab_of {a : Array Value} {s : State} (h : ∀ w ∈ words, w.before a s = true) : New1.tab.before a s = true := by
  have h5 : Cmp5.tab.before a s = true := unparts (wk h (.code Cmp5.yN Cmp5.yB 7 (some .int))) (wks h (.initialized Cmp5.yN.cls :: Cmp5.site))
  have hc : CodL.tab.before a s = true := unparts (wk h (.code CodL.yN CodL.yB 2 (some .byte))) (wks h (.initialized CodL.yN.cls :: CodL.site))
  have q5 : ∀ w ∈ Cmp5.tab :: words, w.before a s = true := fun w hw => (List.mem_cons.mp hw).elim (fun e => e ▸ h5) (h w)
  have h3 : Cmp3.tab.before a s = true := unparts (wk q5 (.code Cmp3.yN Cmp3.yB 6 (some (.array .byte)))) (wks q5 (.initialized Cmp3.yN.cls :: Cmp3.site))
  have q3 : ∀ w ∈ Cmp3.tab :: CodL.tab :: words, w.before a s = true := fun w hw => (List.mem_cons.mp hw).elim (fun e => e ▸ h3) fun hw => (List.mem_cons.mp hw).elim (fun e => e ▸ hc) (h w)
  have h4 : New4.tab.before a s = true := unparts (wk q3 (.code New4.yN New4.yB 6 none)) (wks q3 (.initialized New4.yN.cls :: New4.site))
  have q4 : ∀ w ∈ New4.tab :: words, w.before a s = true := fun w hw => (List.mem_cons.mp hw).elim (fun e => e ▸ h4) (h w)
  exact unparts (wk q4 (.code New1.yN New1.yB 2 none)) (wks q4 (.initialized New1.yN.cls :: New1.site))
/-- the words ride from the start Z to the walk's own state -/
theorem moved {Z s : State} {a0 args : Array Value} (hZ : Z.Warmed39 s.vm) (hw : ∀ d ∈ words, d.before a0 Z = true) : ∀ d ∈ words, d.before args s = true := fun d hd => by
  have q := hw d hd
  have t : ∀ d ∈ words, d = .arrayClass .byte ∨ (d.onTables && d.keepsFace) = true := by decide +kernel
  rcases t d hd with rfl | t
  · exact RoadKit.mvA hZ q
  · exact RoadKit.mv hZ q t
/-- WHAT COMES BACK, over the tables of the start Z: h the heap at the call, h' behind it -/
def Q (Z : State) (x : Addr) (A : Cell) (h : Heap) (v : Option Value) (h' : Heap) (L : List Loc) : Prop := v = none ∧ (∀ y ∈ L, y.base = x) ∧ RoadKit.Keep h h' [x] ∧ h'.size = h.size + 1 ∧ RoadKit.Exa Z h' x ST ∧ RoadKit.Fld Z h' x ST "value" "[B" (.ref h.size) ∧ RoadKit.Fld Z h' x ST "coder" "B" (.int 0) ∧
  (∃ V : Cell, RoadKit.Arr Z h' h.size V .byte ∧ V.vm = .none ∧ Z.vm.findClass "[B" = some V.cls ∧ V.slots.size = A.slots.size ∧ ∀ j, j < A.slots.size → V.slots[j]? = some (.int (lo8 (cv A j)))) ∧
  ∀ (O n d : String) (w : Value), RoadKit.Fld Z h x O n d w → RoadKit.slotOf Z O n d ≠ RoadKit.slotOf Z ST "value" "[B" → RoadKit.slotOf Z O n d ≠ RoadKit.slotOf Z ST "coder" "B" → RoadKit.Fld Z h' x O n d w
/-- **new String(chars) AT A CALL, IN THE ROAD'S FORM**: for specialBack behind newO: x the fresh String, b the char[] with the cell A -/
theorem back {p : Program} {l : Launch} {e : Env} {R : Room} {s : State} {args : Array Value} {below : List Frame} {len W : Nat} {Z : State} {a0 : Array Value} {h : Heap} (hZ : Z.Warmed39 s.vm) (hw : ∀ d ∈ words, d.before a0 Z = true) {kI : Nat} (wi : (Jvm.Cond.instantiable ST kI).before a0 Z = true)
    {x b : Addr} {A : Cell} {z : Int32} {v0 c0 : Value} (E : RoadKit.Exa Z h x ST) (V : RoadKit.Fld Z h x ST "value" "[B" v0) (C : RoadKit.Fld Z h x ST "coder" "B" c0) (K : RoadKit.Arr Z h b A .char) (hty : Typed .char A) (S : RoadKit.Sta Z h ST "COMPACT_STRINGS" "Z" (.int z)) (hz : ¬ z = 0)
    (l0 : 0 < A.slots.size) (l2 : A.slots.size ≤ 536870912) (hp : ∀ i, i < A.slots.size → ¬ 255 < cv A i) (hfr : 4 ≤ R.frames) (hlo : W + 65 ≤ R.locals) :
    Back l R p e below s args New1.yN len W (fun P a => a = #[.ref x, .ref b] ∧ P.U.heap = h ∧ P.cells + 1 ≤ R.cells ∧ P.slots + A.slots.size ≤ R.slots)
      (fun P _ v B => ∃ L, Q Z x A h v B.U.heap L ∧ B.locs = P.locs ++ L ∧ B.cells = P.cells + 1 ∧ B.slots = P.slots + A.slots.size) := by
  intro m meth c P g ig mk a X hg hsize hdg hW hn hp'
  obtain ⟨rfl, rfl, r1, r2⟩ := hp'
  have al : Z.vm.Alike P.U.vm := hZ.alike.trans X.warmed.alike
  obtain ⟨D, cfV, kV, iV, fV, hD, gV, stV, knV, obV, asV, slV⟩ := id V
  obtain ⟨D', cfC, kC, iC, fC, hD', gC, stC, -, -, asC, slC⟩ := id C
  cases hD.symm.trans hD'
  obtain ⟨D2, kD, e1, e2, e3, e4, e5⟩ := id E
  cases hD.symm.trans e1
  obtain ⟨c2, k2, i1, i2, i3, -⟩ := Cond.instantiable_spec wi
  cases e2.symm.trans i1
  cases e3.symm.trans i2
  obtain ⟨kU, u1, u2⟩ := al.2.2 _ _ e3
  have hB : Blank ST x D P.U := ⟨hD, ⟨knV, fun q hq => by rw [hq] at obV; cases obV⟩, by rw [al.findClass]; exact e2, kU, u1, by rw [u2]; exact i3, by rw [u2]; exact e5 i3⟩
  have F1 : Found ST "value" "[B" fV P.U := ⟨SBG.found_only al ⟨cfV, kV, iV, gV⟩, stV⟩
  have F2 : Found ST "coder" "B" fC P.U := ⟨SBG.found_only al ⟨cfC, kC, iC, gC⟩, stC⟩
  have hA : Ch b A P.U := ⟨⟨K.1, State.isArrayOf_alike al K.2.1, K.2.2, by omega⟩, hty⟩
  have hS : StaticIs P.U ST "COMPACT_STRINGS" "Z" (.int z) := by
    obtain ⟨cfS, iS, kS, fS, st, cS, t1, t2, t3, t4, t5, t6, t7⟩ := S
    exact StaticIs.there (s := { Z with heap := P.U.heap }) ⟨cfS, iS, kS, fS, st, cS, t1, t2, t3, t4, t5, (fun q => by rw [q] at t6; cases t6), t7⟩ al rfl
  obtain ⟨v, B, X', ⟨⟨hv, E', V', q1, q2, q3, q4, q5, q6, q7, q8, q9, q10, q11⟩, hl, hc, hs⟩, st⟩ := New1.pays x D fV fC b A z (tab_of (moved hZ hw)) hfr hlo m meth c P g ig mk _ X hg hsize hdg hW hn ⟨r1, r2, rfl, hB, F1, F2, hA, hS, hz, l0, l2, hp⟩
  have al' : Z.vm.Alike B.U.vm := hZ.alike.trans X'.warmed.alike
  have hsz : E'.slots.size = D.slots.size := by
    obtain ⟨-, -, -, kB, w1, w2, w3⟩ := q1
    obtain ⟨kB', y1, y2⟩ := al'.2.2 _ _ e3
    rw [q2.2.1] at w1
    cases w1.symm.trans y1
    rw [w3, e5 i3, y2]
  refine ⟨v, B, X', ⟨_, ⟨hv, ?_, ⟨by omega, fun y cy hy hn' => q10 y cy (by simpa using hn') hy, fun y cy hy => ?_⟩, q11, ⟨E', _, q1.1, by rw [q2.2.1]; exact e2, by rw [q2.2.1]; exact e3, by rw [q2.1]; exact obV, fun _ => by rw [hsz]; exact e5 i3⟩,
    ⟨E', cfV, kV, iV, fV, q1.1, gV, stV, by rw [q2.1]; exact knV, by rw [q2.1]; exact obV, by rw [q2.2.1]; exact asV, q3⟩, ⟨E', cfC, kC, iC, fC, q1.1, gC, stC, by rw [q2.1]; exact knV, by rw [q2.1]; exact obV, by rw [q2.2.1]; exact asC, q4⟩,
    ⟨V', ⟨q5.1, State.isArrayOf_alike al'.symm q5.2.1, q5.2.2.1⟩, q6, by rw [← al'.findClass]; exact q7, q8, fun j hj => by have := q9 j hj; rwa [Nat.zero_add] at this⟩, fun O n d w F n1 n2 => ?_⟩, hl, hc, hs⟩, st⟩
  · intro y hy
    simp only [List.mem_cons, List.not_mem_nil, or_false] at hy
    rcases hy with rfl | rfl <;> rfl
  · by_cases q : y = x
    · subst q
      cases hD.symm.trans hy
      exact ⟨E', q1.1, q2.2.1, q2.1, hsz⟩
    · exact ⟨cy, q10 y cy q hy, rfl, rfl, rfl⟩
  · obtain ⟨D3, cf, k, i, f, g1, g2, g3, g4, g5, g6, g7⟩ := F
    cases hD.symm.trans g1
    simp only [RoadKit.slotOf, g2, gV, gC, Option.map_some, Option.getD_some] at n1 n2
    exact ⟨E', cf, k, i, f, q1.1, g2, g3, by rw [q2.1]; exact g4, by rw [q2.1]; exact g5, by rw [q2.2.1]; exact g6, by rw [q2.2.2 f.slot (by simp [n1, n2])]; exact g7⟩
end StrChars.Road
namespace StrChars.Road
open Jvm Sem ClassFile Op Lib Jvm.Stand Jvm.Free Jvm.Free.XT
/-- WHAT COMES BACK, the byte[] as a list of values -/
def QA (Z : State) (x : Addr) (zn : Int32) (cs : List Int32) (h : Heap) (v : Option Value) (h' : Heap) (L : List Loc) : Prop := v = none ∧ (∀ y ∈ L, y.base = x) ∧ RoadKit.Keep h h' [x] ∧ h'.size = h.size + 1 ∧ RoadKit.Exa Z h' x ST ∧ RoadKit.Fld Z h' x ST "value" "[B" (.ref h.size) ∧ RoadKit.Fld Z h' x ST "coder" "B" (.int 0) ∧
  (∃ kb, Z.vm.findClass "[B" = some kb ∧ RoadKit.Arv Z h' h.size kb .byte zn (cs.map fun c => .int (lo8 c)) (.int 0)) ∧
  ∀ (O n d : String) (w : Value), RoadKit.Fld Z h x O n d w → RoadKit.slotOf Z O n d ≠ RoadKit.slotOf Z ST "value" "[B" → RoadKit.slotOf Z O n d ≠ RoadKit.slotOf Z ST "coder" "B" → RoadKit.Fld Z h' x O n d w
/-- **new String(chars) AT A CALL, THE ARRAYS AS LISTS**: the char[] at b holds cs, not empty, no char above 255 -/
theorem backArv {p : Program} {l : Launch} {e : Env} {R : Room} {s : State} {args : Array Value} {below : List Frame} {len W : Nat} {Z : State} {a0 : Array Value} {h : Heap} (hZ : Z.Warmed39 s.vm) (hw : ∀ d ∈ words, d.before a0 Z = true) {kI : Nat} (wi : (Jvm.Cond.instantiable ST kI).before a0 Z = true)
    {x b : Addr} {k : ClassId} {zn z : Int32} {cs : List Int32} {dv v0 c0 : Value} (E : RoadKit.Exa Z h x ST) (V : RoadKit.Fld Z h x ST "value" "[B" v0) (C : RoadKit.Fld Z h x ST "coder" "B" c0) (K : RoadKit.Arv Z h b k .char zn (cs.map Value.int) dv) (S : RoadKit.Sta Z h ST "COMPACT_STRINGS" "Z" (.int z)) (hz : ¬ z = 0)
    (hlen : zn.toNatClampNeg = cs.length) (h0 : 0 < cs.length) (hbig : cs.length ≤ 536870912) (hall : ∀ c ∈ cs, ¬ 255 < c) (hfr : 4 ≤ R.frames) (hlo : W + 65 ≤ R.locals) :
    Back l R p e below s args New1.yN len W (fun P a => a = #[.ref x, .ref b] ∧ P.U.heap = h ∧ P.cells + 1 ≤ R.cells ∧ P.slots + cs.length ≤ R.slots)
      (fun P _ v B => ∃ L, QA Z x zn cs h v B.U.heap L ∧ B.locs = P.locs ++ L ∧ B.cells = P.cells + 1 ∧ B.slots = P.slots + cs.length) := by
  obtain ⟨A, K1, K2, K3, K4, K5, K6⟩ := K
  have e : A.slots.size = cs.length := K3.trans hlen
  have hat : ∀ (i : Nat) (hi : i < cs.length), A.slots[i]? = some (.int cs[i]) := fun i hi => by rw [K5 i (by omega)]; simp [List.getD_eq_getElem?_getD, hi]
  have hcv : ∀ (i : Nat) (hi : i < cs.length), cv A i = cs[i] := fun i hi => by unfold cv; rw [hat i hi]
  have hty : Typed .char A := fun i v hv => by
    have hi : i < A.slots.size := (Array.getElem?_eq_some_iff.mp hv).1
    have q := K5 i hi
    rw [hv] at q
    rw [Option.some.inj q]
    exact K6 i hi
  refine Back.mono (back hZ hw wi E V C K1 hty S hz (by omega) (by omega) (fun i hi => by rw [hcv i (by omega)]; exact hall _ (List.getElem_mem _)) hfr hlo) (fun P a hp => ⟨hp.1, hp.2.1, hp.2.2.1, by rw [e]; exact hp.2.2.2⟩) (fun P a v B hp hq => ?_)
  obtain ⟨L, ⟨q1, q2, q3, q4, q5, q6, q7, ⟨V', v1, v2, v3, v4, v5⟩, q9⟩, hl, hc, hs⟩ := hq
  refine ⟨L, ⟨q1, q2, q3, q4, q5, q6, q7, ⟨V'.cls, v3, V', v1, rfl, by rw [v4, e, hlen], K4, fun i hi => ?_, fun i hi => ?_⟩, q9⟩, hl, hc, by rw [hs, e]⟩
  · have hi' : i < cs.length := by omega
    rw [v5 i (by omega), hcv i hi']; simp [List.getD_eq_getElem?_getD, hi']
  · have hi' : i < cs.length := by omega
    simp only [List.getD_eq_getElem?_getD, List.getElem?_map, List.getElem?_eq_getElem hi', Option.map_some, Option.getD_some]
    exact fits_lo8 _
end StrChars.Road
namespace StrChars.Road
open Jvm Sem ClassFile Op Lib Jvm.Stand Jvm.Free Jvm.Free.XT
/-- WHAT COMES BACK, in the writer's own shape -/
def QV (Z : State) (x : Addr) (N : Int32) (bs : List Int32) (h : Heap) (n0 : Nat) (v : Option Value) (h' : Heap) (L : List Loc) : Prop := v = none ∧ RoadKit.Fr n0 L ∧ RoadKit.Keep h h' [x] ∧ RoadKit.Exa Z h' x ST ∧ RoadKit.Fld Z h' x ST "coder" "B" (.int 0) ∧
  ∃ (t : Addr) (kb : ClassId), n0 ≤ t ∧ h.size ≤ t ∧ ¬ t = x ∧ RoadKit.Fld Z h' x ST "value" "[B" (.ref t) ∧ RoadKit.Arv Z h' t kb .byte N (bs.map Value.int) (.int 0)
/-- **new String(chars) AT A CALL, FOR THE WRITER**: a char[] of n known ints, each 0 to 255 -/
theorem backV {p : Program} {l : Launch} {e : Env} {R : Room} {s : State} {args : Array Value} {below : List Frame} {len W : Nat} {Z : State} {a0 : Array Value} {h : Heap} (hZ : Z.Warmed39 s.vm) (hw : ∀ d ∈ words, d.before a0 Z = true) {kI : Nat} (wi : (Jvm.Cond.instantiable ST kI).before a0 Z = true)
    {x b : Addr} {kC : ClassId} {cs bs : List Int32} {d v0 c0 : Value} {z N : Int32} {n n0 : Nat} (hx0 : n0 ≤ x) (hh0 : n0 ≤ h.size) (E : RoadKit.Exa Z h x ST) (V : RoadKit.Fld Z h x ST "value" "[B" v0) (C : RoadKit.Fld Z h x ST "coder" "B" c0) (K : RoadKit.Arv Z h b kC .char N (cs.map Value.int) d) (S : RoadKit.Sta Z h ST "COMPACT_STRINGS" "Z" (.int z)) (hz : ¬ z = 0)
    (hn : cs.length = n) (hN : N = Int32.ofNat n) (l0 : 0 < n) (l2 : n ≤ 4000) (hp : ∀ c ∈ cs, ¬ c < 0 ∧ ¬ (255 : Int32) < c) (hb : bs = cs.map (fun c => c.toInt8.toInt32)) (hfr : 4 ≤ R.frames) (hlo : W + 65 ≤ R.locals) :
    Back l R p e below s args (⟨"java/lang/String", "<init>", "([C)V"⟩ : MethodName) len W (fun P a => a = #[.ref x, .ref b] ∧ P.U.heap = h ∧ P.cells + 1 ≤ R.cells ∧ P.slots + n ≤ R.slots)
      (fun P _ v B => ∃ L, QV Z x N bs h n0 v B.U.heap L ∧ B.locs = P.locs ++ L ∧ B.cells = P.cells + 1 ∧ B.slots = P.slots + n) := by
  subst hn hN hb
  refine Back.mono (backArv hZ hw wi E V C K S hz (n32 (by omega)) l0 (by omega) (fun c hc => (hp c hc).2) hfr hlo) (fun P a hp => hp) (fun P a v B hp hq => ?_)
  obtain ⟨L, ⟨q1, q2, q3, q4, q5, q6, q7, ⟨kb, v1, v2⟩, q9⟩, hl, hc, hs⟩ := hq
  exact ⟨L, ⟨q1, fun y hy => by rw [q2 y hy]; exact hx0, q3, q5, q7, h.size, kb, hh0, Nat.le_refl _, Nat.ne_of_gt E.lt, q6, by rw [List.map_map]; exact v2⟩, hl, hc, hs⟩
end StrChars.Road
namespace StrChars
open Jvm Sem ClassFile Op Lib Jvm.Stand Jvm.Free.XT Jvm.Free.ALB Jvm.Free.JM Jvm.Free
open Jvm.Lib.Cold (StaticIs)
def hi8 (x : Int32) : Int32 := lo8 (x >>> ((8 : Int32) &&& 31))
theorem shr0 (c : Int32) : c >>> ((0 : Int32) &&& 31) = c := by
  have e : ((0 : Int32) &&& 31) = 0 := by decide
  rw [e]
  apply Int32.toBitVec_inj.mp
  rw [Int32.toBitVec_shiftRight]
  have e1 : ((0 : Int32).toBitVec.smod 32) = 0#32 := by decide
  rw [e1, BitVec.sshiftRight_eq']
  exact BitVec.sshiftRight_zero
end StrChars
namespace StrChars
open Jvm Sem ClassFile Op Lib Jvm.Stand Jvm.Free.XT Jvm.Free.ALB Jvm.Free.JM Jvm.Free
open Jvm.Lib.Cold (StaticIs)
theorem shr1 {n : Nat} (h : 2 * n < 2 ^ 31) : Int32.ofNat (2 * n) >>> ((1 : Int32) &&& 31) = Int32.ofNat n := by
  have e : ((1 : Int32) &&& 31) = 1 := by decide
  rw [e]
  apply Int32.toBitVec_inj.mp
  rw [Int32.toBitVec_shiftRight]
  have e1 : ((1 : Int32).toBitVec.smod 32) = 1#32 := by decide
  have hm : (BitVec.ofNat 32 (2 * n)).toNat = 2 * n := by rw [BitVec.toNat_ofNat, Nat.mod_eq_of_lt (by omega)]
  rw [e1, BitVec.sshiftRight_eq']
  apply BitVec.eq_of_toNat_eq
  show ((BitVec.ofNat 32 (2 * n)).sshiftRight 1).toNat = (BitVec.ofNat 32 n).toNat
  rw [BitVec.toNat_sshiftRight_of_msb_false (by rw [BitVec.msb_eq_false_iff_two_mul_lt, hm]; omega), hm, BitVec.toNat_ofNat, Nat.shiftRight_eq_div_pow]
  omega
/-- the array's cell V codes the n chars f 0 .. f (n - 1) by the coder cd, as the JDK does: coder 1 just where some char is above 255 -/
def Cod (cd : Int32) (n : Nat) (f : Nat → Int32) (V : Cell) : Prop := (cd = 0 ∧ V.slots.size = n ∧ ∀ j, j < n → V.slots[j]? = some (.int (lo8 (f j))) ∧ ¬ 255 < f j) ∨ (cd = 1 ∧ V.slots.size = 2 * n ∧ (∀ j, j < n → V.slots[2 * j]? = some (.int (lo8 (f j))) ∧ V.slots[2 * j + 1]? = some (.int (hi8 (f j)))) ∧ ∃ j, j < n ∧ 255 < f j)
theorem Cod.cd {cd : Int32} {n : Nat} {f : Nat → Int32} {V : Cell} (h : Cod cd n f V) : cd = 0 ∨ cd = 1 := h.imp (fun q => q.1) fun q => q.1
theorem Cod.len {cd : Int32} {n : Nat} {f : Nat → Int32} {V : Cell} (h : Cod cd n f V) (hs : V.slots.size < 2 ^ 31) : Int32.ofNat V.slots.size >>> (cd &&& 31) = Int32.ofNat n := by
  rcases h with ⟨rfl, h, -⟩ | ⟨rfl, h, -⟩
  · rw [shr0, h]
  · rw [h, shr1 (by omega)]
/-- **x is a String of the n chars f 0 .. f (n - 1)**, Latin-1 or UTF-16; its array at t has the cell V -/
def Txt (x t : Addr) (V : Cell) (cd : Int32) (n : Nat) (f : Nat → Int32) (U : State) : Prop := Exact "java/lang/String" x U ∧ Has x "java/lang/String" "value" "[B" (.ref t) U ∧ Has x "java/lang/String" "coder" "B" (.int cd) U ∧ XT.Arr .byte t V U ∧ Cod cd n f V ∧ ∀ j, j < n → ¬ f j < 0 ∧ ¬ 65535 < f j
theorem Txt.mv {x t : Addr} {V : Cell} {cd : Int32} {n : Nat} {f : Nat → Int32} {U U' : State} (h : Txt x t V cd n f U) (hal : U.vm.Alike U'.vm) (hh : U'.heap = U.heap) : Txt x t V cd n f U' := ⟨h.1.mv hal hh, h.2.1.mv hal hh, h.2.2.1.mv hal hh, h.2.2.2.1.mv hal hh, h.2.2.2.2⟩
namespace Cdr
def yN : MethodName := ⟨"java/lang/String", "coder", "()B"⟩
abbrev yB : ByteArray := jdk_42_method_152_code
theorem d0 : decode yB 0 = .ok (.getstatic 38, 3) := by decide +kernel
theorem d3 : decode yB 3 = .ok (.ifCond (.eq) 10, 3) := by decide +kernel
theorem d6 : decode yB 6 = .ok (.aload_n 0, 1) := by decide +kernel
theorem d7 : decode yB 7 = .ok (.getfield 15, 3) := by decide +kernel
theorem d10 : decode yB 10 = .ok (.goto 4, 3) := by decide +kernel
theorem d14 : decode yB 14 = .ok (.ireturn, 1) := by decide +kernel
def site : List Cond := [.fieldLink "java/lang/String" 38 "java/lang/String" "COMPACT_STRINGS" "Z", .fieldLink "java/lang/String" 15 "java/lang/String" "coder" "B"]
def tab : Cond := tabOf yN yB 1 (some .byte) site
def P (x : Addr) (cd z : Int32) (args : Array Value) (s : State) : Prop := args = #[.ref x] ∧ Has x "java/lang/String" "coder" "B" (.int cd) s ∧ (cd = 0 ∨ cd = 1) ∧ StaticIs s "java/lang/String" "COMPACT_STRINGS" "Z" (.int z) ∧ ¬ z = 0
def E (cd : Int32) (r : Option Value) (s u : State) : Prop := XT.PureE (some (.int cd)) r s u
theorem law (l : Launch) (x : Addr) (cd z : Int32) : Law l yN 1 0 0 0 yB 1 (some .byte) site (P x cd z) (E cd) [] 0 0 := by
  refine Law.of_walk (plainFor_of_name (by decide +kernel)) (by decide +kernel) (by decide +kernel) (by decide) (fun _ _ h => by rw [h.1]; rfl) (fun _ U U' hal hh h => ⟨h.1, h.2.1.mv hal hh, h.2.2.1, h.2.2.2.1.there hal hh, h.2.2.2.2⟩) (fun r U U' V V' h1 hal h2 h => XT.PureE.mv r U U' V V' h1 hal h2 h) ?_
  intro p e s m args below meth c s₁ X0 hexec hbytes hml hret hlk hnm hown hh0 W hP
  obtain ⟨rfl, hx, hc, s1, hz⟩ := hP
  have c1 : Steps p.tables e below (s₁.setTop (entryFrame m #[.ref x] 1)) (s₁.setTop (mkF m 0 #[.val (.ref x)] [])) := entry rfl
  obtain ⟨T2, X2, q2, st2⟩ := X0.sget hexec hown (wk W (.fieldLink "java/lang/String" 38 "java/lang/String" "COMPACT_STRINGS" "Z")) s1 (fun _ _ h => by rw [hh0]; exact h) (g := (mkF m 0 #[.val (.ref x)] [])) rfl (hb hbytes d0)
  have hh2 := q2.trans hh0
  have c3 : Steps p.tables e below (s₁.setTop (entryFrame m #[.ref x] 1)) (T2.setTop (mkF m 7 #[.val (.ref x)] [.ref x])) := (c1.trans (st2 _ (Steps.refl _))).trans (by
    refine XS.ifNo X2.here hexec rfl (hb hbytes d3) rfl (i0_eq_f hz) ?_
    refine XS.aloadN X2.here hexec rfl (hb hbytes d6) rfl rfl ?_
    exact Steps.refl _)
  obtain ⟨T4, X4, q4, st4⟩ := X2.hget hexec hown (wk W (.fieldLink "java/lang/String" 15 "java/lang/String" "coder" "B")) (hx.mv X2.warmed.alike hh2) (g := (mkF m 7 #[.val (.ref x)] [.ref x])) rfl (rest := []) rfl (hb hbytes d7)
  have c5 : Steps p.tables e below (s₁.setTop (entryFrame m #[.ref x] 1)) (T4.setTop (mkF m 14 #[.val (.ref x)] [.int cd])) := (c3.trans (st4 _ (Steps.refl _))).trans (by
    refine XS.goto X4.here hexec rfl (pc0 := 10) rfl (hb hbytes d10) (by decide) rfl ?_
    exact Steps.refl _)
  exact ⟨T4, some (.int cd), _, _, _, X4, rfl, rfl, rfl, (fun h => by cases h), ⟨rfl, q4.trans hh2⟩, fun fs hl => c5.trans (X4.ireturnOut hexec hret (by rcases hc with rfl | rfl <;> rfl) (Or.inr (Or.inr (Or.inl rfl))) (hb hbytes d14) hl)⟩
end Cdr
namespace Len
def yN : MethodName := ⟨"java/lang/String", "length", "()I"⟩
abbrev yB : ByteArray := jdk_42_method_54_code
theorem d0 : decode yB 0 = .ok (.aload_n 0, 1) := by decide +kernel
theorem d1 : decode yB 1 = .ok (.getfield 9, 3) := by decide +kernel
theorem d4 : decode yB 4 = .ok (.arraylength, 1) := by decide +kernel
theorem d5 : decode yB 5 = .ok (.aload_n 0, 1) := by decide +kernel
theorem d6 : decode yB 6 = .ok (.invokevirtual 335, 3) := by decide +kernel
theorem d9 : decode yB 9 = .ok (.ishr, 1) := by decide +kernel
theorem d10 : decode yB 10 = .ok (.ireturn, 1) := by decide +kernel
def site : List Cond := [.fieldLink "java/lang/String" 9 "java/lang/String" "value" "[B", Cdr.tab] ++ virtW "java/lang/String" 335 "java/lang/String" Cdr.yN Cdr.yN
def tab : Cond := tabOf yN yB 1 (some .int) site
def P (x t : Addr) (V : Cell) (cd : Int32) (n : Nat) (f : Nat → Int32) (z : Int32) (args : Array Value) (s : State) : Prop := args = #[.ref x] ∧ Txt x t V cd n f s ∧ StaticIs s "java/lang/String" "COMPACT_STRINGS" "Z" (.int z) ∧ ¬ z = 0
def E (n : Nat) (r : Option Value) (s u : State) : Prop := XT.PureE (some (.int (Int32.ofNat n))) r s u
/-- length() of a String of n chars, in either coding -/
theorem law (l : Launch) (x t : Addr) (V : Cell) (cd : Int32) (n : Nat) (f : Nat → Int32) (z : Int32) : Law l yN 1 0 1 13 yB 1 (some .int) site (P x t V cd n f z) (E n) [] 0 0 := by
  refine Law.of_walk (plainFor_of_name (by decide +kernel)) (by decide +kernel) (by decide +kernel) (by decide) (fun _ _ h => by rw [h.1]; rfl) (fun _ U U' hal hh h => ⟨h.1, h.2.1.mv hal hh, h.2.2.1.there hal hh, h.2.2.2⟩) (fun r U U' V V' h1 hal h2 h => XT.PureE.mv r U U' V V' h1 hal h2 h) ?_
  intro p e s m args below meth c s₁ X0 hexec hbytes hml hret hlk hnm hown hh0 W hP
  obtain ⟨rfl, hx, s1, hz⟩ := hP
  have v31 := hx.2.2.2.1.2.2.2
  have c1 : Steps p.tables e below (s₁.setTop (entryFrame m #[.ref x] 1)) (s₁.setTop (mkF m 1 #[.val (.ref x)] [.ref x])) := Steps.trans (entry rfl) (by
    show Steps p.tables e below (s₁.setTop (mkF m 0 #[.val (.ref x)] [])) _
    refine XS.aloadN X0.here hexec rfl (hb hbytes d0) rfl rfl ?_
    exact Steps.refl _)
  obtain ⟨T2, X2, q2, st2⟩ := X0.hget hexec hown (wk W (.fieldLink "java/lang/String" 9 "java/lang/String" "value" "[B")) (hx.mv X0.warmed.alike hh0).2.1 (g := (mkF m 1 #[.val (.ref x)] [.ref x])) rfl (rest := []) rfl (hb hbytes d1)
  have hh2 := q2.trans hh0
  have hx2 := hx.mv X2.warmed.alike hh2
  have c3 : Steps p.tables e below (s₁.setTop (entryFrame m #[.ref x] 1)) (T2.setTop (mkF m 6 #[.val (.ref x)] [.ref x, .int (Int32.ofNat V.slots.size)])) := (c1.trans (st2 _ (Steps.refl _))).trans (by
    refine X2.alen hexec hx2.2.2.2.1 rfl rfl (hb hbytes d4) ?_
    refine XS.aloadN X2.here hexec rfl (hb hbytes d5) rfl rfl ?_
    exact Steps.refl _)
  obtain ⟨v4, T4, X4, E4, g4⟩ := X2.callV hexec (Cdr.law l x cd z) hown (wks W (virtW "java/lang/String" 335 "java/lang/String" Cdr.yN Cdr.yN)) rfl (by decide) (wk W Cdr.tab) (W := 1) (Nat.le_of_ble_eq_true rfl) (Nat.le_of_ble_eq_true rfl) (Nat.le_refl _) (Nat.le_refl _) (hx2.1.fc X2.warmed.alike) hx2.1.is (g := (mkF m 6 #[.val (.ref x)] [.ref x, .int (Int32.ofNat V.slots.size)])) rfl (by rw [hml]; rfl) c3 (argsL := []) (rest := [.int (Int32.ofNat V.slots.size)]) rfl rfl (by show 2 * 0 + (1 + 0) ≤ _; decide) (hb hbytes d6) (⟨rfl, hx2.2.2.1, hx.2.2.2.2.1.cd, s1.there X2.warmed.alike hh2, hz⟩)
  obtain ⟨rfl, q4⟩ := E4
  have c5 : Steps p.tables e below (s₁.setTop (entryFrame m #[.ref x] 1)) (T4.setTop (mkF m 10 #[.val (.ref x)] [.int (Int32.ofNat V.slots.size >>> (cd &&& 31))])) := Steps.trans g4 (by
    refine ishr X4.here hexec rfl (hb hbytes d9) rfl ?_
    exact Steps.refl _)
  rw [hx.2.2.2.2.1.len v31] at c5
  exact ⟨T4, some (.int (Int32.ofNat n)), _, _, _, X4, rfl, rfl, rfl, (fun h => by cases h), ⟨rfl, q4.trans hh2⟩, fun fs hl => c5.trans (X4.ireturnOut hexec hret rfl (Or.inl rfl) (hb hbytes d10) hl)⟩
theorem pays {l : Launch} {R : Room} {p : Program} {e : Env} {below : List Frame} {s : State} {sargs : Array Value} {len W : Nat} (x t : Addr) (V : Cell) (cd : Int32) (n : Nat) (f : Nat → Int32) (z : Int32) (htab : tab.before sargs s = true) (hfr : 2 ≤ R.frames) (hlo : W + 25 ≤ R.locals) :
    Back l R p e below s sargs yN len W (fun A₁ a₁ => A₁.cells + 0 ≤ R.cells ∧ A₁.slots + 0 ≤ R.slots ∧ P x t V cd n f z a₁ A₁.U) (fun A₁ _ v₁ B₁ => E n v₁ A₁.U B₁.U ∧ B₁.locs = A₁.locs ++ [] ∧ B₁.cells = A₁.cells + 0 ∧ B₁.slots = A₁.slots + 0) :=
  (law l x t V cd n f z).pays htab hfr (by omega)
end Len
end StrChars
namespace StrChars.Road
open Jvm Sem ClassFile Op Lib Jvm.Stand Jvm.Free Jvm.Free.XT
open Jvm.Lib.Cold (StaticIs)
theorem consq {a : Array Value} {s : State} {c : Jvm.Cond} {L : List Jvm.Cond} (h0 : c.before a s = true) (h : ∀ w ∈ L, w.before a s = true) : ∀ w ∈ c :: L, w.before a s = true := fun w hw => (List.mem_cons.mp hw).elim (fun e => e ▸ h0) (h w)
/-- the words of String.length(), either coding -/
abbrev wordsLen : List Jvm.Cond := [.code Len.yN Len.yB 1 (some .int), .initialized ST, .fieldLink ST 9 ST "value" "[B", .fieldLink ST 38 ST "COMPACT_STRINGS" "Z", .fieldLink ST 15 ST "coder" "B", .code Cdr.yN Cdr.yB 1 (some .byte), .methodLink ST 335 Cdr.yN, .declares Cdr.yN, .selects ST Cdr.yN Cdr.yN, .instanceMethod Cdr.yN]
theorem tabLen_of {a : Array Value} {s : State} (h : ∀ w ∈ wordsLen, w.before a s = true) : Len.tab.before a s = true := by
  have hc : Cdr.tab.before a s = true := unparts (wk h (.code Cdr.yN Cdr.yB 1 (some .byte))) (wks h (.initialized Cdr.yN.cls :: Cdr.site))
  have q := consq hc h
  exact unparts (wk q (.code Len.yN Len.yB 1 (some .int))) (wks q (.initialized Len.yN.cls :: Len.site))
theorem movedLen {Z s : State} {a0 args : Array Value} (hZ : Z.Warmed39 s.vm) (hw : ∀ d ∈ wordsLen, d.before a0 Z = true) : ∀ d ∈ wordsLen, d.before args s = true := fun d hd => by
  have q := hw d hd
  have t : ∀ d ∈ wordsLen, d = .arrayClass .byte ∨ (d.onTables && d.keepsFace) = true := by decide +kernel
  rcases t d hd with rfl | t
  · exact RoadKit.mvA hZ q
  · exact RoadKit.mv hZ q t
/-- the bytes of the chars cs, low before high -/
def wideBytes : List Int32 → List Value
  | [] => []
  | c :: cs => .int (lo8 c) :: .int (hi8 c) :: wideBytes cs
theorem wide_lo (d : Value) : ∀ (cs : List Int32) (j : Nat), j < cs.length → (wideBytes cs).getD (2 * j) d = .int (lo8 (cs.getD j 0))
  | [], j, h => absurd h (Nat.not_lt_zero j)
  | c :: cs, 0, _ => rfl
  | c :: cs, j + 1, h => by
    have q := wide_lo d cs j (by simpa using h)
    rw [show 2 * (j + 1) = 2 * j + 1 + 1 from by omega]
    simpa [wideBytes] using q
theorem wide_hi (d : Value) : ∀ (cs : List Int32) (j : Nat), j < cs.length → (wideBytes cs).getD (2 * j + 1) d = .int (hi8 (cs.getD j 0))
  | [], j, h => absurd h (Nat.not_lt_zero j)
  | c :: cs, 0, _ => rfl
  | c :: cs, j + 1, h => by
    have q := wide_hi d cs j (by simpa using h)
    rw [show 2 * (j + 1) + 1 = 2 * j + 1 + 1 + 1 from by omega]
    simpa [wideBytes] using q
theorem low_at (d : Value) (cs : List Int32) (j : Nat) (h : j < cs.length) : (cs.map fun c => Value.int (lo8 c)).getD j d = .int (lo8 (cs.getD j 0)) := by
  simp [List.getD_eq_getElem?_getD, h]
/-- an array of N2 bytes vs codes the chars cs by the coder cd -/
def CodA (cs : List Int32) (cd N2 : Int32) (vs : List Value) : Prop := (cd = 0 ∧ N2 = Int32.ofNat cs.length ∧ vs = (cs.map fun c => Value.int (lo8 c)) ∧ ∀ c ∈ cs, ¬ 255 < c) ∨ (cd = 1 ∧ N2 = Int32.ofNat (2 * cs.length) ∧ vs = wideBytes cs ∧ ∃ c ∈ cs, 255 < c)
theorem CodA.cod {cs : List Int32} {cd N2 : Int32} {vs : List Value} {V : Cell} (h : CodA cs cd N2 vs) (hn : 2 * cs.length < 2 ^ 31) (hs : V.slots.size = N2.toNatClampNeg) (hv : RoadKit.Has V vs (.int 0)) : Cod cd cs.length (fun j => cs.getD j 0) V := by
  rcases h with ⟨rfl, rfl, rfl, h⟩ | ⟨rfl, rfl, rfl, c, hc, hw⟩
  · rw [n32 (by omega)] at hs
    exact Or.inl ⟨rfl, hs, fun j hj => ⟨by rw [hv j (by omega), low_at _ _ _ hj], by
      have e : cs.getD j 0 = cs[j] := by simp [List.getD_eq_getElem?_getD, hj]
      show ¬ 255 < cs.getD j 0
      rw [e]; exact h _ (List.getElem_mem _)⟩⟩
  · rw [n32 (by omega)] at hs
    obtain ⟨j, hj, rfl⟩ := List.getElem_of_mem hc
    exact Or.inr ⟨rfl, hs, fun j hj => ⟨by rw [hv _ (by omega), wide_lo _ _ _ hj], by rw [hv _ (by omega), wide_hi _ _ _ hj]⟩, j, hj, by
      have e : cs.getD j 0 = cs[j] := by simp [List.getD_eq_getElem?_getD, hj]
      show 255 < cs.getD j 0
      rw [e]; exact hw⟩
/-- an object of exactly java/lang/String, its two fields found: as the laws ask it -/
theorem strObj {Z U : State} {a0 : Array Value} {kI : Nat} (wi : (Jvm.Cond.instantiable ST kI).before a0 Z = true) (al : Z.vm.Alike U.vm) {x : Addr} {v0 c0 : Value} (E : RoadKit.Exa Z U.heap x ST) (V : RoadKit.Fld Z U.heap x ST "value" "[B" v0) (C : RoadKit.Fld Z U.heap x ST "coder" "B" c0) :
    ∃ (D : Cell) (fV fC : Field), Blank ST x D U ∧ Found ST "value" "[B" fV U ∧ Found ST "coder" "B" fC U ∧ D.slots[fV.slot]? = some v0 ∧ D.slots[fC.slot]? = some c0 ∧ RoadKit.slotOf Z ST "value" "[B" = fV.slot ∧ RoadKit.slotOf Z ST "coder" "B" = fC.slot := by
  obtain ⟨D, cfV, kV, iV, fV, hD, gV, stV, knV, obV, asV, slV⟩ := V
  obtain ⟨D', cfC, kC, iC, fC, hD', gC, stC, -, -, asC, slC⟩ := C
  cases hD.symm.trans hD'
  obtain ⟨D2, kD, e1, e2, e3, e4, e5⟩ := E
  cases hD.symm.trans e1
  obtain ⟨c2, k2, i1, i2, i3, -⟩ := Cond.instantiable_spec wi
  cases e2.symm.trans i1
  cases e3.symm.trans i2
  obtain ⟨kU, u1, u2⟩ := al.2.2 _ _ e3
  exact ⟨D, fV, fC, ⟨hD, ⟨knV, fun q hq => by rw [hq] at obV; cases obV⟩, by rw [al.findClass]; exact e2, kU, u1, by rw [u2]; exact i3, by rw [u2]; exact e5 i3⟩, ⟨SBG.found_only al ⟨cfV, kV, iV, gV⟩, stV⟩, ⟨SBG.found_only al ⟨cfC, kC, iC, gC⟩, stC⟩, slV, slC, by simp [RoadKit.slotOf, gV], by simp [RoadKit.slotOf, gC]⟩
theorem sta_is {Z U : State} (al : Z.vm.Alike U.vm) {C n d : String} {v : Value} (S : RoadKit.Sta Z U.heap C n d v) : StaticIs U C n d v := by
  obtain ⟨cfS, iS, kS, fS, st, cS, t1, t2, t3, t4, t5, t6, t7⟩ := S
  exact StaticIs.there (s := { Z with heap := U.heap }) ⟨cfS, iS, kS, fS, st, cS, t1, t2, t3, t4, t5, (fun q => by rw [q] at t6; cases t6), t7⟩ al rfl
/-- **length() OF SUCH A STRING** -/
theorem lenW {p : Program} {l : Launch} {e : Env} {R : Room} {s : State} {args : Array Value} {below : List Frame} {len W : Nat} {Z : State} {a0 : Array Value} {h : Heap} (hZ : Z.Warmed39 s.vm) (hw : ∀ d ∈ wordsLen, d.before a0 Z = true) {kI : Nat} (wi : (Jvm.Cond.instantiable ST kI).before a0 Z = true)
    {x t : Addr} {kb : ClassId} {cs : List Int32} {cd N2 z : Int32} {vs : List Value} (E : RoadKit.Exa Z h x ST) (V : RoadKit.Fld Z h x ST "value" "[B" (.ref t)) (C : RoadKit.Fld Z h x ST "coder" "B" (.int cd)) (K : RoadKit.Arv Z h t kb .byte N2 vs (.int 0)) (hc : CodA cs cd N2 vs) (hb : ∀ c ∈ cs, ¬ c < 0 ∧ ¬ (65535 : Int32) < c)
    (S : RoadKit.Sta Z h ST "COMPACT_STRINGS" "Z" (.int z)) (hz : ¬ z = 0) (l2 : cs.length ≤ 4000) (hfr : 2 ≤ R.frames) (hlo : W + 25 ≤ R.locals) :
    Back l R p e below s args (⟨"java/lang/String", "length", "()I"⟩ : MethodName) len W (fun P a => a = #[.ref x] ∧ P.U.heap = h ∧ P.cells + 0 ≤ R.cells ∧ P.slots + 0 ≤ R.slots)
      (fun P _ v B => ∃ L, (v = some (.int (Int32.ofNat cs.length)) ∧ L = [] ∧ B.U.heap = h) ∧ B.locs = P.locs ++ L ∧ B.cells = P.cells + 0 ∧ B.slots = P.slots + 0) := by
  obtain ⟨A, K1, K2, K3, K4, K5, K6⟩ := K
  have hcod := hc.cod (by omega) K3 K5
  intro m meth c P g ig mk a X hg hsize hdg hW hn hp'
  obtain ⟨rfl, rfl, r1, r2⟩ := hp'
  have al : Z.vm.Alike P.U.vm := hZ.alike.trans X.warmed.alike
  obtain ⟨D, fV, fC, hB, F1, F2, g1, g2, -, -⟩ := strObj wi al E V C
  have hx : Txt x t A cd cs.length (fun j => cs.getD j 0) P.U := ⟨⟨_, hB.2.2.1, D, hB.1, rfl, by cases q : D.vm <;> first | rfl | exact absurd q (hB.2.1.2 _)⟩, Has.of hB F1 g1, Has.of hB F2 g2, ⟨K1.1, State.isArrayOf_alike al K1.2.1, K1.2.2, by rcases hcod with ⟨-, q, -⟩ | ⟨-, q, -⟩ <;> omega⟩, hcod, fun j hj => by
    have e : cs.getD j 0 = cs[j] := by simp [List.getD_eq_getElem?_getD, hj]
    show ¬ cs.getD j 0 < 0 ∧ ¬ 65535 < cs.getD j 0
    rw [e]; exact hb _ (List.getElem_mem _)⟩
  obtain ⟨v, B, X', ⟨⟨hv, hh⟩, hl, hk, hs⟩, st⟩ := Len.pays x t A cd cs.length (fun j => cs.getD j 0) z (tabLen_of (movedLen hZ hw)) hfr hlo m meth c P g ig mk _ X hg hsize hdg hW hn ⟨r1, r2, rfl, hx, sta_is al S, hz⟩
  exact ⟨v, B, X', ⟨[], ⟨hv, rfl, hh⟩, hl, hk, hs⟩, st⟩
end StrChars.Road
namespace StrChars.Road
open Jvm Sem ClassFile Op Lib Jvm.Stand Jvm.Free Jvm.Free.XT
open Jvm.Lib.Cold (StaticIs)
/-- what backV says of its String, as the contracts of this text ask it: cs's low bytes, coder 0 -/
theorem codOf {cs : List Int32} {n : Nat} (hn : cs.length = n) (hb : ∀ c ∈ cs, ¬ 255 < c) : CodA cs 0 (Int32.ofNat n) ((cs.map lo8).map Value.int) := Or.inl ⟨rfl, by rw [hn], by simp [List.map_map, Function.comp_def], hb⟩
end StrChars.Road
end Jvm.Pilot.@@N@@
namespace Jvm.Pilot.@@N@@
open Jvm Jvm.ClassFile Sem Op Lib Jvm.Free Jvm.Stand Jvm.LawKit Jvm.RoadKit Bundle Jvm.Pilot.@@N@@.Jvm.D
abbrev CL : List (String × Nat) := []
/-! OWN KIT: a forward form of the walk (Rc: the run has come to pc with these locals, this stack and this heap), over the library's Stand. -/
section OwnKit
open Jvm.Free.SB Jvm.Free.SBG
def Sx (Z : State) (h : Heap) (Ds : List Addr) (a : Addr) (units : Array UInt16) : Prop :=
  ∃ (q : SQ) (cS : ClassId), q.sa = a ∧ Sl q cS ({ Z with heap := h } : State) ∧ (∃ kS : Class, Z.vm.classes[cS]? = some kS ∧ kS.kind = .ordinary ∧ q.sC.slots.size = kS.instanceTypes.size) ∧ Z.vm.findClass "[B" = some q.SA.cls ∧ q.SA.slots = stringBytes units ∧ q.sa ∉ Ds ∧ q.sd ∉ Ds
theorem own_al (Z : State) : Z.vm.Alike Z.vm := (State.Warmed39.refl Z).alike
theorem Sx.keep {Z : State} {h h' : Heap} {Ds ws : List Addr} {a : Addr} {u : Array UInt16} (F : Sx Z h Ds a u) (K : Keep h h' ws) (q : ∀ x ∈ ws, x ∈ Ds) : Sx Z h' Ds a u := by
  obtain ⟨s, cS, h1, h2, h3, h4, h5, h6, h7⟩ := F
  exact ⟨s, cS, h1, Sl.carry (U := ({ Z with heap := h } : State)) (U' := ({ Z with heap := h' } : State)) (own_al Z) (K.2.1 _ _ h2.1.1 (fun m => h6 (q _ m))) (K.2.1 _ _ h2.1.2.2.2.2.2.2.2.2.2.1 (fun m => h7 (q _ m))) h2, h3, h4, h5, h6, h7⟩
theorem Sx.less {Z : State} {h : Heap} {Ds Ds' : List Addr} {a : Addr} {u : Array UInt16} (F : Sx Z h Ds a u) (q : ∀ x ∈ Ds', x ∈ Ds) : Sx Z h Ds' a u := by
  obtain ⟨s, cS, h1, h2, h3, h4, h5, h6, h7⟩ := F
  exact ⟨s, cS, h1, h2, h3, h4, h5, fun m => h6 (q _ m), fun m => h7 (q _ m)⟩
theorem Sx.more {Z : State} {h : Heap} {Ds : List Addr} {a b : Addr} {u : Array UInt16} (F : Sx Z h Ds a u) (hb : h.size ≤ b) : Sx Z h (b :: Ds) a u := by
  obtain ⟨s, cS, h1, h2, h3, h4, h5, h6, h7⟩ := F
  have l1 : s.sa < h.size := (Array.getElem?_eq_some_iff.mp h2.1.1).1
  have l2 : s.sd < h.size := (Array.getElem?_eq_some_iff.mp h2.1.2.2.2.2.2.2.2.2.2.1).1
  refine ⟨s, cS, h1, h2, h3, h4, h5, fun m => ?_, fun m => ?_⟩
  · rcases List.mem_cons.mp m with e | e
    · exact absurd e (Nat.ne_of_lt (Nat.lt_of_lt_of_le l1 hb))
    · exact h6 e
  · rcases List.mem_cons.mp m with e | e
    · exact absurd e (Nat.ne_of_lt (Nat.lt_of_lt_of_le l2 hb))
    · exact h7 e
def Lk (Z : State) : Prop := ∀ (own : String) (idx : Nat), (own, idx) ∈ CL → ∃ (a0 : Array Value) (text : String), (Jvm.Cond.stringLink own idx text).before a0 Z = true ∧ (∀ c ∈ text.toList, c.toNat < 256) ∧ ∀ d ∈ Bundle.stringAtoms, d.before a0 Z = true
def JJ (Z : State) (n0 : Nat) (vm : Vm) (h : Heap) (Ds : List Addr) : Prop :=
  Old Z n0 h ∧ (CL = [] → Z.WarmedH vm) ∧ (∀ x ∈ Ds, n0 ≤ x ∧ x < h.size) ∧ Lk Z ∧
    ∀ (own : String) (idx : Nat), (own, idx) ∈ CL → ∀ (c : ClassId) (k : Class) (cf : ClassFile) (i : Nat) (units : Array UInt16) (a : Addr), vm.findClass own = some c → vm.classes[c]? = some k → k.cf = some cf →
      cf.constantPool[idx]? = some (.string i) → cf.constantPool[i]? = some (.utf8 units) →
      (k.resolved[idx]? = some (some (.string a)) ∨ (k.resolved[idx]? = some none ∧ vm.interned.find? (fun p => p.1 == units) = some (units, a))) → Sx Z h Ds a units
theorem JJ.keep {Z : State} {n0 : Nat} {vm : Vm} {h h' : Heap} {Ds ws : List Addr} (J : JJ Z n0 vm h Ds) (K : Keep h h' ws) (q : ∀ x ∈ ws, x ∈ Ds) : JJ Z n0 vm h' Ds :=
  ⟨J.1.keep K (fun x hx => (J.2.2.1 x (q x hx)).1), J.2.1, fun x hx => ⟨(J.2.2.1 x hx).1, Nat.lt_of_lt_of_le (J.2.2.1 x hx).2 K.1⟩, J.2.2.2.1, fun o i hm c k cf j u a q1 q2 q3 q4 q5 q6 => (J.2.2.2.2 o i hm c k cf j u a q1 q2 q3 q4 q5 q6).keep K q⟩
theorem JJ.ext {Z : State} {n0 : Nat} {vm : Vm} {h h' : Heap} {Ds : List Addr} (J : JJ Z n0 vm h Ds) (E : Ext h h') : JJ Z n0 vm h' Ds := J.keep ((Keep.refl h []).ext E) (fun x hx => nomatch hx)
theorem JJ.less {Z : State} {n0 : Nat} {vm : Vm} {h : Heap} {Ds Ds' : List Addr} (J : JJ Z n0 vm h Ds) (q : ∀ x ∈ Ds', x ∈ Ds) : JJ Z n0 vm h Ds' :=
  ⟨J.1, J.2.1, fun x hx => J.2.2.1 x (q x hx), J.2.2.2.1, fun o i hm c k cf j u a q1 q2 q3 q4 q5 q6 => (J.2.2.2.2 o i hm c k cf j u a q1 q2 q3 q4 q5 q6).less q⟩
theorem own_n0 {Z : State} {n0 : Nat} {h : Heap} (X : Old Z n0 h) : n0 ≤ h.size := X.1 ▸ X.2.1
theorem JJ.born {Z : State} {n0 : Nat} {vm : Vm} {h h' : Heap} {Ds : List Addr} (J : JJ Z n0 vm h Ds) (E : Ext h h') (hb : h.size < h'.size) : JJ Z n0 vm h' (h.size :: Ds) := by
  refine ⟨J.1.ext E, J.2.1, fun x hx => ?_, J.2.2.2.1, fun o i hm c k cf j u a q1 q2 q3 q4 q5 q6 => ((J.2.2.2.2 o i hm c k cf j u a q1 q2 q3 q4 q5 q6).more (Nat.le_refl _)).keep ((Keep.refl h []).ext E) (fun x hx => nomatch hx)⟩
  rcases List.mem_cons.mp hx with e | e
  · subst e; exact ⟨own_n0 J.1, hb⟩
  · exact ⟨(J.2.2.1 x e).1, Nat.lt_of_lt_of_le (J.2.2.1 x e).2 E.1⟩
theorem JJ.step {Z t : State} {n0 : Nat} {vm' : Vm} {h : Heap} {Ds : List Addr} (J : JJ Z n0 t.vm h Ds) (hZ : Z.Warmed39 t.vm) (hW : t.Warmed39 vm')
    (hint : vm'.interned = t.vm.interned ∨ ∃ (u : Array UInt16) (a' : Addr), vm'.interned = t.vm.interned.push (u, a') ∧ (t.vm.interned.find? (fun p => p.1 == u) = none → Sx Z h Ds a' u)) (hcl : CL = [] → Z.WarmedH vm') : JJ Z n0 vm' h Ds := by
  refine ⟨J.1, hcl, J.2.2.1, J.2.2.2.1, fun own idx hm c k' cf i units a hc' hk' hcf' hp hu hor => ?_⟩
  obtain ⟨a0, text, w, hlat, -⟩ := J.2.2.2.1 own idx hm
  have hal : t.vm.Alike vm' := hW.alike
  have hc : t.vm.findClass own = some c := by rw [← hal.findClass]; exact hc'
  have wt : (Jvm.Cond.stringLink own idx text).before a0 t = true := mvS (s := t) (vm0 := t.vm) hZ w
  obtain ⟨k, cf0, i0, units0, hk, hcf, hp0, hu0, hnm, htext, -⟩ := Cond.stringLink_spec hc wt
  obtain ⟨k'', hk'', hke, -, ee, -⟩ := hW.2.2.2 c k hk
  cases hk'.symm.trans hk''
  have hcfk : k'.cf = k.cf := by rw [hke]
  cases (hcfk ▸ hcf').symm.trans hcf
  cases hp.symm.trans hp0
  cases hu.symm.trans hu0
  have base := fun a => J.2.2.2.2 own idx hm c k cf i units a hc hk hcf hp hu
  have hfind : ∀ a, vm'.interned.find? (fun p => p.1 == units) = some (units, a) → k.resolved[idx]? = some none → Sx Z h Ds a units := by
    intro a hf hop
    rcases hint with e | ⟨u, a', e, hS⟩
    · rw [e] at hf; exact base a (Or.inr ⟨hop, hf⟩)
    · rw [e, Array.find?_push] at hf
      cases hs : t.vm.interned.find? (fun p => p.1 == units) with
      | some pr =>
        rw [hs] at hf
        have hpr : pr = (units, a) := by simpa using hf
        exact base a (Or.inr ⟨hop, by rw [hs, hpr]⟩)
      | none =>
        rw [hs, Option.none_or] at hf
        by_cases hb : (u == units) = true
        · have hu' : u = units := by simpa using hb
          subst hu'
          have : a' = a := by simpa using hf
          subst this
          exact hS hs
        · simp [hb] at hf
  rcases ee idx with e0 | ⟨hop, r, e1, hr | ⟨a3, t', si, us, rfl, -, q3, q4, q5⟩⟩
  · rcases hor with h0 | ⟨h0, hf⟩
    · exact base a (Or.inl (e0 ▸ h0))
    · exact hfind a hf (e0 ▸ h0)
  · exfalso
    cases r <;> simp [State.rightAt, hk, hcf, hnm] at hr
  · rw [hcf] at q3 q4
    have e3 : si = i := by
      have := q3.symm.trans hp
      simpa using this
    subst e3
    have e4 : us = units := by simpa [ConstantPool.utf8?, hu] using q4.symm
    subst e4
    rcases hor with h0 | ⟨h0, -⟩
    · have ea : a3 = a := by have := e1.symm.trans h0; simpa using this
      subst ea
      exact hfind a3 q5 hop
    · have := e1.symm.trans h0; simp at this
theorem JJ.warm {Z t : State} {n0 : Nat} {vm' : Vm} {h : Heap} {Ds : List Addr} (J : JJ Z n0 t.vm h Ds) (hZ : Z.Warmed39 t.vm) (hW : t.WarmedH vm') : JJ Z n0 vm' h Ds :=
  J.step hZ hW.wide (Or.inl hW.interned_eq) (fun e => State.WarmedH.trans (J.2.1 e) hW)
abbrev Cx : Type := Program × Launch × Env × State × MethodId × Array Value × List Frame × Method × Code × State
abbrev Cx.p (C : Cx) : Program := C.1
abbrev Cx.l (C : Cx) : Launch := C.2.1
abbrev Cx.e (C : Cx) : Env := C.2.2.1
abbrev Cx.s (C : Cx) : State := C.2.2.2.1
abbrev Cx.m (C : Cx) : MethodId := C.2.2.2.2.1
abbrev Cx.args (C : Cx) : Array Value := C.2.2.2.2.2.1
abbrev Cx.below (C : Cx) : List Frame := C.2.2.2.2.2.2.1
abbrev Cx.meth (C : Cx) : Method := C.2.2.2.2.2.2.2.1
abbrev Cx.c (C : Cx) : Code := C.2.2.2.2.2.2.2.2.1
abbrev Cx.s0 (C : Cx) : State := C.2.2.2.2.2.2.2.2.2
/-- the run has come to pc -/
def Rc (C : Cx) (R : Room) (own : String) (bs : ByteArray) (ml : Nat) (Z : State) (n0 ce sl pc : Nat) (Ls : Array Slot) (S : List Value) (h : Heap) (Ds : List Addr) : Prop :=
  ∃ (T : State) (locs : List Loc) (vm0 : Vm) (k0 : Nat), Stand C.p C.l C.e R (C.s.setVm vm0) C.m C.args C.below C.meth C.c T locs ce sl ∧ C.s.Since vm0 k0 ∧ k0 ≤ h.size ∧ Z.Warmed39 vm0 ∧ JJ Z n0 vm0 h Ds ∧ T.heap = h ∧ Fr n0 locs ∧
    (C.p.tables.exec = Jvm.exec ∧ C.c.code = bs ∧ C.c.maxLocals = ml ∧ vm0.findClass own = some C.m.cls ∧ C.meth.locks = false) ∧
    ∀ t, Steps C.p.tables C.e C.below (T.setTop (mkF C.m pc Ls S)) t → Steps C.p.tables C.e C.below C.s0 t
/-- the invocation has ended -/
def Done (C : Cx) (Z : State) (n0 : Nat) (Q : Option Value → Heap → List Addr → Prop) (kc ks : Nat) : Prop :=
  ∃ (t : State) (o : Outcome), Steps C.p.tables C.e C.below C.s0 t ∧ t.status = .running ∧ Ended t C.below o ∧ ∃ (v : Option Value) (L : List Loc) (Ds : List Addr), o = .returned v ∧ Q v t.heap Ds ∧ JJ Z n0 t.vm t.heap Ds ∧ Fr n0 L ∧ ReturnedEndW C.s o t L kc ks
/-- a contract -/
def Ctr (l : Launch) (Z : State) (y : MethodName) (bytes : ByteArray) (maxL : Nat) (ret : Option FieldType) (ws : List Jvm.Cond) (rm : Room) (as' : Array Value) (h : Heap) (n0 : Nat) (Ds : List Addr) (Q : Option Value → Heap → List Addr → Prop) : Prop :=
  MetFree l y (head1 (Jvm.Cond.code y bytes maxL ret :: ws) rm) (fun a U => a = as' ∧ Z.Warmed39 U.vm ∧ U.heap = h ∧ JJ Z n0 U.vm h Ds) (fun _ _ _ _ _ => True)
    (fun _ U o U' => ∃ (v : Option Value) (L : List Loc) (Ds' : List Addr), o = .returned v ∧ Q v U'.heap Ds' ∧ JJ Z n0 U'.vm U'.heap Ds' ∧ Fr n0 L ∧ ReturnedEndW U o U' L rm.cells rm.slots)
theorem ctr_of {l : Launch} {Z : State} {y : MethodName} {bytes : ByteArray} {maxL : Nat} {ret : Option FieldType} {ws : List Jvm.Cond} {rm : Room} {as' : Array Value} {h : Heap} {n0 : Nat} {Ds : List Addr} {Q : Option Value → Heap → List Addr → Prop} {Ls : Array Slot}
    (pf : plainFor y = true) (ef : ∀ m : MethodId, entryFrame m as' maxL = mkF m 0 Ls [])
    (wk : ∀ C : Cx, C.l = l → C.meth.sig.returnType = ret → C.meth.name = y.name → Rc C rm y.cls bytes maxL Z n0 0 0 0 Ls [] h Ds → Done C Z n0 Q rm.cells rm.slots) : Ctr l Z y bytes maxL ret ws rm as' h n0 Ds Q := by
  refine MetFree.of_bodySF pf hisR ?_
  intro p e s m args below meth c s₁ Bd hml0 hP hK
  obtain ⟨rfl, hZ, hh, hJ⟩ := hP
  have X0 : Stand p l e rm s m args below meth c s₁ [] 0 0 := Stand.of_body Bd
  have e0 : s₁.heap = h := by rw [← hh, Bd.state]; rfl
  have hown : s.vm.findClass y.cls = some m.cls := findClass_of_methodNamed Bd.named
  have hnm := (name_of_methodNamed Bd.named Bd.method).1
  have hlk : meth.locks = false := BodyLoose.notSynchronized Bd
  exact wk (p, l, e, s, m, args, below, meth, c, s₁.setTop (entryFrame m args maxL)) rfl Bd.returns hnm
    ⟨s₁, [], s.vm, 0, X0, (State.WarmedH.refl s).since 0, Nat.zero_le _, hZ, hJ, e0, Fr.nil n0, ⟨Bd.exec, Bd.bytes, hml0, hown, hlk⟩, fun t k => castTop (ef m) k⟩
theorem ctrBack {l : Launch} {R : Room} {p : Program} {e : Env} {below : List Frame} {s : State} {args : Array Value} {Z : State} {a0 : Array Value} {h : Heap} {n0 : Nat} {Ds : List Addr} {y : MethodName} {bytes : ByteArray} {maxL : Nat} {ret : Option FieldType} {rm : Room} {len W : Nat} {as' : Array Value} {Q : Option Value → Heap → List Addr → Prop}
    (hM : Ctr l Z y bytes maxL ret [] rm as' h n0 Ds Q) (hZ : Z.Warmed39 s.vm) (hJ : JJ Z n0 s.vm h Ds) (wc : (Jvm.Cond.code y bytes maxL ret).before a0 Z = true) (wz : (Jvm.Cond.initialized y.cls).before a0 Z = true) (hf : rm.frames + 1 ≤ R.frames) (hl : W + (maxL + 11) + rm.locals ≤ R.locals) :
    BackS l R p e below s args y len W (fun A a => a = as' ∧ A.U.heap = h ∧ A.cells + rm.cells ≤ R.cells ∧ A.slots + rm.slots ≤ R.slots)
      (fun A _ v B => ∃ (L : List Loc) (Ds' : List Addr), Q v B.U.heap Ds' ∧ JJ Z n0 B.U.vm B.U.heap Ds' ∧ Fr n0 L ∧ B.locs = A.locs ++ L ∧ B.cells = A.cells + rm.cells ∧ B.slots = A.slots + rm.slots) :=
  BackS.of_freeW (bytes := bytes) (maxL := maxL) (ret := ret) (E := fun _ _ o t L k n => k = rm.cells ∧ n = rm.slots ∧ ∃ (v : Option Value) (Ds' : List Addr), o = .returned v ∧ Q v t.heap Ds' ∧ JJ Z n0 t.vm t.heap Ds' ∧ Fr n0 L) hM hf hl
    (fun m meth c A a Y hp => have hU : Z.Warmed39 A.U.vm := wtrans hZ Y.warmed
      ⟨by show (Jvm.Cond.and _ .tt).before a A.U = true; rw [Cond.before_and, mv hU wc]; rfl, mv hU wc, mv hU wz, hp.2.2.1, hp.2.2.2⟩)
    (fun m meth c A a g mk Y hp => ⟨hp.1, wtrans hZ Y.warmed, hp.2.1, hJ.warm hZ Y.warmed⟩) (fun _ _ _ _ _ _ _ _ _ => trivial)
    (fun _ _ _ _ ⟨v, L, Ds', h1, h2, h3, h4, h5⟩ => ⟨L, _, _, h5, rfl, rfl, v, Ds', h1, h2, h3, h4⟩)
    (fun m meth c A a g mk v t L k n Y hp _ _ ⟨e1, e2, v', Ds', e3, e4, e5, e6⟩ => by cases e3; subst e1 e2; exact ⟨L, Ds', e4, e5, e6, rfl, rfl, rfl⟩)
variable {C : Cx} {R : Room} {own : String} {bs : ByteArray} {ml : Nat} {Z : State} {n0 ce sl pc : Nat} {Ls : Array Slot} {S rest : List Value} {h : Heap} {Ds : List Addr} {a0 : Array Value}
theorem Rc.go {pc' : Nat} {Ls' : Array Slot} {S' : List Value} (H : Rc C R own bs ml Z n0 ce sl pc Ls S h Ds) (f : ∀ T t, At T C.m C.c C.below → C.p.tables.exec = Jvm.exec → C.c.code = bs → Steps C.p.tables C.e C.below (T.setTop (mkF C.m pc' Ls' S')) t → Steps C.p.tables C.e C.below (T.setTop (mkF C.m pc Ls S)) t) : Rc C R own bs ml Z n0 ce sl pc' Ls' S' h Ds := by
  obtain ⟨T, locs, vm0, k0, X, h1, h2, h3, h4, h5, h6, h7, k⟩ := H
  exact ⟨T, locs, vm0, k0, X, h1, h2, h3, h4, h5, h6, h7, fun t ht => k _ (f T t X.here h7.1 h7.2.1 ht)⟩
theorem Rc.goX {pc' : Nat} {Ls' : Array Slot} {S' : List Value} (H : Rc C R own bs ml Z n0 ce sl pc Ls S h Ds) (f : ∀ (s : State) (T : State) (locs : List Loc) t, Stand C.p C.l C.e R s C.m C.args C.below C.meth C.c T locs ce sl → Z.Warmed39 s.vm → s.vm.findClass own = some C.m.cls → T.heap = h → C.p.tables.exec = Jvm.exec → C.c.code = bs → Steps C.p.tables C.e C.below (T.setTop (mkF C.m pc' Ls' S')) t → Steps C.p.tables C.e C.below (T.setTop (mkF C.m pc Ls S)) t) : Rc C R own bs ml Z n0 ce sl pc' Ls' S' h Ds := by
  obtain ⟨T, locs, vm0, k0, X, h1, h2, h3, h4, h5, h6, h7, k⟩ := H
  exact ⟨T, locs, vm0, k0, X, h1, h2, h3, h4, h5, h6, h7, fun t ht => k _ (f _ T locs t X h3 h7.2.2.2.1 h5 h7.1 h7.2.1 ht)⟩
theorem Rc.stk {S' : List Value} (H : Rc C R own bs ml Z n0 ce sl pc Ls S h Ds) (e : S = S') : Rc C R own bs ml Z n0 ce sl pc Ls S' h Ds := e ▸ H
theorem Rc.loc {Ls' : Array Slot} (H : Rc C R own bs ml Z n0 ce sl pc Ls S h Ds) (e : Ls = Ls') : Rc C R own bs ml Z n0 ce sl pc Ls' S h Ds := e ▸ H
theorem Rc.old (H : Rc C R own bs ml Z n0 ce sl pc Ls S h Ds) : Old Z n0 h := by
  obtain ⟨T, locs, vm0, k0, X, h1, h2, h3, h4, h5, h6, h7, k⟩ := H
  exact h4.1
theorem Rc.mem (H : Rc C R own bs ml Z n0 ce sl pc Ls S h Ds) {x : Addr} (hx : x ∈ Ds) : n0 ≤ x ∧ x < h.size := by
  obtain ⟨T, locs, vm0, k0, X, h1, h2, h3, h4, h5, h6, h7, k⟩ := H
  exact h4.2.2.1 x hx
theorem Rc.mono {ce' sl' : Nat} (H : Rc C R own bs ml Z n0 ce sl pc Ls S h Ds) (h1 : ce ≤ ce') (h2 : sl ≤ sl') : Rc C R own bs ml Z n0 ce' sl' pc Ls S h Ds := by
  obtain ⟨T, locs, vm0, k0, X, r⟩ := H
  exact ⟨T, locs, vm0, k0, X.mono h1 h2, r⟩
theorem Rc.less {Ds' : List Addr} (H : Rc C R own bs ml Z n0 ce sl pc Ls S h Ds) (q : ∀ x ∈ Ds', x ∈ Ds) : Rc C R own bs ml Z n0 ce sl pc Ls S h Ds' := by
  obtain ⟨T, locs, vm0, k0, X, h1, h2, h3, h4, r⟩ := H
  exact ⟨T, locs, vm0, k0, X, h1, h2, h3, h4.less q, r⟩
theorem Rc.iload {pc' : Nat} {k : Nat} {v : Int32} (H : Rc C R own bs ml Z n0 ce sl pc Ls S h Ds) (hd : decode bs pc = .ok (.iload k, 2)) (hl : Ls[k]? = some (.val (.int v))) (hp : pc + 2 = pc') : Rc C R own bs ml Z n0 ce sl pc' Ls (.int v :: S) h Ds := by
  subst hp
  exact H.go fun T t hA hx hby kk => XS.iload hA hx rfl (hb hby hd) hl kk
theorem Rc.iloadN {pc' : Nat} {k : Fin 4} {v : Int32} (H : Rc C R own bs ml Z n0 ce sl pc Ls S h Ds) (hd : decode bs pc = .ok (.iload_n k, 1)) (hl : Ls[k.val]? = some (.val (.int v))) (hp : pc + 1 = pc') : Rc C R own bs ml Z n0 ce sl pc' Ls (.int v :: S) h Ds := by
  subst hp
  exact H.go fun T t hA hx hby kk => XS.iloadN hA hx rfl (hb hby hd) hl kk
theorem Rc.aload {pc' : Nat} {k : Nat} {v : Value} (H : Rc C R own bs ml Z n0 ce sl pc Ls S h Ds) (hd : decode bs pc = .ok (.aload k, 2)) (hl : Ls[k]? = some (.val v)) (hv : v.isRef = true) (hp : pc + 2 = pc') : Rc C R own bs ml Z n0 ce sl pc' Ls (v :: S) h Ds := by
  subst hp
  exact H.go fun T t hA hx hby kk => XS.aload hA hx rfl (hb hby hd) hl hv kk
theorem Rc.aloadN {pc' : Nat} {k : Fin 4} {v : Value} (H : Rc C R own bs ml Z n0 ce sl pc Ls S h Ds) (hd : decode bs pc = .ok (.aload_n k, 1)) (hl : Ls[k.val]? = some (.val v)) (hv : v.isRef = true) (hp : pc + 1 = pc') : Rc C R own bs ml Z n0 ce sl pc' Ls (v :: S) h Ds := by
  subst hp
  exact H.go fun T t hA hx hby kk => XS.aloadN hA hx rfl (hb hby hd) hl hv kk
theorem Rc.lload {pc' : Nat} {k : Nat} {v : Int64} (H : Rc C R own bs ml Z n0 ce sl pc Ls S h Ds) (hd : decode bs pc = .ok (.lload k, 2)) (hl : Ls[k]? = some (.val (.long v))) (hp : pc + 2 = pc') : Rc C R own bs ml Z n0 ce sl pc' Ls (.long v :: S) h Ds := by
  subst hp
  exact H.go fun T t hA hx hby kk => XS.lload hA hx rfl (hb hby hd) hl kk
theorem Rc.lloadN {pc' : Nat} {k : Fin 4} {v : Int64} (H : Rc C R own bs ml Z n0 ce sl pc Ls S h Ds) (hd : decode bs pc = .ok (.lload_n k, 1)) (hl : Ls[k.val]? = some (.val (.long v))) (hp : pc + 1 = pc') : Rc C R own bs ml Z n0 ce sl pc' Ls (.long v :: S) h Ds := by
  subst hp
  exact H.go fun T t hA hx hby kk => XS.lloadN hA hx rfl (hb hby hd) hl kk
theorem Rc.istore {pc' : Nat} {k : Nat} {x : Int32} {l' : Array Slot} (H : Rc C R own bs ml Z n0 ce sl pc Ls (.int x :: rest) h Ds) (hd : decode bs pc = .ok (.istore k, 2)) (hl : storeLocals Ls k (.int x) = some l') (hp : pc + 2 = pc') : Rc C R own bs ml Z n0 ce sl pc' l' rest h Ds := by
  subst hp
  exact H.go fun T t hA hx hby kk => XS.istore hA hx rfl (hb hby hd) rfl hl kk
theorem Rc.istoreN {pc' : Nat} {k : Fin 4} {x : Int32} {l' : Array Slot} (H : Rc C R own bs ml Z n0 ce sl pc Ls (.int x :: rest) h Ds) (hd : decode bs pc = .ok (.istore_n k, 1)) (hl : storeLocals Ls k.val (.int x) = some l') (hp : pc + 1 = pc') : Rc C R own bs ml Z n0 ce sl pc' l' rest h Ds := by
  subst hp
  exact H.go fun T t hA hx hby kk => XS.istoreN hA hx rfl (hb hby hd) rfl hl kk
theorem Rc.astore {pc' : Nat} {k : Nat} {x : Value} {l' : Array Slot} (H : Rc C R own bs ml Z n0 ce sl pc Ls (x :: rest) h Ds) (hd : decode bs pc = .ok (.astore k, 2)) (hv : x.isRef = true) (hl : storeLocals Ls k x = some l') (hp : pc + 2 = pc') : Rc C R own bs ml Z n0 ce sl pc' l' rest h Ds := by
  subst hp
  exact H.go fun T t hA hx hby kk => XS.astore hA hx rfl (hb hby hd) rfl hv hl kk
theorem Rc.astoreN {pc' : Nat} {k : Fin 4} {x : Value} {l' : Array Slot} (H : Rc C R own bs ml Z n0 ce sl pc Ls (x :: rest) h Ds) (hd : decode bs pc = .ok (.astore_n k, 1)) (hv : x.isRef = true) (hl : storeLocals Ls k.val x = some l') (hp : pc + 1 = pc') : Rc C R own bs ml Z n0 ce sl pc' l' rest h Ds := by
  subst hp
  exact H.go fun T t hA hx hby kk => XS.astoreN hA hx rfl (hb hby hd) rfl hv hl kk
theorem Rc.lstore {pc' : Nat} {k : Nat} {x : Int64} {l' : Array Slot} (H : Rc C R own bs ml Z n0 ce sl pc Ls (.long x :: rest) h Ds) (hd : decode bs pc = .ok (.lstore k, 2)) (hl : storeLocals Ls k (.long x) = some l') (hp : pc + 2 = pc') : Rc C R own bs ml Z n0 ce sl pc' l' rest h Ds := by
  subst hp
  exact H.go fun T t hA hx hby kk => XS.lstore hA hx rfl (hb hby hd) rfl hl kk
theorem Rc.lstoreN {pc' : Nat} {k : Fin 4} {x : Int64} {l' : Array Slot} (H : Rc C R own bs ml Z n0 ce sl pc Ls (.long x :: rest) h Ds) (hd : decode bs pc = .ok (.lstore_n k, 1)) (hl : storeLocals Ls k.val (.long x) = some l') (hp : pc + 1 = pc') : Rc C R own bs ml Z n0 ce sl pc' l' rest h Ds := by
  subst hp
  exact H.go fun T t hA hx hby kk => XS.lstoreN hA hx rfl (hb hby hd) rfl hl kk
theorem Rc.iconst {pc' : Nat} {i : Int} {z : Int32} (H : Rc C R own bs ml Z n0 ce sl pc Ls S h Ds) (hd : decode bs pc = .ok (.iconst i, 1)) (hz : Int32.ofInt i = z) (hp : pc + 1 = pc') : Rc C R own bs ml Z n0 ce sl pc' Ls (.int z :: S) h Ds := by
  subst hp hz
  exact H.go fun T t hA hx hby kk => XS.iconst hA hx rfl (hb hby hd) kk
theorem Rc.bipush {pc' : Nat} {i : Int} {z : Int32} (H : Rc C R own bs ml Z n0 ce sl pc Ls S h Ds) (hd : decode bs pc = .ok (.bipush i, 2)) (hz : (Int8.ofInt i).toInt32 = z) (hp : pc + 2 = pc') : Rc C R own bs ml Z n0 ce sl pc' Ls (.int z :: S) h Ds := by
  subst hp hz
  exact H.go fun T t hA hx hby kk => XS.bipush hA hx rfl (hb hby hd) kk
theorem Rc.sipush {pc' : Nat} {i : Int} {z : Int32} (H : Rc C R own bs ml Z n0 ce sl pc Ls S h Ds) (hd : decode bs pc = .ok (.sipush i, 3)) (hz : (Int16.ofInt i).toInt32 = z) (hp : pc + 3 = pc') : Rc C R own bs ml Z n0 ce sl pc' Ls (.int z :: S) h Ds := by
  subst hp hz
  exact H.go fun T t hA hx hby kk => XS.sipush hA hx rfl (hb hby hd) kk
theorem Rc.lconst {pc' : Nat} {i : Fin 2} {z : Int64} (H : Rc C R own bs ml Z n0 ce sl pc Ls S h Ds) (hd : decode bs pc = .ok (.lconst i, 1)) (hz : Int64.ofNat i = z) (hp : pc + 1 = pc') : Rc C R own bs ml Z n0 ce sl pc' Ls (.long z :: S) h Ds := by
  subst hp hz
  exact H.go fun T t hA hx hby kk => XS.lconst hA hx rfl (hb hby hd) kk
theorem Rc.anull {pc' : Nat}  (H : Rc C R own bs ml Z n0 ce sl pc Ls S h Ds) (hd : decode bs pc = .ok (.aconst_null, 1)) (hp : pc + 1 = pc') : Rc C R own bs ml Z n0 ce sl pc' Ls (.null :: S) h Ds := by
  subst hp
  exact H.go fun T t hA hx hby kk => XS.aconstNull hA hx rfl (hb hby hd) kk
theorem Rc.iadd {pc' : Nat} {x y : Int32} (H : Rc C R own bs ml Z n0 ce sl pc Ls (.int y :: .int x :: rest) h Ds) (hd : decode bs pc = .ok (.iadd, 1)) (hp : pc + 1 = pc') : Rc C R own bs ml Z n0 ce sl pc' Ls (.int (x + y) :: rest) h Ds := by
  subst hp
  exact H.go fun T t hA hx hby kk => XS.iadd hA hx rfl (hb hby hd) rfl kk
theorem Rc.ladd {pc' : Nat} {x y : Int64} (H : Rc C R own bs ml Z n0 ce sl pc Ls (.long y :: .long x :: rest) h Ds) (hd : decode bs pc = .ok (.ladd, 1)) (hp : pc + 1 = pc') : Rc C R own bs ml Z n0 ce sl pc' Ls (.long (x + y) :: rest) h Ds := by
  subst hp
  exact H.go fun T t hA hx hby kk => XS.ladd hA hx rfl (hb hby hd) rfl kk
theorem Rc.isub {pc' : Nat} {x y : Int32} (H : Rc C R own bs ml Z n0 ce sl pc Ls (.int y :: .int x :: rest) h Ds) (hd : decode bs pc = .ok (.isub, 1)) (hp : pc + 1 = pc') : Rc C R own bs ml Z n0 ce sl pc' Ls (.int (x - y) :: rest) h Ds := by
  subst hp
  exact H.go fun T t hA hx hby kk => XS.isub hA hx rfl (hb hby hd) rfl kk
theorem Rc.lsub {pc' : Nat} {x y : Int64} (H : Rc C R own bs ml Z n0 ce sl pc Ls (.long y :: .long x :: rest) h Ds) (hd : decode bs pc = .ok (.lsub, 1)) (hp : pc + 1 = pc') : Rc C R own bs ml Z n0 ce sl pc' Ls (.long (x - y) :: rest) h Ds := by
  subst hp
  exact H.go fun T t hA hx hby kk => XS.lsub hA hx rfl (hb hby hd) rfl kk
theorem Rc.imul {pc' : Nat} {x y : Int32} (H : Rc C R own bs ml Z n0 ce sl pc Ls (.int y :: .int x :: rest) h Ds) (hd : decode bs pc = .ok (.imul, 1)) (hp : pc + 1 = pc') : Rc C R own bs ml Z n0 ce sl pc' Ls (.int (x * y) :: rest) h Ds := by
  subst hp
  exact H.go fun T t hA hx hby kk => XS.imul hA hx rfl (hb hby hd) rfl kk
theorem Rc.lmul {pc' : Nat} {x y : Int64} (H : Rc C R own bs ml Z n0 ce sl pc Ls (.long y :: .long x :: rest) h Ds) (hd : decode bs pc = .ok (.lmul, 1)) (hp : pc + 1 = pc') : Rc C R own bs ml Z n0 ce sl pc' Ls (.long (x * y) :: rest) h Ds := by
  subst hp
  exact H.go fun T t hA hx hby kk => XS.lmul hA hx rfl (hb hby hd) rfl kk
theorem Rc.iand {pc' : Nat} {x y : Int32} (H : Rc C R own bs ml Z n0 ce sl pc Ls (.int y :: .int x :: rest) h Ds) (hd : decode bs pc = .ok (.iand, 1)) (hp : pc + 1 = pc') : Rc C R own bs ml Z n0 ce sl pc' Ls (.int (x &&& y) :: rest) h Ds := by
  subst hp
  exact H.go fun T t hA hx hby kk => XS.iand hA hx rfl (hb hby hd) rfl kk
theorem Rc.land {pc' : Nat} {x y : Int64} (H : Rc C R own bs ml Z n0 ce sl pc Ls (.long y :: .long x :: rest) h Ds) (hd : decode bs pc = .ok (.land, 1)) (hp : pc + 1 = pc') : Rc C R own bs ml Z n0 ce sl pc' Ls (.long (x &&& y) :: rest) h Ds := by
  subst hp
  exact H.go fun T t hA hx hby kk => XS.land hA hx rfl (hb hby hd) rfl kk
theorem Rc.ior {pc' : Nat} {x y : Int32} (H : Rc C R own bs ml Z n0 ce sl pc Ls (.int y :: .int x :: rest) h Ds) (hd : decode bs pc = .ok (.ior, 1)) (hp : pc + 1 = pc') : Rc C R own bs ml Z n0 ce sl pc' Ls (.int (x ||| y) :: rest) h Ds := by
  subst hp
  exact H.go fun T t hA hx hby kk => XS.ior hA hx rfl (hb hby hd) rfl kk
theorem Rc.lor {pc' : Nat} {x y : Int64} (H : Rc C R own bs ml Z n0 ce sl pc Ls (.long y :: .long x :: rest) h Ds) (hd : decode bs pc = .ok (.lor, 1)) (hp : pc + 1 = pc') : Rc C R own bs ml Z n0 ce sl pc' Ls (.long (x ||| y) :: rest) h Ds := by
  subst hp
  exact H.go fun T t hA hx hby kk => XS.lor hA hx rfl (hb hby hd) rfl kk
theorem Rc.ixor {pc' : Nat} {x y : Int32} (H : Rc C R own bs ml Z n0 ce sl pc Ls (.int y :: .int x :: rest) h Ds) (hd : decode bs pc = .ok (.ixor, 1)) (hp : pc + 1 = pc') : Rc C R own bs ml Z n0 ce sl pc' Ls (.int (x ^^^ y) :: rest) h Ds := by
  subst hp
  exact H.go fun T t hA hx hby kk => XS.ixor hA hx rfl (hb hby hd) rfl kk
theorem Rc.lxor {pc' : Nat} {x y : Int64} (H : Rc C R own bs ml Z n0 ce sl pc Ls (.long y :: .long x :: rest) h Ds) (hd : decode bs pc = .ok (.lxor, 1)) (hp : pc + 1 = pc') : Rc C R own bs ml Z n0 ce sl pc' Ls (.long (x ^^^ y) :: rest) h Ds := by
  subst hp
  exact H.go fun T t hA hx hby kk => XS.lxor hA hx rfl (hb hby hd) rfl kk
theorem Rc.ishl {pc' : Nat} {x : Int32} {y : Int32} (H : Rc C R own bs ml Z n0 ce sl pc Ls (.int y :: .int x :: rest) h Ds) (hd : decode bs pc = .ok (.ishl, 1)) (hp : pc + 1 = pc') : Rc C R own bs ml Z n0 ce sl pc' Ls (.int (x <<< (y &&& 31)) :: rest) h Ds := by
  subst hp
  exact H.go fun T t hA hx hby kk => XS.ishl hA hx rfl (hb hby hd) rfl kk
theorem Rc.ishr {pc' : Nat} {x : Int32} {y : Int32} (H : Rc C R own bs ml Z n0 ce sl pc Ls (.int y :: .int x :: rest) h Ds) (hd : decode bs pc = .ok (.ishr, 1)) (hp : pc + 1 = pc') : Rc C R own bs ml Z n0 ce sl pc' Ls (.int (x >>> (y &&& 31)) :: rest) h Ds := by
  subst hp
  exact H.go fun T t hA hx hby kk => XS.ishr hA hx rfl (hb hby hd) rfl kk
theorem Rc.iushr {pc' : Nat} {x : Int32} {y : Int32} (H : Rc C R own bs ml Z n0 ce sl pc Ls (.int y :: .int x :: rest) h Ds) (hd : decode bs pc = .ok (.iushr, 1)) (hp : pc + 1 = pc') : Rc C R own bs ml Z n0 ce sl pc' Ls (.int ((x.toUInt32 >>> (y &&& 31).toUInt32).toInt32) :: rest) h Ds := by
  subst hp
  exact H.go fun T t hA hx hby kk => XS.iushr hA hx rfl (hb hby hd) rfl kk
theorem Rc.lshl {pc' : Nat} {x : Int64} {y : Int32} (H : Rc C R own bs ml Z n0 ce sl pc Ls (.int y :: .long x :: rest) h Ds) (hd : decode bs pc = .ok (.lshl, 1)) (hp : pc + 1 = pc') : Rc C R own bs ml Z n0 ce sl pc' Ls (.long (x <<< (y &&& 0x3f).toInt64) :: rest) h Ds := by
  subst hp
  exact H.go fun T t hA hx hby kk => XS.lshl hA hx rfl (hb hby hd) rfl kk
theorem Rc.lshr {pc' : Nat} {x : Int64} {y : Int32} (H : Rc C R own bs ml Z n0 ce sl pc Ls (.int y :: .long x :: rest) h Ds) (hd : decode bs pc = .ok (.lshr, 1)) (hp : pc + 1 = pc') : Rc C R own bs ml Z n0 ce sl pc' Ls (.long (x >>> (y &&& 0x3f).toInt64) :: rest) h Ds := by
  subst hp
  exact H.go fun T t hA hx hby kk => XS.lshr hA hx rfl (hb hby hd) rfl kk
theorem Rc.lushr {pc' : Nat} {x : Int64} {y : Int32} (H : Rc C R own bs ml Z n0 ce sl pc Ls (.int y :: .long x :: rest) h Ds) (hd : decode bs pc = .ok (.lushr, 1)) (hp : pc + 1 = pc') : Rc C R own bs ml Z n0 ce sl pc' Ls (.long ((x.toUInt64 >>> (y &&& 0x3f).toInt64.toUInt64).toInt64) :: rest) h Ds := by
  subst hp
  exact H.go fun T t hA hx hby kk => XS.lushr hA hx rfl (hb hby hd) rfl kk
theorem Rc.ineg {pc' : Nat} {x : Int32} (H : Rc C R own bs ml Z n0 ce sl pc Ls (.int x :: rest) h Ds) (hd : decode bs pc = .ok (.ineg, 1)) (hp : pc + 1 = pc') : Rc C R own bs ml Z n0 ce sl pc' Ls (.int (-x) :: rest) h Ds := by
  subst hp
  exact H.go fun T t hA hx hby kk => XS.ineg hA hx rfl (hb hby hd) rfl kk
theorem Rc.lneg {pc' : Nat} {x : Int64} (H : Rc C R own bs ml Z n0 ce sl pc Ls (.long x :: rest) h Ds) (hd : decode bs pc = .ok (.lneg, 1)) (hp : pc + 1 = pc') : Rc C R own bs ml Z n0 ce sl pc' Ls (.long (-x) :: rest) h Ds := by
  subst hp
  exact H.go fun T t hA hx hby kk => XS.lneg hA hx rfl (hb hby hd) rfl kk
theorem Rc.i2l {pc' : Nat} {x : Int32} (H : Rc C R own bs ml Z n0 ce sl pc Ls (.int x :: rest) h Ds) (hd : decode bs pc = .ok (.i2l, 1)) (hp : pc + 1 = pc') : Rc C R own bs ml Z n0 ce sl pc' Ls (.long x.toInt64 :: rest) h Ds := by
  subst hp
  exact H.go fun T t hA hx hby kk => XS.i2l hA hx rfl (hb hby hd) rfl kk
theorem Rc.l2i {pc' : Nat} {x : Int64} (H : Rc C R own bs ml Z n0 ce sl pc Ls (.long x :: rest) h Ds) (hd : decode bs pc = .ok (.l2i, 1)) (hp : pc + 1 = pc') : Rc C R own bs ml Z n0 ce sl pc' Ls (.int x.toInt32 :: rest) h Ds := by
  subst hp
  exact H.go fun T t hA hx hby kk => XS.l2i hA hx rfl (hb hby hd) rfl kk
theorem Rc.i2b {pc' : Nat} {x : Int32} (H : Rc C R own bs ml Z n0 ce sl pc Ls (.int x :: rest) h Ds) (hd : decode bs pc = .ok (.i2b, 1)) (hp : pc + 1 = pc') : Rc C R own bs ml Z n0 ce sl pc' Ls (.int x.toInt8.toInt32 :: rest) h Ds := by
  subst hp
  exact H.go fun T t hA hx hby kk => XS.i2b hA hx rfl (hb hby hd) rfl kk
theorem Rc.i2s {pc' : Nat} {x : Int32} (H : Rc C R own bs ml Z n0 ce sl pc Ls (.int x :: rest) h Ds) (hd : decode bs pc = .ok (.i2s, 1)) (hp : pc + 1 = pc') : Rc C R own bs ml Z n0 ce sl pc' Ls (.int x.toInt16.toInt32 :: rest) h Ds := by
  subst hp
  exact H.go fun T t hA hx hby kk => XS.i2s hA hx rfl (hb hby hd) rfl kk
theorem Rc.i2c {pc' : Nat} {x : Int32} (H : Rc C R own bs ml Z n0 ce sl pc Ls (.int x :: rest) h Ds) (hd : decode bs pc = .ok (.i2c, 1)) (hp : pc + 1 = pc') : Rc C R own bs ml Z n0 ce sl pc' Ls (.int x.toUInt32.toUInt16.toUInt32.toInt32 :: rest) h Ds := by
  subst hp
  exact H.go fun T t hA hx hby kk => XS.i2c hA hx rfl (hb hby hd) rfl kk
theorem Rc.lcmp {pc' : Nat} {x y : Int64} (H : Rc C R own bs ml Z n0 ce sl pc Ls (.long y :: .long x :: rest) h Ds) (hd : decode bs pc = .ok (.lcmp, 1)) (hp : pc + 1 = pc') : Rc C R own bs ml Z n0 ce sl pc' Ls (.int (lcmpW x y) :: rest) h Ds := by
  subst hp
  exact H.go fun T t hA hx hby kk => XS.lcmp hA hx rfl (hb hby hd) rfl kk
theorem Rc.idiv {pc' : Nat} {x y : Int32} (H : Rc C R own bs ml Z n0 ce sl pc Ls (.int y :: .int x :: rest) h Ds) (hd : decode bs pc = .ok (.idiv, 1)) (hy : y ≠ 0) (hp : pc + 1 = pc') : Rc C R own bs ml Z n0 ce sl pc' Ls (.int (x / y) :: rest) h Ds := by
  subst hp
  exact H.go fun T t hA hx hby kk => XS.idiv hA hx rfl (hb hby hd) rfl hy kk
theorem Rc.dup {pc' : Nat} {x : Value} (H : Rc C R own bs ml Z n0 ce sl pc Ls (x :: rest) h Ds) (hd : decode bs pc = .ok (.dup, 1)) (hc : x.category = 1) (hp : pc + 1 = pc') : Rc C R own bs ml Z n0 ce sl pc' Ls (x :: x :: rest) h Ds := by
  subst hp
  exact H.go fun T t hA hx hby kk => XS.dup hA hx rfl (hb hby hd) rfl hc kk
theorem Rc.pop {pc' : Nat} {x : Value} (H : Rc C R own bs ml Z n0 ce sl pc Ls (x :: rest) h Ds) (hd : decode bs pc = .ok (.pop, 1)) (hc : x.category = 1) (hp : pc + 1 = pc') : Rc C R own bs ml Z n0 ce sl pc' Ls rest h Ds := by
  subst hp
  exact H.go fun T t hA hx hby kk => XS.pop hA hx rfl (hb hby hd) rfl hc kk
theorem Rc.dupX1 {pc' : Nat} {x y : Value} (H : Rc C R own bs ml Z n0 ce sl pc Ls (x :: y :: rest) h Ds) (hd : decode bs pc = .ok (.dup_x1, 1)) (hc : x.category = 1) (hc' : y.category = 1) (hp : pc + 1 = pc') : Rc C R own bs ml Z n0 ce sl pc' Ls (x :: y :: x :: rest) h Ds := by
  subst hp
  exact H.go fun T t hA hx hby kk => XS.dupX1 hA hx rfl (hb hby hd) rfl hc hc' kk
theorem Rc.iinc {pc' : Nat} {k : Nat} {cst : Int} {x : Int32} {l' : Array Slot} (H : Rc C R own bs ml Z n0 ce sl pc Ls S h Ds) (hd : decode bs pc = .ok (.iinc k cst, 3)) (hl : Ls[k]? = some (.val (.int x))) (hl' : storeLocals Ls k (.int (x + Int32.ofInt cst)) = some l') (hp : pc + 3 = pc') : Rc C R own bs ml Z n0 ce sl pc' l' S h Ds := by
  subst hp
  exact H.go fun T t hA hx hby kk => XS.iinc hA hx rfl (hb hby hd) hl hl' kk
theorem Rc.irem {pc' : Nat} {x y : Int32} (H : Rc C R own bs ml Z n0 ce sl pc Ls (.int y :: .int x :: rest) h Ds) (hd : decode bs pc = .ok (.irem, 1)) (hy : y ≠ 0) (hp : pc + 1 = pc') : Rc C R own bs ml Z n0 ce sl pc' Ls (.int (x % y) :: rest) h Ds := by
  subst hp
  exact H.goX fun s T locs t X hZ hown eT hx hby kk => iremM X hx rfl (hb hby hd) rfl hy kk
theorem Rc.goto {pc' : Nat} {o : Int} (H : Rc C R own bs ml Z n0 ce sl pc Ls S h Ds) (hd : decode bs pc = .ok (.goto o, 3)) (ho : 0 ≤ (pc : Int) + o) (hp : ((pc : Int) + o).toNat = pc') : Rc C R own bs ml Z n0 ce sl pc' Ls S h Ds :=
  H.go fun T t hA hx hby kk => XS.goto hA hx rfl (pc0 := pc) rfl (hb hby hd) ho hp kk
theorem Rc.ifY {pc' : Nat} {o : Int} {cd : ClassFile.Cond} {x : Int32} (H : Rc C R own bs ml Z n0 ce sl pc Ls (.int x :: rest) h Ds) (hd : decode bs pc = .ok (.ifCond cd o, 3)) (hc : if_icmp.holds cd x 0 = true) (ho : 0 ≤ (pc : Int) + o) (hp : ((pc : Int) + o).toNat = pc') : Rc C R own bs ml Z n0 ce sl pc' Ls rest h Ds :=
  H.go fun T t hA hx hby kk => XS.ifYes hA hx rfl (pc0 := pc) rfl (hb hby hd) rfl ((if0 _ _).trans hc) ho hp kk
theorem Rc.ifN {pc' : Nat} {o : Int} {cd : ClassFile.Cond} {x : Int32} (H : Rc C R own bs ml Z n0 ce sl pc Ls (.int x :: rest) h Ds) (hd : decode bs pc = .ok (.ifCond cd o, 3)) (hc : if_icmp.holds cd x 0 = false) (hp : pc + 3 = pc') : Rc C R own bs ml Z n0 ce sl pc' Ls rest h Ds := by
  subst hp
  exact H.go fun T t hA hx hby kk => XS.ifNo hA hx rfl (hb hby hd) rfl ((if0 _ _).trans hc) kk
theorem Rc.icmpY {pc' : Nat} {o : Int} {cd : ClassFile.Cond} {x y : Int32} (H : Rc C R own bs ml Z n0 ce sl pc Ls (.int y :: .int x :: rest) h Ds) (hd : decode bs pc = .ok (.if_icmp cd o, 3)) (hc : if_icmp.holds cd x y = true) (ho : 0 ≤ (pc : Int) + o) (hp : ((pc : Int) + o).toNat = pc') : Rc C R own bs ml Z n0 ce sl pc' Ls rest h Ds :=
  H.go fun T t hA hx hby kk => XS.icmpYes hA hx rfl (pc0 := pc) rfl (hb hby hd) rfl hc ho hp kk
theorem Rc.icmpN {pc' : Nat} {o : Int} {cd : ClassFile.Cond} {x y : Int32} (H : Rc C R own bs ml Z n0 ce sl pc Ls (.int y :: .int x :: rest) h Ds) (hd : decode bs pc = .ok (.if_icmp cd o, 3)) (hc : if_icmp.holds cd x y = false) (hp : pc + 3 = pc') : Rc C R own bs ml Z n0 ce sl pc' Ls rest h Ds := by
  subst hp
  exact H.go fun T t hA hx hby kk => XS.icmpNo hA hx rfl (hb hby hd) rfl hc kk
theorem Rc.ifnullY {pc' : Nat} {o : Int} (H : Rc C R own bs ml Z n0 ce sl pc Ls (.null :: rest) h Ds) (hd : decode bs pc = .ok (.ifnull o, 3)) (ho : 0 ≤ (pc : Int) + o) (hp : ((pc : Int) + o).toNat = pc') : Rc C R own bs ml Z n0 ce sl pc' Ls rest h Ds :=
  H.go fun T t hA hx hby kk => XS.ifnullYes hA hx rfl (pc0 := pc) rfl (hb hby hd) rfl ho hp kk
theorem Rc.ifnullN {pc' : Nat} {b : Addr} {o : Int} (H : Rc C R own bs ml Z n0 ce sl pc Ls (.ref b :: rest) h Ds) (hd : decode bs pc = .ok (.ifnull o, 3)) (hp : pc + 3 = pc') : Rc C R own bs ml Z n0 ce sl pc' Ls rest h Ds := by
  subst hp
  exact H.go fun T t hA hx hby kk => XS.ifnullNo hA hx rfl (hb hby hd) rfl kk
theorem Rc.ifnonnullY {pc' : Nat} {b : Addr} {o : Int} (H : Rc C R own bs ml Z n0 ce sl pc Ls (.ref b :: rest) h Ds) (hd : decode bs pc = .ok (.ifnonnull o, 3)) (ho : 0 ≤ (pc : Int) + o) (hp : ((pc : Int) + o).toNat = pc') : Rc C R own bs ml Z n0 ce sl pc' Ls rest h Ds :=
  H.go fun T t hA hx hby kk => XS.ifnonnullYes hA hx rfl (pc0 := pc) rfl (hb hby hd) rfl ho hp kk
theorem Rc.ifnonnullN {pc' : Nat} {o : Int} (H : Rc C R own bs ml Z n0 ce sl pc Ls (.null :: rest) h Ds) (hd : decode bs pc = .ok (.ifnonnull o, 3)) (hp : pc + 3 = pc') : Rc C R own bs ml Z n0 ce sl pc' Ls rest h Ds := by
  subst hp
  exact H.go fun T t hA hx hby kk => XS.ifnonnullNo hA hx rfl (hb hby hd) rfl kk
theorem Rc.acmp {pc' : Nat} {o : Int} {cd : ACond} {x y : Value} {same : Bool} (H : Rc C R own bs ml Z n0 ce sl pc Ls (y :: x :: rest) h Ds) (hd : decode bs pc = .ok (.if_acmp cd o, 3)) (h1 : x.isRef = true) (h2 : y.isRef = true) (hq : decide (x = y) = same) (ho : 0 ≤ (pc : Int) + o) (hp : pc' = if acV cd same = true then ((pc : Int) + o).toNat else pc + 3) : Rc C R own bs ml Z n0 ce sl pc' Ls rest h Ds :=
  H.goX fun s T locs t X hZ hown eT hx hby kk => Jvm.RoadKit.acmp X hx rfl h1 h2 (pc0 := pc) rfl (hb hby hd) rfl hq ho hp kk

theorem own_ws1 {a : Addr} {Ds : List Addr} (ha : a ∈ Ds) : ∀ x ∈ [a], x ∈ Ds := fun x hx => by rw [List.mem_singleton.mp hx]; exact ha
theorem Rc.getF {pc' : Nat} {a : Addr} {v : Value} {R0 O n d host : String} {idx : Nat} (H : Rc C R own bs ml Z n0 ce sl pc Ls (.ref a :: rest) h Ds) (w : (Jvm.Cond.fieldLink own idx R0 n d).before a0 Z = true ∨ (Jvm.Cond.fieldLinkNest own idx R0 n d host).before a0 Z = true) (via : Via Z R0 O n d) (F : Fld Z h a O n d v) (hd : decode bs pc = .ok (.getfield idx, 3)) (hp : pc + 3 = pc') : Rc C R own bs ml Z n0 ce sl pc' Ls (v :: rest) h Ds := by
  subst hp
  obtain ⟨T, locs, vm0, k0, X, h1, h2, h3, h4, h5, h6, h7, k⟩ := H
  obtain ⟨T', X', e', st⟩ := RoadKit.getF X h7.1 (Z := Z) h3 h7.2.2.2.1 w via h5 F (g := mkF C.m pc Ls (.ref a :: rest)) rfl rfl (hb h7.2.1 hd)
  exact ⟨T', locs, vm0, k0, X', h1, h2, h3, h4, e', h6, h7, fun t ht => k _ (st _ ht)⟩
theorem Rc.getS {pc' : Nat} {v : Value} {R0 O n d host : String} {idx : Nat} (H : Rc C R own bs ml Z n0 ce sl pc Ls S h Ds) (w : (Jvm.Cond.fieldLink own idx R0 n d).before a0 Z = true ∨ (Jvm.Cond.fieldLinkNest own idx R0 n d host).before a0 Z = true) (via : Via Z R0 O n d) (F : Sta Z Z.heap O n d v) (hd : decode bs pc = .ok (.getstatic idx, 3)) (hp : pc + 3 = pc') : Rc C R own bs ml Z n0 ce sl pc' Ls (v :: S) h Ds := by
  subst hp
  obtain ⟨T, locs, vm0, k0, X, h1, h2, h3, h4, h5, h6, h7, k⟩ := H
  obtain ⟨T', X', e', st⟩ := getS2 X h7.1 (Z := Z) h3 h7.2.2.2.1 w via h5 (F.ext h4.1.2) (g := mkF C.m pc Ls S) rfl (hb h7.2.1 hd)
  exact ⟨T', locs, vm0, k0, X', h1, h2, h3, h4, e', h6, h7, fun t ht => k _ (st _ ht)⟩
theorem Rc.putF {pc' : Nat} {a : Addr} {v old : Value} {R0 O n d host Cc : String} {idx kk : Nat} {ty : FieldType} (H : Rc C R own bs ml Z n0 ce sl pc Ls (v :: .ref a :: rest) h Ds) (w : (Jvm.Cond.fieldLink own idx R0 n d).before a0 Z = true ∨ (Jvm.Cond.fieldLinkNest own idx R0 n d host).before a0 Z = true) (via : Via Z R0 O n d) (F : Fld Z h a O n d old) (E : Exa Z h a Cc)
    (L : (Jvm.Cond.lays Cc O n d).before a0 Z = true ∨ ((Jvm.Cond.laysFinal Cc O n d).before a0 Z = true ∧ own = O ∧ C.meth.name = "<init>")) (wi : (Jvm.Cond.instantiable Cc kk).before a0 Z = true) (hty : parseFieldDescriptor d = some ty) (hn : narrow ty v = v) (hf : fits ty v = true) (ha : a ∈ Ds) (hd : decode bs pc = .ok (.putfield idx, 3)) (hp : pc + 3 = pc') :
    ∃ h', Wr h h' a (RoadKit.slotOf Z O n d) v ∧ Rc C R own bs ml Z n0 ce sl pc' Ls rest h' Ds := by
  subst hp
  obtain ⟨T, locs, vm0, k0, X, h1, h2, h3, h4, h5, h6, h7, k⟩ := H
  obtain ⟨T', h', X', e', W', st⟩ := RoadKit.putF X h7.1 (Z := Z) h3 h7.2.2.2.1 w via h5 F E L wi hty hn hf (g := mkF C.m pc Ls (v :: .ref a :: rest)) rfl rfl (hb h7.2.1 hd)
  exact ⟨h', W', T', _, vm0, k0, X', h1, by rw [W'.size]; exact h2, h3, h4.keep (Keep.of_wr W') (own_ws1 ha), e', Fr.snoc X' h6 (h4.2.2.1 a ha).1, h7, fun t ht => k _ (st _ ht)⟩
theorem Rc.putFN {pc' : Nat} {a : Addr} {v v' old : Value} {R0 O n d Cc : String} {idx kk : Nat} {ty : FieldType} (H : Rc C R own bs ml Z n0 ce sl pc Ls (v :: .ref a :: rest) h Ds) (w : (Jvm.Cond.fieldLink own idx R0 n d).before a0 Z = true) (via : Via Z R0 O n d) (F : Fld Z h a O n d old) (E : Exa Z h a Cc)
    (L : (Jvm.Cond.lays Cc O n d).before a0 Z = true ∨ ((Jvm.Cond.laysFinal Cc O n d).before a0 Z = true ∧ own = O ∧ C.meth.name = "<init>")) (wi : (Jvm.Cond.instantiable Cc kk).before a0 Z = true) (hty : parseFieldDescriptor d = some ty) (hn : narrow ty v = v') (hf : fits ty v' = true) (ha : a ∈ Ds) (hd : decode bs pc = .ok (.putfield idx, 3)) (hp : pc + 3 = pc') :
    ∃ h', Wr h h' a (RoadKit.slotOf Z O n d) v' ∧ Rc C R own bs ml Z n0 ce sl pc' Ls rest h' Ds := by
  subst hp
  obtain ⟨T, locs, vm0, k0, X, h1, h2, h3, h4, h5, h6, h7, k⟩ := H
  obtain ⟨T', h', X', e', W', st⟩ := RoadKit.putFN X h7.1 (Z := Z) h3 h7.2.2.2.1 w via h5 F E L wi hty hn hf (g := mkF C.m pc Ls (v :: .ref a :: rest)) rfl rfl (hb h7.2.1 hd)
  exact ⟨h', W', T', _, vm0, k0, X', h1, by rw [W'.size]; exact h2, h3, h4.keep (Keep.of_wr W') (own_ws1 ha), e', Fr.snoc X' h6 (h4.2.2.1 a ha).1, h7, fun t ht => k _ (st _ ht)⟩
theorem Rc.newO {pc' : Nat} {Cc : String} {idx n : Nat} (H : Rc C R own bs ml Z n0 ce sl pc Ls S h Ds) (w : (Jvm.Cond.classLink own idx Cc).before a0 Z = true) (wi : (Jvm.Cond.instantiable Cc n).before a0 Z = true) (wz : (Jvm.Cond.initialized Cc).before a0 Z = true) (hd : decode bs pc = .ok (.new idx, 3)) (hc : ce + 1 ≤ R.cells) (hl : sl + n ≤ R.slots) (hp : pc + 3 = pc') :
    ∃ (h' : Heap) (b : Addr), b = h.size ∧ Ext h h' ∧ Exa Z h' b Cc ∧ (∀ {O nm d : String} {ty : FieldType}, Laid Z a0 Cc O nm d → parseFieldDescriptor d = some ty → Fld Z h' b O nm d (defaultValue ty)) ∧ Rc C R own bs ml Z n0 (ce + 1) (sl + n) pc' Ls (.ref b :: S) h' (b :: Ds) := by
  subst hp
  obtain ⟨T, locs, vm0, k0, X, h1, h2, h3, h4, h5, h6, h7, k⟩ := H
  obtain ⟨T', h', X', e', E', A', D', -, st⟩ := RoadKit.newO X h7.1 (Z := Z) h3 h7.2.2.2.1 w wi wz h5 (g := mkF C.m pc Ls S) rfl (hb h7.2.1 hd) hc hl
  exact ⟨h', h.size, rfl, E', A', D', T', _, vm0, k0, X', h1, Nat.le_trans h2 E'.1, h3, h4.born E' A'.lt, e', h6, h7, fun t ht => k _ (st _ ht)⟩
theorem Rc.newP {pc' : Nat} {aty : ArrayType} {n : Int32} {cap : Nat} (H : Rc C R own bs ml Z n0 ce sl pc Ls (.int n :: rest) h Ds) (w : (Jvm.Cond.arrayClass (newarray.typeOf aty)).before a0 Z = true) (hd : decode bs pc = .ok (.newarray aty, 2)) (hn : ¬ n < 0) (hcap : n.toNatClampNeg ≤ cap) (hb' : cap * 8 ≤ 536870912) (hc : ce + 1 ≤ R.cells) (hl : sl + cap ≤ R.slots) (hp : pc + 2 = pc') :
    ∃ (h' : Heap) (b : Addr) (kA : ClassId), b = h.size ∧ Ext h h' ∧ Arv Z h' b kA (newarray.typeOf aty) n [] (defaultValue (newarray.typeOf aty)) ∧ Rc C R own bs ml Z n0 (ce + 1) (sl + cap) pc' Ls (.ref b :: rest) h' (b :: Ds) := by
  subst hp
  obtain ⟨T, locs, vm0, k0, X, h1, h2, h3, h4, h5, h6, h7, k⟩ := H
  obtain ⟨T', h', kA, X', e', E', A', st⟩ := RoadKit.newP X h7.1 (Z := Z) h3 w h5 (g := mkF C.m pc Ls (.int n :: rest)) rfl (hb h7.2.1 hd) rfl hn hcap hb' hc hl
  exact ⟨h', h.size, kA, rfl, E', Arv.new A' hn, T', _, vm0, k0, X', h1, Nat.le_trans h2 E'.1, h3, h4.born E' A'.lt, e', h6, h7, fun t ht => k _ (st _ ht)⟩
theorem Rc.castore {pc' : Nat} {a : Addr} {x j z : Int32} {kA : ClassId} {vs : List Value} {dv : Value} (H : Rc C R own bs ml Z n0 ce sl pc Ls (.int x :: .int j :: .ref a :: rest) h Ds) (V : Arv Z h a kA .char z vs dv) (hj : ¬ j < 0 ∧ j < z) (i : Nat) (hi : j.toNatClampNeg = i) (hl : i < vs.length) (ha : a ∈ Ds) (hd : decode bs pc = .ok (.castore, 1)) (hp : pc + 1 = pc') :
    ∃ h', Keep h h' [a] ∧ Arv Z h' a kA .char z (vs.set i (.int (nar .char x))) dv ∧ Rc C R own bs ml Z n0 ce sl pc' Ls rest h' Ds := by
  subst hp
  obtain ⟨T, locs, vm0, k0, X, h1, h2, h3, h4, h5, h6, h7, k⟩ := H
  obtain ⟨cl, Ar, q1, q2, q3, q4, q5⟩ := V
  obtain ⟨T', h', X', e', W', st⟩ := stC X h7.1 (Z := Z) h3 h5 Ar (j := j) (inb_of q2 hj) (g := mkF C.m pc Ls (.int x :: .int j :: .ref a :: rest)) rfl rfl (hb h7.2.1 hd)
  exact ⟨h', Keep.of_wr W', Arv.set Ar q1 q2 q3 q4 q5 (fits_nar_char _) W' i hi hl, T', _, vm0, k0, X', h1, by rw [W'.size]; exact h2, h3, h4.keep (Keep.of_wr W') (own_ws1 ha), e', Fr.snoc X' h6 (h4.2.2.1 a ha).1, h7, fun t ht => k _ (st _ ht)⟩
theorem Rc.bastore {pc' : Nat} {a : Addr} {x j z : Int32} {kA : ClassId} {vs : List Value} {dv : Value} (H : Rc C R own bs ml Z n0 ce sl pc Ls (.int x :: .int j :: .ref a :: rest) h Ds) (V : Arv Z h a kA .byte z vs dv) (hj : ¬ j < 0 ∧ j < z) (i : Nat) (hi : j.toNatClampNeg = i) (hl : i < vs.length) (ha : a ∈ Ds) (hd : decode bs pc = .ok (.bastore, 1)) (hp : pc + 1 = pc') :
    ∃ h', Keep h h' [a] ∧ Arv Z h' a kA .byte z (vs.set i (.int (nar .byte x))) dv ∧ Rc C R own bs ml Z n0 ce sl pc' Ls rest h' Ds := by
  subst hp
  obtain ⟨T, locs, vm0, k0, X, h1, h2, h3, h4, h5, h6, h7, k⟩ := H
  obtain ⟨cl, Ar, q1, q2, q3, q4, q5⟩ := V
  obtain ⟨T', h', X', e', W', st⟩ := stB X h7.1 (Z := Z) h3 h5 Ar (j := j) (inb_of q2 hj) (g := mkF C.m pc Ls (.int x :: .int j :: .ref a :: rest)) rfl rfl (hb h7.2.1 hd)
  exact ⟨h', Keep.of_wr W', Arv.set Ar q1 q2 q3 q4 q5 (fits_nar_byte _) W' i hi hl, T', _, vm0, k0, X', h1, by rw [W'.size]; exact h2, h3, h4.keep (Keep.of_wr W') (own_ws1 ha), e', Fr.snoc X' h6 (h4.2.2.1 a ha).1, h7, fun t ht => k _ (st _ ht)⟩
theorem Rc.caload {pc' : Nat} {a : Addr} {j z : Int32} {v : Value} {kA : ClassId} {vs : List Value} {dv : Value} (H : Rc C R own bs ml Z n0 ce sl pc Ls (.int j :: .ref a :: rest) h Ds) (V : Arv Z h a kA .char z vs dv) (hj : ¬ j < 0 ∧ j < z) (hv : vs.getD j.toNatClampNeg dv = v) (hd : decode bs pc = .ok (.caload, 1)) (hp : pc + 1 = pc') : Rc C R own bs ml Z n0 ce sl pc' Ls (v :: rest) h Ds := by
  subst hp
  obtain ⟨cl, Ar, q1, q2, q3, q4, q5⟩ := V
  exact H.goX fun s T locs t X hZ hown eT hx hby kk => X.caload hx (j := j) (v := v) (by rw [eT]; exact Ar.1) (State.isArrayOf_alike hZ.alike Ar.2.1) Ar.2.2 (inb_of q2 hj) (q4.at (inb_of q2 hj) hv) (g := mkF C.m pc Ls (.int j :: .ref a :: rest)) rfl rfl (hb hby hd) _ kk
theorem Rc.baload {pc' : Nat} {a : Addr} {j z : Int32} {v : Value} {kA : ClassId} {vs : List Value} {dv : Value} (H : Rc C R own bs ml Z n0 ce sl pc Ls (.int j :: .ref a :: rest) h Ds) (V : Arv Z h a kA .byte z vs dv) (hj : ¬ j < 0 ∧ j < z) (hv : vs.getD j.toNatClampNeg dv = v) (hd : decode bs pc = .ok (.baload, 1)) (hp : pc + 1 = pc') : Rc C R own bs ml Z n0 ce sl pc' Ls (v :: rest) h Ds := by
  subst hp
  obtain ⟨cl, Ar, q1, q2, q3, q4, q5⟩ := V
  exact H.goX fun s T locs t X hZ hown eT hx hby kk => X.baloadBytes hx (j := j) (v := v) (by rw [eT]; exact Ar.1) (State.isArrayOf_alike hZ.alike Ar.2.1) Ar.2.2 (inb_of q2 hj) (q4.at (inb_of q2 hj) hv) (g := mkF C.m pc Ls (.int j :: .ref a :: rest)) rfl rfl (hb hby hd) _ kk
theorem Rc.aaload {pc' : Nat} {a : Addr} {j z : Int32} {v : Value} {kA : ClassId} {ty : FieldType} {vs : List Value} {dv : Value} (H : Rc C R own bs ml Z n0 ce sl pc Ls (.int j :: .ref a :: rest) h Ds) (V : Arv Z h a kA ty z vs dv) (hty : ty.isReference = true) (hj : ¬ j < 0 ∧ j < z) (hv : vs.getD j.toNatClampNeg dv = v) (hd : decode bs pc = .ok (.aaload, 1)) (hp : pc + 1 = pc') : Rc C R own bs ml Z n0 ce sl pc' Ls (v :: rest) h Ds := by
  subst hp
  obtain ⟨cl, Ar, q1, q2, q3, q4, q5⟩ := V
  exact H.goX fun s T locs t X hZ hown eT hx hby kk => X.aaload hx (j := j) (v := v) (by rw [eT]; exact Ar.1) (State.isArrayOf_alike hZ.alike Ar.2.1) hty Ar.2.2 (inb_of q2 hj) (q4.at (inb_of q2 hj) hv) (g := mkF C.m pc Ls (.int j :: .ref a :: rest)) rfl rfl (hb hby hd) _ kk
theorem Rc.arraylength {pc' : Nat} {a : Addr} {z : Int32} {kA : ClassId} {ty : FieldType} {vs : List Value} {dv : Value} (H : Rc C R own bs ml Z n0 ce sl pc Ls (.ref a :: rest) h Ds) (V : Arv Z h a kA ty z vs dv) (hd : decode bs pc = .ok (.arraylength, 1)) (hp : pc + 1 = pc') : Rc C R own bs ml Z n0 ce sl pc' Ls (.int z :: rest) h Ds := by
  subst hp
  obtain ⟨cl, Ar, q1, q2, q3, q4, q5⟩ := V
  have e := len_of q2 q3
  exact H.goX fun s T locs t X hZ hown eT hx hby kk => X.arraylength hx (by rw [eT]; exact Ar.1) (State.isArrayOf_alike hZ.alike Ar.2.1) (g := mkF C.m pc Ls (.ref a :: rest)) rfl rfl (hb hby hd) _ (by rw [e]; exact kk)
theorem Rc.initO {pc' : Nat} {a : Addr} {idx W : Nat} (H : Rc C R own bs ml Z n0 ce sl pc Ls (.ref a :: rest) h Ds) (w1 : (Jvm.Cond.methodLink own idx Lib.objectInit).before a0 Z = true) (w2 : (Jvm.Cond.instanceMethod Lib.objectInit).before a0 Z = true) (w3 : (Jvm.Cond.code Lib.objectInit ⟨#[0xb1]⟩ 1 none).before a0 Z = true) (hsz : Ls.size = ml) (hd : decode bs pc = .ok (.invokespecial idx, 3)) (hf : 1 ≤ R.frames) (hW : (rest.map fun v => v.category).sum = W) (hl : W + 12 ≤ R.locals) (hp : pc + 3 = pc') : Rc C R own bs ml Z n0 ce sl pc' Ls rest h Ds := by
  subst hp
  obtain ⟨T, locs, vm0, k0, X, h1, h2, h3, h4, h5, h6, h7, k⟩ := H
  obtain ⟨T', X', e', st⟩ := RoadKit.initO X h7.1 (Z := Z) h3 h7.2.2.2.1 w1 w2 w3 h5 (g := mkF C.m pc Ls (.ref a :: rest)) rfl (hsz.trans h7.2.2.1.symm) rfl (hb h7.2.1 hd) hf (W := W) (by show 2 * 0 + _ ≤ _; omega) hl
  exact ⟨T', locs, vm0, k0, X', h1, h2, h3, h4, e', h6, h7, fun t ht => k _ (st _ ht)⟩
theorem Rc.castY {pc' : Nat} {a : Addr} {K : String} {idx : Nat} (H : Rc C R own bs ml Z n0 ce sl pc Ls (.ref a :: rest) h Ds) (w : (Jvm.Cond.classLink own idx K).before a0 Z = true) (F : Ins Z h a K true) (hd : decode bs pc = .ok (.checkcast idx, 3)) (hp : pc + 3 = pc') : Rc C R own bs ml Z n0 ce sl pc' Ls (.ref a :: rest) h Ds := by
  subst hp
  obtain ⟨T, locs, vm0, k0, X, h1, h2, h3, h4, h5, h6, h7, k⟩ := H
  obtain ⟨T', X', e', st⟩ := RoadKit.castY X h7.1 (Z := Z) h3 h7.2.2.2.1 w h5 F (g := mkF C.m pc Ls (.ref a :: rest)) rfl rfl (hb h7.2.1 hd)
  exact ⟨T', locs, vm0, k0, X', h1, h2, h3, h4, e', h6, h7, fun t ht => k _ (st _ ht)⟩
theorem Rc.castNull {pc' : Nat} {idx : Nat} (H : Rc C R own bs ml Z n0 ce sl pc Ls (.null :: rest) h Ds) (hd : decode bs pc = .ok (.checkcast idx, 3)) (hp : pc + 3 = pc') : Rc C R own bs ml Z n0 ce sl pc' Ls (.null :: rest) h Ds := by
  subst hp
  exact H.goX fun s T locs t X hZ hown eT hx hby kk => X.checkcastNull hx (g := mkF C.m pc Ls (.null :: rest)) rfl rfl (hb hby hd) _ kk
theorem Rc.instNull {pc' : Nat} {idx : Nat} (H : Rc C R own bs ml Z n0 ce sl pc Ls (.null :: rest) h Ds) (hd : decode bs pc = .ok (.instanceof idx, 3)) (hp : pc + 3 = pc') : Rc C R own bs ml Z n0 ce sl pc' Ls (.int 0 :: rest) h Ds := by
  subst hp
  exact H.goX fun s T locs t X hZ hown eT hx hby kk => X.instanceofNull hx (g := mkF C.m pc Ls (.null :: rest)) rfl rfl (hb hby hd) _ kk
theorem Rc.instY {pc' : Nat} {a : Addr} {K : String} {idx : Nat} (H : Rc C R own bs ml Z n0 ce sl pc Ls (.ref a :: rest) h Ds) (w : (Jvm.Cond.classLink own idx K).before a0 Z = true) (F : Ins Z h a K true) (hd : decode bs pc = .ok (.instanceof idx, 3)) (hp : pc + 3 = pc') : Rc C R own bs ml Z n0 ce sl pc' Ls (.int 1 :: rest) h Ds := by
  subst hp
  obtain ⟨T, locs, vm0, k0, X, h1, h2, h3, h4, h5, h6, h7, k⟩ := H
  obtain ⟨T', X', e', st⟩ := RoadKit.instY X h7.1 (Z := Z) h3 h7.2.2.2.1 w h5 F (g := mkF C.m pc Ls (.ref a :: rest)) rfl rfl (hb h7.2.1 hd)
  exact ⟨T', locs, vm0, k0, X', h1, h2, h3, h4, e', h6, h7, fun t ht => k _ (st _ ht)⟩
theorem Rc.instNo {pc' : Nat} {a : Addr} {K Cc : String} {idx : Nat} (H : Rc C R own bs ml Z n0 ce sl pc Ls (.ref a :: rest) h Ds) (w : (Jvm.Cond.classLink own idx K).before a0 Z = true) (E : Exa Z h a Cc) (F : ∃ c t, Z.vm.findClass Cc = some c ∧ Z.vm.findClass K = some t ∧ Z.vm.assignable c t = false) (hd : decode bs pc = .ok (.instanceof idx, 3)) (hp : pc + 3 = pc') : Rc C R own bs ml Z n0 ce sl pc' Ls (.int 0 :: rest) h Ds := by
  subst hp
  obtain ⟨T, locs, vm0, k0, X, h1, h2, h3, h4, h5, h6, h7, k⟩ := H
  obtain ⟨T', X', e', st⟩ := RoadKit.instNo X h7.1 (Z := Z) h3 h7.2.2.2.1 w h5 E F (g := mkF C.m pc Ls (.ref a :: rest)) rfl rfl (hb h7.2.1 hd)
  exact ⟨T', locs, vm0, k0, X', h1, h2, h3, h4, e', h6, h7, fun t ht => k _ (st _ ht)⟩
/-! calls by a contract -/
abbrev NoMH (y : MethodName) : Prop := y.cls ≠ "java/lang/invoke/MethodHandle" ∧ y.cls ≠ "java/lang/invoke/VarHandle"
theorem own_fin {Q : Option Value → Heap → List Addr → Prop} {T : State} {locs : List Loc} {vm0 : Vm} {k0 pc' : Nat} {g : JFrame} {rm : Room} {v : Option Value} {B : Pt} {rest : List Value}
    (h1 : C.s.Since vm0 k0) (h2 : k0 ≤ h.size) (h3 : Z.Warmed39 vm0) (h5 : T.heap = h) (h6 : Fr n0 locs) (h7 : C.p.tables.exec = Jvm.exec ∧ C.c.code = bs ∧ C.c.maxLocals = ml ∧ vm0.findClass own = some C.m.cls ∧ C.meth.locks = false)
    (k : ∀ t, Steps C.p.tables C.e C.below (T.setTop g) t → Steps C.p.tables C.e C.below C.s0 t)
    (X' : Stand C.p C.l C.e R ((C.s.setVm vm0).setVm B.U.vm) C.m C.args C.below C.meth C.c B.U B.locs B.cells B.slots) (hS' : (C.s.setVm vm0).Since B.U.vm B.U.heap.size) (hgr : T.heap.size ≤ B.U.heap.size)
    (hq : ∃ (L : List Loc) (Ds' : List Addr), Q v B.U.heap Ds' ∧ JJ Z n0 B.U.vm B.U.heap Ds' ∧ Fr n0 L ∧ B.locs = locs ++ L ∧ B.cells = ce + rm.cells ∧ B.slots = sl + rm.slots)
    (st : Steps C.p.tables C.e C.below (T.setTop g) (B.U.setTop (mkF C.m pc' Ls (v.toList ++ rest)))) :
    ∃ (v : Option Value) (h' : Heap) (Ds' : List Addr), Q v h' Ds' ∧ Rc C R own bs ml Z n0 (ce + rm.cells) (sl + rm.slots) pc' Ls (v.toList ++ rest) h' Ds' := by
  obtain ⟨L, Ds', hQ, hJ, hFr, e1, e2, e3⟩ := hq
  refine ⟨v, B.U.heap, Ds', hQ, B.U, B.locs, B.U.vm, B.U.heap.size, ?_, h1.trans hS' (by rw [h5] at hgr; exact Nat.le_trans h2 hgr), Nat.le_refl _, State.Warmed39.trans (t := C.s.setVm vm0) h3 hS'.1, hJ, rfl, ?_, ⟨h7.1, h7.2.1, h7.2.2.1, ?_, h7.2.2.2.2⟩, fun t ht => k _ (st.trans ht)⟩
  · rw [← e2, ← e3]; exact X'
  · rw [e1]; exact Fr.app h6 hFr
  · rw [hS'.1.alike.findClass]; exact h7.2.2.2.1
theorem Rc.callS {pc' : Nat} {y : MethodName} {idx ml' W : Nat} {by' : ByteArray} {ret' : Option FieldType} {rm : Room} {argsL : List Value} {Q : Option Value → Heap → List Addr → Prop} (H : Rc C R own bs ml Z n0 ce sl pc Ls S h Ds)
    (hlink : (Jvm.Cond.methodLink own idx y).before a0 Z = true) (hstat : (Jvm.Cond.static y).before a0 Z = true) (hinit : (Jvm.Cond.initialized y.cls).before a0 Z = true) (hcode : (Jvm.Cond.code y by' ml' ret').before a0 Z = true) (hy : NoMH y)
    (K : Ctr C.l Z y by' ml' ret' [] rm argsL.toArray h n0 Ds Q) (hsz : Ls.size = ml) (hlen : ∀ sig, parseMethodDescriptor y.desc = some sig → argsL.length = sig.parameters.length) (hst : S = argsL.reverse ++ rest) (hW : (rest.map fun v => v.category).sum = W)
    (hd : decode bs pc = .ok (.invokestatic idx, 3)) (hfr : rm.frames + 1 ≤ R.frames) (hlo : W + (ml' + 11) + rm.locals ≤ R.locals) (hce : ce + rm.cells ≤ R.cells) (hsl : sl + rm.slots ≤ R.slots) (hp : pc + 3 = pc') :
    ∃ (v : Option Value) (h' : Heap) (Ds' : List Addr), Q v h' Ds' ∧ Rc C R own bs ml Z n0 (ce + rm.cells) (sl + rm.slots) pc' Ls (v.toList ++ rest) h' Ds' := by
  subst hp hst
  obtain ⟨T, locs, vm0, k0, X, h1, h2, h3, h4, h5, h6, h7, k⟩ := H
  obtain ⟨v, vm₁, B, hw1, X', hS', hgr, hq, st⟩ := callSS X h7.1 h7.2.2.2.1 (mvT (s := C.s.setVm vm0) h3 hlink) (mvT (s := C.s.setVm vm0) h3 hstat) (mvT (s := C.s.setVm vm0) h3 hinit) (mvT (s := C.s.setVm vm0) h3 hcode) hy (ctrBack (s := C.s.setVm vm0) (W := W) K h3 h4 hcode hinit hfr hlo) (g := mkF C.m pc Ls (argsL.reverse ++ rest)) rfl (hsz.trans h7.2.2.1.symm) hlen rfl (by show 2 * 0 + _ ≤ _; omega) (hb h7.2.1 hd) (fun vm₁ hw => ⟨rfl, h5, hce, hsl⟩)
  exact own_fin h1 h2 h3 h5 h6 h7 k X' hS' hgr hq st
theorem Rc.callSN {pc' : Nat} {y : MethodName} {host : String} {idx ml' W : Nat} {by' : ByteArray} {ret' : Option FieldType} {rm : Room} {argsL : List Value} {Q : Option Value → Heap → List Addr → Prop} (H : Rc C R own bs ml Z n0 ce sl pc Ls S h Ds)
    (hlink : (Jvm.Cond.methodLinkNest own idx y host).before a0 Z = true) (hstat : (Jvm.Cond.static y).before a0 Z = true) (hinit : (Jvm.Cond.initialized y.cls).before a0 Z = true) (hcode : (Jvm.Cond.code y by' ml' ret').before a0 Z = true) (hy : NoMH y)
    (K : Ctr C.l Z y by' ml' ret' [] rm argsL.toArray h n0 Ds Q) (hsz : Ls.size = ml) (hlen : ∀ sig, parseMethodDescriptor y.desc = some sig → argsL.length = sig.parameters.length) (hst : S = argsL.reverse ++ rest) (hW : (rest.map fun v => v.category).sum = W)
    (hd : decode bs pc = .ok (.invokestatic idx, 3)) (hfr : rm.frames + 1 ≤ R.frames) (hlo : W + (ml' + 11) + rm.locals ≤ R.locals) (hce : ce + rm.cells ≤ R.cells) (hsl : sl + rm.slots ≤ R.slots) (hp : pc + 3 = pc') :
    ∃ (v : Option Value) (h' : Heap) (Ds' : List Addr), Q v h' Ds' ∧ Rc C R own bs ml Z n0 (ce + rm.cells) (sl + rm.slots) pc' Ls (v.toList ++ rest) h' Ds' := by
  subst hp hst
  obtain ⟨T, locs, vm0, k0, X, h1, h2, h3, h4, h5, h6, h7, k⟩ := H
  obtain ⟨v, vm₁, B, hw1, X', hS', hgr, hq, st⟩ := callSNS X h7.1 h7.2.2.2.1 (Jvm.Cond.methodLinkNest_wide h3 hlink) (mvT (s := C.s.setVm vm0) h3 hstat) (mvT (s := C.s.setVm vm0) h3 hinit) (mvT (s := C.s.setVm vm0) h3 hcode) hy (ctrBack (s := C.s.setVm vm0) (W := W) K h3 h4 hcode hinit hfr hlo) (g := mkF C.m pc Ls (argsL.reverse ++ rest)) rfl (hsz.trans h7.2.2.1.symm) hlen rfl (by show 2 * 0 + _ ≤ _; omega) (hb h7.2.1 hd) (fun vm₁ hw => ⟨rfl, h5, hce, hsl⟩)
  exact own_fin h1 h2 h3 h5 h6 h7 k X' hS' hgr hq st
theorem Rc.callI {pc' : Nat} {y : MethodName} {idx ml' W : Nat} {by' : ByteArray} {rm : Room} {a : Addr} {argsL : List Value} {Q : Option Value → Heap → List Addr → Prop} (H : Rc C R own bs ml Z n0 ce sl pc Ls S h Ds) (hy1 : y.name = "<init>")
    (hlink : (Jvm.Cond.methodLink own idx y).before a0 Z = true) (hinst : (Jvm.Cond.instanceMethod y).before a0 Z = true) (hinit : (Jvm.Cond.initialized y.cls).before a0 Z = true) (hcode : (Jvm.Cond.code y by' ml' none).before a0 Z = true) (hy : NoMH y)
    (K : Ctr C.l Z y by' ml' none [] rm (.ref a :: argsL).toArray h n0 Ds Q) (hsz : Ls.size = ml) (hlen : ∀ sig, parseMethodDescriptor y.desc = some sig → argsL.length = sig.parameters.length) (hst : S = argsL.reverse ++ .ref a :: rest) (hW : (rest.map fun v => v.category).sum = W)
    (hd : decode bs pc = .ok (.invokespecial idx, 3)) (hfr : rm.frames + 1 ≤ R.frames) (hlo : W + (ml' + 11) + rm.locals ≤ R.locals) (hce : ce + rm.cells ≤ R.cells) (hsl : sl + rm.slots ≤ R.slots) (hp : pc + 3 = pc') :
    ∃ (v : Option Value) (h' : Heap) (Ds' : List Addr), Q v h' Ds' ∧ Rc C R own bs ml Z n0 (ce + rm.cells) (sl + rm.slots) pc' Ls (v.toList ++ rest) h' Ds' := by
  subst hp hst
  obtain ⟨T, locs, vm0, k0, X, h1, h2, h3, h4, h5, h6, h7, k⟩ := H
  obtain ⟨v, vm₁, B, hw1, X', hS', hgr, hq, st⟩ := X.specialBackS h7.1 hy1 h7.2.2.2.1 (mvT (s := C.s.setVm vm0) h3 hlink) (mvT (s := C.s.setVm vm0) h3 hinst) (mvT (s := C.s.setVm vm0) h3 hcode) hy (ctrBack (s := C.s.setVm vm0) (W := W) K h3 h4 hcode hinit hfr hlo) (g := mkF C.m pc Ls (argsL.reverse ++ .ref a :: rest)) rfl (hsz.trans h7.2.2.1.symm) (Steps.refl _) hlen rfl (by show 2 * 0 + _ ≤ _; omega) (hb h7.2.1 hd) (fun vm₁ hw => ⟨rfl, h5, hce, hsl⟩)
  exact own_fin h1 h2 h3 h5 h6 h7 k X' hS' hgr hq st
theorem Rc.callV {pc' : Nat} {y z : MethodName} {Cc : String} {idx ml' W : Nat} {by' : ByteArray} {ret' : Option FieldType} {rm : Room} {a : Addr} {argsL : List Value} {Q : Option Value → Heap → List Addr → Prop} (H : Rc C R own bs ml Z n0 ce sl pc Ls S h Ds)
    (hlink : (Jvm.Cond.methodLink own idx y).before a0 Z = true) (hdecl : (Jvm.Cond.declares y).before a0 Z = true) (hnf : ∀ s' : State, Z.Warmed39 s'.vm → NotFace s' y) (hsel : (Jvm.Cond.selects Cc y z).before a0 Z = true) (hinst : (Jvm.Cond.instanceMethod z).before a0 Z = true) (hinit : (Jvm.Cond.initialized z.cls).before a0 Z = true) (hcode : (Jvm.Cond.code z by' ml' ret').before a0 Z = true) (hy : NoMH y)
    (E : Exa Z h a Cc) (K : Ctr C.l Z z by' ml' ret' [] rm (.ref a :: argsL).toArray h n0 Ds Q) (hsz : Ls.size = ml) (hlen : ∀ sig, parseMethodDescriptor y.desc = some sig → argsL.length = sig.parameters.length) (hst : S = argsL.reverse ++ .ref a :: rest) (hW : (rest.map fun v => v.category).sum = W)
    (hd : decode bs pc = .ok (.invokevirtual idx, 3)) (hfr : rm.frames + 1 ≤ R.frames) (hlo : W + (ml' + 11) + rm.locals ≤ R.locals) (hce : ce + rm.cells ≤ R.cells) (hsl : sl + rm.slots ≤ R.slots) (hp : pc + 3 = pc') :
    ∃ (v : Option Value) (h' : Heap) (Ds' : List Addr), Q v h' Ds' ∧ Rc C R own bs ml Z n0 (ce + rm.cells) (sl + rm.slots) pc' Ls (v.toList ++ rest) h' Ds' := by
  subst hp hst
  obtain ⟨T, locs, vm0, k0, X, h1, h2, h3, h4, h5, h6, h7, k⟩ := H
  obtain ⟨cq, kq, qa, qb, qc⟩ := isOf (s := C.s.setVm vm0) h3 h5 E
  obtain ⟨v, vm₁, B, hw1, X', hS', hgr, hq, st⟩ := X.virtualBackS h7.1 (y := y) (z := z) h7.2.2.2.1 (mvT (s := C.s.setVm vm0) h3 hlink) (mvT (s := C.s.setVm vm0) h3 hdecl) (hnf _ h3) (mvT (s := C.s.setVm vm0) h3 hsel) (mvT (s := C.s.setVm vm0) h3 hinst) hy (ctrBack (s := C.s.setVm vm0) (W := W) K h3 h4 hcode hinit hfr hlo) qa qc (g := mkF C.m pc Ls (argsL.reverse ++ .ref a :: rest)) rfl (hsz.trans h7.2.2.1.symm) (Steps.refl _) hlen rfl (by show 2 * 0 + _ ≤ _; omega) (hb h7.2.1 hd) (fun vm₁ hw => ⟨rfl, h5, hce, hsl⟩)
  exact own_fin h1 h2 h3 h5 h6 h7 k X' hS' hgr hq st
/-! calls by a Back (a law of the library's) -/
theorem own_finB {Qb : Option Value → Heap → List Loc → Prop} {T : State} {locs : List Loc} {vm0 : Vm} {k0 pc' kc ks : Nat} {g : JFrame} {v : Option Value} {B : Pt} {rest : List Value}
    (h1 : C.s.Since vm0 k0) (h2 : k0 ≤ h.size) (h3 : Z.Warmed39 vm0) (h4 : JJ Z n0 vm0 h Ds) (h6 : Fr n0 locs) (h7 : C.p.tables.exec = Jvm.exec ∧ C.c.code = bs ∧ C.c.maxLocals = ml ∧ vm0.findClass own = some C.m.cls ∧ C.meth.locks = false)
    (k : ∀ t, Steps C.p.tables C.e C.below (T.setTop g) t → Steps C.p.tables C.e C.below C.s0 t)
    (hQ : ∀ v h' L, Qb v h' L → Fr n0 L ∧ ∃ ws, Keep h h' ws ∧ ∀ x ∈ ws, x ∈ Ds)
    (X' : Stand C.p C.l C.e R (C.s.setVm vm0) C.m C.args C.below C.meth C.c B.U B.locs B.cells B.slots)
    (hq : ∃ (L : List Loc), Qb v B.U.heap L ∧ B.locs = locs ++ L ∧ B.cells = ce + kc ∧ B.slots = sl + ks)
    (st : ∀ t, Steps C.p.tables C.e C.below (B.U.setTop (mkF C.m pc' Ls (v.toList ++ rest))) t → Steps C.p.tables C.e C.below (T.setTop g) t) :
    ∃ (v : Option Value) (h' : Heap) (L : List Loc), Qb v h' L ∧ Rc C R own bs ml Z n0 (ce + kc) (sl + ks) pc' Ls (v.toList ++ rest) h' Ds := by
  obtain ⟨L, hQb, e1, e2, e3⟩ := hq
  obtain ⟨hFr, ws, K, hws⟩ := hQ _ _ _ hQb
  refine ⟨v, B.U.heap, L, hQb, B.U, B.locs, vm0, k0, ?_, h1, Nat.le_trans h2 K.1, h3, h4.keep K hws, rfl, ?_, h7, fun t ht => k _ (st _ ht)⟩
  · rw [← e2, ← e3]; exact X'
  · rw [e1]; exact Fr.app h6 hFr
theorem Rc.backI {pc' : Nat} {y : MethodName} {idx ml' W kc ks : Nat} {by' : ByteArray} {a : Addr} {argsL : List Value} {Qb : Option Value → Heap → List Loc → Prop} (H : Rc C R own bs ml Z n0 ce sl pc Ls S h Ds) (hy1 : y.name = "<init>")
    (hlink : (Jvm.Cond.methodLink own idx y).before a0 Z = true) (hinst : (Jvm.Cond.instanceMethod y).before a0 Z = true) (hcode : (Jvm.Cond.code y by' ml' none).before a0 Z = true) (hy : NoMH y)
    (K : ∀ s' : State, Z.Warmed39 s'.vm → Back C.l R C.p C.e C.below s' C.args y 3 W (fun P a' => a' = (.ref a :: argsL).toArray ∧ P.U.heap = h ∧ P.cells + kc ≤ R.cells ∧ P.slots + ks ≤ R.slots) (fun P _ v B => ∃ L, Qb v B.U.heap L ∧ B.locs = P.locs ++ L ∧ B.cells = P.cells + kc ∧ B.slots = P.slots + ks))
    (hQ : ∀ v h' L, Qb v h' L → Fr n0 L ∧ ∃ ws, Keep h h' ws ∧ ∀ x ∈ ws, x ∈ Ds) (hsz : Ls.size = ml) (hlen : ∀ sig, parseMethodDescriptor y.desc = some sig → argsL.length = sig.parameters.length) (hst : S = argsL.reverse ++ .ref a :: rest) (hW : (rest.map fun v => v.category).sum = W)
    (hd : decode bs pc = .ok (.invokespecial idx, 3)) (hce : ce + kc ≤ R.cells) (hsl : sl + ks ≤ R.slots) (hp : pc + 3 = pc') :
    ∃ (v : Option Value) (h' : Heap) (L : List Loc), Qb v h' L ∧ Rc C R own bs ml Z n0 (ce + kc) (sl + ks) pc' Ls (v.toList ++ rest) h' Ds := by
  subst hp hst
  obtain ⟨T, locs, vm0, k0, X, h1, h2, h3, h4, h5, h6, h7, k⟩ := H
  obtain ⟨v, vm₁, B, hw1, X', hq, st⟩ := X.specialBack h7.1 hy1 h7.2.2.2.1 (mvT (s := C.s.setVm vm0) h3 hlink) (mvT (s := C.s.setVm vm0) h3 hinst) (mvT (s := C.s.setVm vm0) h3 hcode) hy (K _ h3) (g := mkF C.m pc Ls (argsL.reverse ++ .ref a :: rest)) rfl (hsz.trans h7.2.2.1.symm) (Steps.refl _) hlen rfl (by show 2 * 0 + _ ≤ _; omega) (hb h7.2.1 hd) (fun vm₁ hw => ⟨rfl, h5, hce, hsl⟩)
  exact own_finB h1 h2 h3 h4 h6 h7 k hQ X' hq (fun t ht => st.trans ht)
theorem Rc.backV {pc' : Nat} {y z : MethodName} {Cc : String} {idx W kc ks : Nat} {a : Addr} {argsL : List Value} {Qb : Option Value → Heap → List Loc → Prop} (H : Rc C R own bs ml Z n0 ce sl pc Ls S h Ds)
    (hlink : (Jvm.Cond.methodLink own idx y).before a0 Z = true) (hdecl : (Jvm.Cond.declares y).before a0 Z = true) (hnf : ∀ s' : State, Z.Warmed39 s'.vm → NotFace s' y) (hsel : (Jvm.Cond.selects Cc y z).before a0 Z = true) (hinst : (Jvm.Cond.instanceMethod z).before a0 Z = true) (hy : NoMH y) (E : Exa Z h a Cc)
    (K : ∀ s' : State, Z.Warmed39 s'.vm → Back C.l R C.p C.e C.below s' C.args z 3 W (fun P a' => a' = (.ref a :: argsL).toArray ∧ P.U.heap = h ∧ P.cells + kc ≤ R.cells ∧ P.slots + ks ≤ R.slots) (fun P _ v B => ∃ L, Qb v B.U.heap L ∧ B.locs = P.locs ++ L ∧ B.cells = P.cells + kc ∧ B.slots = P.slots + ks))
    (hQ : ∀ v h' L, Qb v h' L → Fr n0 L ∧ ∃ ws, Keep h h' ws ∧ ∀ x ∈ ws, x ∈ Ds) (hsz : Ls.size = ml) (hlen : ∀ sig, parseMethodDescriptor y.desc = some sig → argsL.length = sig.parameters.length) (hst : S = argsL.reverse ++ .ref a :: rest) (hW : (rest.map fun v => v.category).sum = W)
    (hd : decode bs pc = .ok (.invokevirtual idx, 3)) (hce : ce + kc ≤ R.cells) (hsl : sl + ks ≤ R.slots) (hp : pc + 3 = pc') :
    ∃ (v : Option Value) (h' : Heap) (L : List Loc), Qb v h' L ∧ Rc C R own bs ml Z n0 (ce + kc) (sl + ks) pc' Ls (v.toList ++ rest) h' Ds := by
  subst hp hst
  obtain ⟨T, locs, vm0, k0, X, h1, h2, h3, h4, h5, h6, h7, k⟩ := H
  obtain ⟨cq, kq, qa, qb, qc⟩ := isOf (s := C.s.setVm vm0) h3 h5 E
  obtain ⟨v, vm₁, B, hw1, X', hq, st⟩ := X.virtualBack h7.1 (y := y) (z := z) h7.2.2.2.1 (mvT (s := C.s.setVm vm0) h3 hlink) (mvT (s := C.s.setVm vm0) h3 hdecl) (hnf _ h3) (mvT (s := C.s.setVm vm0) h3 hsel) (mvT (s := C.s.setVm vm0) h3 hinst) hy (K _ h3) qa qc (g := mkF C.m pc Ls (argsL.reverse ++ .ref a :: rest)) rfl (hsz.trans h7.2.2.1.symm) (Steps.refl _) hlen rfl (by show 2 * 0 + _ ≤ _; omega) (hb h7.2.1 hd) (fun vm₁ hw => ⟨rfl, h5, hce, hsl⟩)
  exact own_finB h1 h2 h3 h4 h6 h7 k hQ X' hq (fun t ht => st.trans ht)
/-! returns -/
theorem Rc.retX {Q : Option Value → Heap → List Addr → Prop} {v : Option Value} {kc ks : Nat} {Ds' : List Addr} (H : Rc C R own bs ml Z n0 ce sl pc Ls S h Ds) (hv : C.meth.sig.returnType = none → v = none)
    (f : ∀ (s T : State) (locs : List Loc) (fs : List Frame), Stand C.p C.l C.e R s C.m C.args C.below C.meth C.c T locs ce sl → C.p.tables.exec = Jvm.exec → C.c.code = bs → (∀ (f : JFrame) (acts : List Action), f.method = C.m → f.locked = none → f.entered = [] → (doReturn C.e (T.setTop f) acts v).1 = T.setFrames fs) → Steps C.p.tables C.e C.below (T.setTop (mkF C.m pc Ls S)) (T.setFrames fs))
    (hk : ce ≤ kc) (hs : sl ≤ ks) (hds : ∀ x ∈ Ds', x ∈ Ds) (hq : Q v h Ds') : Done C Z n0 Q kc ks := by
  obtain ⟨T, locs, vm0, k0, X, h1, h2, h3, h4, h5, h6, h7, k⟩ := H
  obtain ⟨fs, hr, hrun, hend, hE⟩ := X.leaveW h1 (by rw [h5]; exact h2) hv h7.2.2.2.2
  refine ⟨T.setFrames fs, .returned v, k _ (f _ T locs fs X h7.1 h7.2.1 hr), hrun, hend, v, locs, Ds', rfl, ?_, ?_, h6, hE.1, hE.2.1, hE.2.2.1, hE.2.2.2.mono hk hs⟩
  · show Q v T.heap Ds'
    rw [h5]; exact hq
  · show JJ Z n0 T.vm T.heap Ds'
    rw [h5]
    exact (JJ.warm (t := C.s.setVm vm0) h4 h3 X.warmed).less hds
theorem Rc.retI {Q : Option Value → Heap → List Addr → Prop} {z : Int32} {kc ks : Nat} {Ds' : List Addr} (H : Rc C R own bs ml Z n0 ce sl pc Ls (.int z :: rest) h Ds) (hret : C.meth.sig.returnType = some .int) (hd : decode bs pc = .ok (.ireturn, 1)) (hk : ce ≤ kc) (hs : sl ≤ ks) (hds : ∀ x ∈ Ds', x ∈ Ds) (hq : Q (some (.int z)) h Ds') : Done C Z n0 Q kc ks :=
  H.retX (v := some (.int z)) (fun e => by rw [hret] at e; cases e) (fun s T locs fs X hx hby hr => retOut X hx hret rfl (Or.inl ⟨rfl, Or.inl rfl, z, rfl⟩) (hb hby hd) hr) hk hs hds hq
theorem Rc.retN {Q : Option Value → Heap → List Addr → Prop} {z z' : Int32} {t : FieldType} {kc ks : Nat} {Ds' : List Addr} (H : Rc C R own bs ml Z n0 ce sl pc Ls (.int z :: rest) h Ds) (hret : C.meth.sig.returnType = some t) (ht : t = .boolean ∨ t = .byte ∨ t = .char ∨ t = .short) (hz : nar t z = z') (hd : decode bs pc = .ok (.ireturn, 1)) (hk : ce ≤ kc) (hs : sl ≤ ks) (hds : ∀ x ∈ Ds', x ∈ Ds) (hq : Q (some (.int z')) h Ds') : Done C Z n0 Q kc ks := by
  subst hz
  exact H.retX (v := some (.int (nar t z))) (fun e => by rw [hret] at e; cases e) (fun s T locs fs X hx hby hr => RoadKit.retN X hx hret ht (hb hby hd) hr) hk hs hds hq
theorem Rc.retA {Q : Option Value → Heap → List Addr → Prop} {w : Value} {t : FieldType} {kc ks : Nat} {Ds' : List Addr} (H : Rc C R own bs ml Z n0 ce sl pc Ls (w :: rest) h Ds) (hret : C.meth.sig.returnType = some t) (ht : t.isReference = true) (hn : narrow t w = w) (hw : w.isRef = true) (hd : decode bs pc = .ok (.areturn, 1)) (hk : ce ≤ kc) (hs : sl ≤ ks) (hds : ∀ x ∈ Ds', x ∈ Ds) (hq : Q (some w) h Ds') : Done C Z n0 Q kc ks :=
  H.retX (v := some w) (fun e => by rw [hret] at e; cases e) (fun s T locs fs X hx hby hr => retOut X hx hret hn (Or.inr (Or.inr (Or.inr (Or.inr ⟨rfl, ht, hw⟩)))) (hb hby hd) hr) hk hs hds hq
theorem Rc.retV {Q : Option Value → Heap → List Addr → Prop} {kc ks : Nat} {Ds' : List Addr} (H : Rc C R own bs ml Z n0 ce sl pc Ls [] h Ds) (hret : C.meth.sig.returnType = none) (hd : decode bs pc = .ok (.return_, 1)) (hk : ce ≤ kc) (hs : sl ≤ ks) (hds : ∀ x ∈ Ds', x ∈ Ds) (hq : Q none h Ds') : Done C Z n0 Q kc ks :=
  H.retX (v := none) (fun _ => rfl) (fun s T locs fs X hx hby hr => X.returnOut hx hret (hb hby hd) hr) hk hs hds hq
/-! Strings -/
abbrev STR0 : String := "java/lang/String"
def bytesOfCs (cs : List Int32) : List Value := (cs.map fun c => c.toInt8.toInt32).map Value.int
def IsStr (Z : State) (h : Heap) (a : Addr) (cs : List Int32) : Prop :=
  Exa Z h a "java/lang/String" ∧ Fld Z h a "java/lang/String" "coder" "B" (.int 0) ∧ (∀ c ∈ cs, ¬ c < 0 ∧ ¬ (255 : Int32) < c) ∧ cs.length ≤ 4000 ∧
    ∃ (t : Addr) (kb : ClassId), Fld Z h a "java/lang/String" "value" "[B" (.ref t) ∧ Arv Z h t kb .byte (Int32.ofNat cs.length) (bytesOfCs cs) (.int 0)
def NotB (Z : State) (h : Heap) (w : Addr) : Prop := ∀ (t : Addr) (kb : ClassId) (z : Int32) (vs : List Value) (d : Value), Arv Z h t kb .byte z vs d → t ≠ w
theorem notB_exa {Z : State} {h : Heap} {w : Addr} {Cc : String} {n : Nat} {a0 : Array Value} (E : Exa Z h w Cc) (wi : (Jvm.Cond.instantiable Cc n).before a0 Z = true) : NotB Z h w := fun t kb z vs d F e => (E.neArv F wi) e.symm
theorem notB_arv {Z : State} {h : Heap} {w : Addr} {k : ClassId} {ty : FieldType} {z : Int32} {vs : List Value} {dv : Value} (V : Arv Z h w k ty z vs dv) (hty : ty ≠ .byte) : NotB Z h w := fun t kb z' vs' d F e => by
  subst e
  obtain ⟨c1, A1, -⟩ := F
  obtain ⟨c2, A2, -⟩ := V
  cases A1.1.symm.trans A2.1
  obtain ⟨-, k1, p1, comp1, q1⟩ := A1.2.1
  obtain ⟨-, k2, p2, comp2, q2⟩ := A2.2.1
  cases p1.symm.trans p2
  rw [q1] at q2
  cases q2
  exact hty rfl
theorem notB_new {Z : State} {h : Heap} {w : Addr} (e : h.size ≤ w) : NotB Z h w := fun t kb z vs d F q => by subst q; exact absurd F.lt (Nat.not_lt.mpr e)
theorem IsStr.keep {Z : State} {h h' : Heap} {a : Addr} {cs : List Int32} {ws : List Addr} (F : IsStr Z h a cs) (K : Keep h h' ws) (q : a ∉ ws) (q' : ∀ w ∈ ws, NotB Z h w) : IsStr Z h' a cs := by
  obtain ⟨f1, f2, f3, f4, t, kb, f5, f6⟩ := F
  exact ⟨f1.keep K, f2.keep K q, f3, f4, t, kb, f5.keep K q, f6.keep K (fun m => q' t m t kb _ _ _ f6 rfl)⟩
theorem IsStr.ext {Z : State} {h h' : Heap} {a : Addr} {cs : List Int32} (F : IsStr Z h a cs) (E : Ext h h') : IsStr Z h' a cs := F.keep ((Keep.refl h []).ext E) (fun m => nomatch m) (fun w m => nomatch m)
theorem IsStr.lt {Z : State} {h : Heap} {a : Addr} {cs : List Int32} (F : IsStr Z h a cs) : a < h.size := F.1.lt
theorem byte_of (n : Nat) (h : n < 256) : Jvm.Lit.byteI n.toUInt16 = (Int32.ofNat n).toInt8.toInt32 := by
  have t : ∀ k : Fin 256, Jvm.Lit.byteI k.val.toUInt16 = (Int32.ofNat k.val).toInt8.toInt32 := by decide +kernel
  exact t ⟨n, h⟩
theorem chr_of (n : Nat) (h : n < 256) : ¬ Int32.ofNat n < 0 ∧ ¬ (255 : Int32) < Int32.ofNat n := by
  have t : ∀ k : Fin 256, ¬ Int32.ofNat k.val < 0 ∧ ¬ (255 : Int32) < Int32.ofNat k.val := by decide +kernel
  exact t ⟨n, h⟩
theorem Sx.slOf {Z T : State} {h : Heap} {Ds : List Addr} {a : Addr} {u : Array UInt16} (F : Sx Z h Ds a u) (hal : Z.vm.Alike T.vm) (e : T.heap = h) : SlOf T a u := by
  obtain ⟨q, cS, h1, h2, ⟨kS, k1, k2, k3⟩, h4, h5, -, -⟩ := F
  obtain ⟨kS', hk', ek⟩ := hal.2.2 _ _ k1
  exact ⟨q, cS, h1, Sl.carry (U := ({ Z with heap := h } : State)) hal (by rw [e]; exact h2.1.1) (by rw [e]; exact h2.1.2.2.2.2.2.2.2.2.2.1) h2, ⟨kS', hk', by rw [ek]; exact k2, by rw [ek]; exact k3⟩, by rw [hal.findClass]; exact h4, h5⟩
theorem Sx.of_in {Z T : State} {Ds : List Addr} {a : Addr} {u : Array UInt16} {lo hi : Nat} (F : SlIn lo hi T a u) (hal : T.vm.Alike Z.vm) (hlo : lo ≤ hi) (ha : hi ≤ a) (hD : ∀ x ∈ Ds, x < hi) : Sx Z T.heap Ds a u := by
  obtain ⟨q, cS, h1, h2, ⟨kS, k1, k2, k3⟩, h4, h5, h6⟩ := F
  obtain ⟨kS', hk', ek⟩ := hal.2.2 _ _ k1
  subst h1
  have hb : hi ≤ q.sd := by
    rcases h6 with ⟨x, -⟩ | ⟨-, y⟩
    · exact absurd (Nat.lt_of_lt_of_le x hlo) (Nat.not_lt.mpr ha)
    · exact y
  exact ⟨q, cS, rfl, Sl.carry (U' := ({ Z with heap := T.heap } : State)) hal h2.1.1 h2.1.2.2.2.2.2.2.2.2.2.1 h2, ⟨kS', hk', by rw [ek]; exact k2, by rw [ek]; exact k3⟩, by rw [hal.findClass]; exact h4, h5, fun m => absurd (hD _ m) (Nat.not_lt.mpr ha), fun m => absurd (hD _ m) (Nat.not_lt.mpr hb)⟩
theorem Sx.str {Z : State} {h : Heap} {Ds : List Addr} {a : Addr} {units : Array UInt16} {text : String} {cs : List Int32} (F : Sx Z h Ds a units) (htext : utf16ToString? units = some text) (hlat : ∀ c ∈ text.toList, c.toNat < 256) (hcs : text.toList.map (fun c => Int32.ofNat c.toNat) = cs) (hlen : cs.length ≤ 4000) : IsStr Z h a cs ∧ a ∉ Ds := by
  obtain ⟨q, cS, hqa, ⟨⟨s1, s2, s3, ⟨cv, kv, iv, s4, s4'⟩, ⟨cc, kc, ic, s5, s5'⟩, s6, s7, s8, s9, s10, s11, s12, s13, s14, s15, s16⟩, hfS, hcS⟩, ⟨kS, k1, k2, k3⟩, hB, hbyt, hn1, hn2⟩ := F
  subst hqa
  have hl := Jvm.ClassFile.lat_of_text htext hlat
  have eu : bytesOfCs cs = units.toList.map fun u => Value.int (Jvm.Lit.byteI u) := by
    rw [Jvm.ClassFile.units_of_text htext hlat, List.map_map, ← hcs]
    show List.map Value.int (List.map (fun c => c.toInt8.toInt32) (List.map (fun c => Int32.ofNat c.toNat) text.toList)) = _
    rw [List.map_map, List.map_map]
    refine List.map_congr_left fun c hc => ?_
    show Value.int ((Int32.ofNat c.toNat).toInt8.toInt32) = Value.int (Jvm.Lit.byteI c.toNat.toUInt16)
    rw [byte_of _ (hlat c hc)]
  have el : cs.length = units.size := by
    have := congrArg List.length eu
    simpa [bytesOfCs] using this
  have hsl : q.SA.slots = units.map fun u => Value.int (Jvm.Lit.byteI u) := by rw [hbyt, SBG.stringBytes_lat hl]; rfl
  have hsz : q.SA.slots.size = units.size := by rw [hsl, Array.size_map]
  have Hh : Has q.SA (bytesOfCs cs) (.int 0) := fun j hj => by
    have hj' : j < units.size := by omega
    rw [hsl, eu]; simp [hj']
  have n32 : (Int32.ofNat cs.length).toNatClampNeg = cs.length := by
    have t : (Int32.ofNat cs.length).toInt = (cs.length : Int) := Int32.toInt_ofNat_small (by omega)
    show (Int32.ofNat cs.length).toInt.toNat = cs.length
    omega
  have nneg : ¬ Int32.ofNat cs.length < 0 := by
    have t : (Int32.ofNat cs.length).toInt = (cs.length : Int) := Int32.toInt_ofNat_small (by omega)
    rw [Int32.lt_iff_toInt_lt]
    have z0 : (0 : Int32).toInt = 0 := rfl
    omega
  refine ⟨⟨⟨q.sC, kS, s1, by rw [hcS]; exact hfS, by rw [hcS]; exact k1, s3, fun _ => k3⟩, ⟨q.sC, cc, kc, ic, q.fSC, s1, s5, s7, s2, s3, s5', s9⟩, ?_, hlen, q.sd, q.SA.cls, ⟨q.sC, cv, kv, iv, q.fSV, s1, s4, s6, s2, s3, s4', s8⟩, ⟨q.SA, ⟨s10, s11, s12⟩, rfl, by rw [hsz, n32, el], nneg, Hh, fun j hj => ?_⟩⟩, hn1⟩
  · intro c hc
    rw [← hcs] at hc
    obtain ⟨ch, h1, rfl⟩ := List.mem_map.mp hc
    exact chr_of _ (hlat ch h1)
  · have e1 := s16 j hj
    have e2 := Hh j hj
    rw [SBG.getD_of e2] at e1
    exact e1
theorem own_atoms {Z s : State} {a0 args : Array Value} (hZ : Z.Warmed39 s.vm) (wS : ∀ a ∈ Bundle.stringAtoms, a.before a0 Z = true) : ∀ a ∈ Bundle.stringAtoms, a.before args s = true := fun d hd => by
  have q := wS d hd
  simp only [Bundle.stringAtoms, List.mem_cons, List.not_mem_nil, or_false] at hd
  rcases hd with rfl | rfl | rfl | rfl | rfl | rfl | rfl
  · exact mv hZ q
  · exact mv hZ q
  · exact mvA hZ q
  · exact mv hZ q
  · exact mv hZ q
  · exact mv hZ q
  · exact mv hZ q
theorem open_stays {s : State} {vm' : Vm} (hW : s.WarmedH vm') {c : ClassId} {k k' : Class} {cf : ClassFile} {idx : Nat} {text : String} (hk : s.vm.classes[c]? = some k) (hk' : vm'.classes[c]? = some k') (hcf : k.cf = some cf) (hnm : namesOf? cf.constantPool idx = some (.string text)) (ho : k.resolved[idx]? = some none) : k'.resolved[idx]? = some none := by
  obtain ⟨-, -, hfw⟩ := hW
  obtain ⟨k2, hk2, -, -, ee, -⟩ := hfw _ k hk
  cases hk2.symm.trans hk'
  rcases ee idx with e0 | ⟨-, r, -, hr⟩
  · exact e0.trans ho
  · exfalso
    cases r <;> simp [State.rightAt, hk, hcf, hnm] at hr
/-- 'ldc' of a String constant at the state at hand -/
theorem ldcNow {p : Program} {l : Launch} {e : Env} {R : Room} {s : State} {m : MethodId} {args : Array Value} {below : List Frame} {meth : Method} {c : Code} {T : State} {locs : List Loc} {cells slots : Nat}
    (X : Stand p l e R s m args below meth c T locs cells slots) (hexec : p.tables.exec = Jvm.exec) {own text : String} {index : Nat} (hown : T.vm.findClass own = some m.cls)
    (hlink : (Jvm.Cond.stringLink own index text).before args T = true) (hS : ∀ a ∈ Bundle.stringAtoms, a.before args T = true) (hheld : ConstHeldL T own index) (hlat : ∀ units : Array UInt16, utf16ToString? units = some text → units.all (· < 256) = true)
    {g : JFrame} (hg : g.method = m) (hdg : decode c.code g.pc = .ok (.ldc index, 2)) {n : Nat} (hn : 4 * text.toList.length ≤ n) (hbig : n ≤ 536870912) (hRcells : cells + 2 ≤ R.cells) (hRslots : slots + (n + 4) ≤ R.slots) :
    ∃ (a : Addr) (T₂ : State), Stand p l e R (s.setVm T₂.vm) m args below meth c T₂ locs (cells + 2) (slots + (n + 4)) ∧ s.Since T₂.vm T₂.heap.size ∧ (∃ k₂, T₂.vm.classes[m.cls]? = some k₂ ∧ k₂.resolved[index]? = some (some (.string a))) ∧
      (∀ a0, a0 < T.heap.size → T₂.heap[a0]? = T.heap[a0]?) ∧ T.heap.size ≤ T₂.heap.size ∧ T.Warmed39 T₂.vm ∧ T.Interned1 T₂ ∧ (T₂.vm.interned = T.vm.interned ∨ ∃ (units : Array UInt16) (a' : Addr), utf16ToString? units = some text ∧ T₂.vm.interned = T.vm.interned.push (units, a')) ∧
      (∃ units : Array UInt16, utf16ToString? units = some text ∧ SlIn T.heap.size T.heap.size T₂ a units) ∧
      ∀ target, Steps p.tables e below (T₂.setTop { g with pc := g.pc + 2, stack := .ref a :: g.stack }) target → Steps p.tables e below (T.setTop g) target := by
  obtain ⟨g₀, hf0⟩ := X.frames_eq
  have hcur : T.cur < T.threads.size := State.cur_lt_of_frames hf0
  obtain ⟨th, hth, -⟩ := State.frames_cons hf0
  have hF : (T.setFrames (.invoking m args :: below)).frames = .invoking m args :: below := State.frames_setFrames _ hcur
  have hme : (T.setFrames (.invoking m args :: below)).me.stackBytes = T.me.stackBytes := by
    simp [State.me, State.setFrames, Array.getElem_modify, hcur]
  have hlim : e.platform.stackLimits (T.setFrames (.invoking m args :: below)).me = e.platform.stackLimits T.me := by
    show e.platform.limitsFor _ = e.platform.limitsFor _
    rw [hme]
  have hroom : (T.setFrames (.invoking m args :: below)).hasRoom e.platform ({ R with cells := R.cells - cells, slots := R.slots - slots } : Room) = true := by
    have h0 := X.room
    have hb := X.book
    have hsz := X.heapSize
    have hus := X.used
    have hU : (T.setFrames (.invoking m args :: below)).localsInUse = s.localsInUse := by
      rw [State.localsInUse_invoking hF (show (T.setFrames (.invoking m args :: below)).vm.method? m = some meth from X.method') X.code, State.localsInUse_invoking X.frames X.method X.code]
    have hfl : (T.setFrames (.invoking m args :: below)).frames.length = s.frames.length := by rw [hF, X.frames]
    unfold State.hasRoom at h0 ⊢
    rw [hU, hfl, hlim, X.limits, hme, X.bytes]
    simp only [Bool.and_eq_true, decide_eq_true_eq] at h0 ⊢
    obtain ⟨⟨⟨⟨q1, q2⟩, q3⟩, q4⟩, q5⟩ := h0
    refine ⟨⟨⟨⟨q1, q2⟩, ?_⟩, ?_⟩, hb⟩
    · show T.heap.size + (R.cells - cells) ≤ _
      omega
    · show T.slotsUsed + (R.slots - slots) ≤ _
      omega
  have hhears : (T.setFrames (.invoking m args :: below)).hears m below = true := by
    have h0 := X.hears
    have hmeth : ∀ mm : MethodId, (T.setFrames (.invoking m args :: below)).vm.method? mm = s.vm.method? mm := fun mm => X.warmed.alike.method? mm
    have hcode : ∀ mm : MethodId, (T.setFrames (.invoking m args :: below)).code? mm = s.code? mm := fun mm => by rw [State.code?_eq, State.code?_eq, hmeth]
    cases hb : below with
    | nil => rw [hb] at h0 hmeth; simp only [State.hears] at h0 ⊢; rw [hmeth]; exact h0
    | cons f r =>
      rw [hb] at h0 hmeth hcode
      cases f <;> simp only [State.hears] at h0 ⊢ <;> first | (rw [hcode]; exact h0) | (rw [hmeth]; exact h0) | exact h0
  have hsame : (T.setFrames (.invoking m args :: below)).sameButNew (T.setVm (T.setFrames (.invoking m args :: below)).vm) [] 0 0 := by
    have hd0 : T.heap.toList.drop T.heap.size = [] := List.drop_eq_nil_of_le (by simp)
    refine ⟨?_, Nat.le_refl _, Nat.le_refl _, ?_, ?_, fun a cl hcl => ⟨cl, hcl, rfl, rfl, fun _ _ => rfl⟩⟩
    · show T = { (T.setFrames (.invoking m args :: below)).setFrames T.frames with heap := T.heap, slotsUsed := T.slotsUsed }
      rw [State.setFrames_setFrames, State.setFrames_self hth]
    · show T.slotsUsed = T.slotsUsed + ((T.heap.toList.drop T.heap.size).map (·.slots.size)).sum
      rw [hd0]; rfl
    · show ((T.heap.toList.drop T.heap.size).map (·.slots.size)).sum ≤ 0
      rw [hd0]; exact Nat.le_refl _
  have X' : Stand p l e ({ R with cells := R.cells - cells, slots := R.slots - slots } : Room) (T.setFrames (.invoking m args :: below)) m args below meth c T [] 0 0 :=
    ⟨X.admits, X.cas, X.clock, hF, hroom, hhears, X.method', X.code, X.here, X.tail, State.WarmedH.refl (T.setFrames (.invoking m args :: below)), hlim.symm, hme.symm, hsame⟩
  obtain ⟨a, T₂, X2, hS2, hres, hkeep, hint1, hint, hin, st⟩ := X'.ldcColdF (fun b cl h => h) hexec (own := own) (text := text) (index := index) hown hlink (own_atoms (Z := T) (s := T.setFrames (.invoking m args :: below)) (State.Warmed39.refl T) hS) hheld hlat hg hdg hn hbig (by show 0 + 2 ≤ R.cells - cells; omega) (by show 0 + (n + 4) ≤ R.slots - slots; omega)
  have hsm : T.sameButNew (T₂.setVm T.vm) [] 2 (n + 4) := by
    have q := X2.same.setVm T.vm
    obtain ⟨r1, r2, r3, r4, r5, r6⟩ := q
    refine ⟨?_, r2, by simpa using r3, r4, by simpa using r5, r6⟩
    refine r1.trans ?_
    show ({ (T.setFrames (.invoking m args :: below)).setFrames T₂.frames with heap := T₂.heap, slotsUsed := T₂.slotsUsed } : State) = _
    rw [State.setFrames_setFrames]
    rfl
  obtain ⟨Y, hSY⟩ := X.movedW (T₂ := T₂) X2.here X2.tail (X2.limits.trans hlim) (X2.bytes.trans hme) hS2.1 hS2.2 hsm
  rw [List.append_nil] at Y
  exact ⟨a, T₂, Y, hSY, hres, hkeep, hint1.1, hS2.1, hint1, hint, hin, st⟩
theorem Rc.ldcS {pc' idx n : Nat} {text : String} {cs : List Int32} (H : Rc C R own bs ml Z n0 ce sl pc Ls S h Ds) (hm : (own, idx) ∈ CL) (w : (Jvm.Cond.stringLink own idx text).before a0 Z = true) (hlat : ∀ c ∈ text.toList, c.toNat < 256) (hcs : text.toList.map (fun c => Int32.ofNat c.toNat) = cs) (hlen : cs.length ≤ 4000)
    (hd : decode bs pc = .ok (.ldc idx, 2)) (hn : 4 * text.toList.length ≤ n) (hbig : n ≤ 536870912) (hc : ce + 2 ≤ R.cells) (hl : sl + (n + 4) ≤ R.slots) (hp : pc + 2 = pc') :
    ∃ (h' : Heap) (a : Addr), Ext h h' ∧ IsStr Z h' a cs ∧ a ∉ Ds ∧ Rc C R own bs ml Z n0 (ce + 2) (sl + (n + 4)) pc' Ls (.ref a :: S) h' Ds := by
  subst hp
  obtain ⟨T, locs, vm0, k0, X, h1, h2, h3, h4, h5, h6, h7, k⟩ := H
  obtain ⟨aS, -, -, -, wS⟩ := h4.2.2.2.1 own idx hm
  have hownB : (C.s.setVm vm0).vm.findClass own = some C.m.cls := h7.2.2.2.1
  have wB : (Jvm.Cond.stringLink own idx text).before C.args (C.s.setVm vm0) = true := mvS (s := C.s) h3 w
  obtain ⟨kB, cf, i, units, hkB, hcf, hpB, hu, hnm, htext, hres⟩ := Cond.stringLink_spec hownB wB
  rcases hres with hopen | ⟨a, hra⟩
  · -- open: the rebased cold law
    have hZT : Z.Warmed39 T.vm := State.Warmed39.trans (t := C.s.setVm vm0) h3 X.warmed.wide
    have JT : JJ Z n0 T.vm h Ds := JJ.warm (t := C.s.setVm vm0) h4 h3 X.warmed
    have hownT : T.vm.findClass own = some C.m.cls := by rw [X.warmed.alike.findClass]; exact hownB
    have wT : (Jvm.Cond.stringLink own idx text).before C.args T = true := mvS (s := T) (vm0 := T.vm) hZT w
    have hheld : ConstHeldL T own idx := fun c k cf i units a q1 q2 q3 q4 q5 q6 => (JT.2.2.2.2 own idx hm c k cf i units a q1 q2 q3 q4 q5 q6).slOf hZT.alike h5
    obtain ⟨a, T₂, X2, hS2, ⟨kk, hkk, hrr⟩, hkeep, hgr, hW2, hint1, hint, ⟨us, htu, hin⟩, st⟩ := ldcNow X h7.1 hownT wT (own_atoms hZT wS) hheld (fun units hu => Jvm.ClassFile.lat_of_text hu hlat) (g := mkF C.m pc Ls S) rfl (hb h7.2.1 hd) hn hbig hc hl
    have E : Ext h T₂.heap := by rw [← h5]; exact ext_of hkeep
    have sameU : ∀ u v : Array UInt16, utf16ToString? u = some text → utf16ToString? v = some text → u = v := fun u v hu hv => by
      apply Array.toList_inj.mp
      rw [Jvm.ClassFile.units_of_text hu hlat, Jvm.ClassFile.units_of_text hv hlat]
    -- the entry, as T and as T₂ have it
    obtain ⟨kT, cfT, iT, unT, hkT, hcfT, hpT, huT, hnmT, htT, hresT⟩ := Cond.stringLink_spec hownT wT
    obtain ⟨k2, hk2, hke2, -, ee2, -⟩ := hW2.2.2.2 _ kT hkT
    cases hk2.symm.trans hkk
    have hcl : CL = [] → Z.WarmedH T₂.vm := fun e => by rw [e] at hm; exact absurd hm (List.not_mem_nil)
    have hintJ : T₂.vm.interned = T.vm.interned ∨ ∃ (u : Array UInt16) (a' : Addr), T₂.vm.interned = T.vm.interned.push (u, a') ∧ (T.vm.interned.find? (fun p => p.1 == u) = none → Sx Z T₂.heap Ds a' u) := by
      rcases hint with e | ⟨u, a', hu', e⟩
      · exact Or.inl e
      · refine Or.inr ⟨u, a', e, fun hnone => ?_⟩
        have ha' : T.heap.size ≤ a' := by
          rcases hint1.2 with q | ⟨u2, a2, q, r1, -⟩
          · rw [q] at e
            have := congrArg Array.size e
            simp at this
          · have := q.symm.trans e
            have := Array.push_inj_right.mp this
            cases this
            exact r1
        -- a is a'
        have hopT : kT.resolved[idx]? = some none := open_stays X.warmed hkB hkT hcf hnm hopen
        have eu : u = unT := sameU _ _ hu' htT
        have eus : us = u := sameU _ _ htu hu'
        have haa : a = a' := by
          rcases ee2 idx with e0 | ⟨-, r, e1, hr | ⟨a3, t3, si, us3, rfl, -, z3, z4, z5⟩⟩
          · have := (e0.trans hopT).symm.trans hrr
            simp at this
          · exfalso
            cases r <;> simp [State.rightAt, hkT, hcfT, hnmT] at hr
          · rw [hcfT] at z3 z4
            have e3 : si = iT := by
              have := z3.symm.trans hpT
              simpa using this
            subst e3
            have e4 : us3 = unT := by simpa [ConstantPool.utf8?, huT] using z4.symm
            subst e4
            have ea : a3 = a := by have := e1.symm.trans hrr; simpa using this
            subst ea
            rw [e, Array.find?_push, ← eu, hnone, Option.none_or] at z5
            simp at z5
            exact z5.symm
        subst haa
        rw [← eus]
        exact Sx.of_in hin (State.Warmed39.trans hZT hW2).alike.symm (Nat.le_refl _) ha' (fun x hx => by rw [h5]; exact (h4.2.2.1 x hx).2)
    have J2 : JJ Z n0 T₂.vm T₂.heap Ds := (JT.ext E).step hZT hW2 hintJ hcl
    have hcf2 : kk.cf = some cfT := by rw [hke2]; exact hcfT
    have hown2 : T₂.vm.findClass own = some C.m.cls := by rw [hW2.alike.findClass]; exact hownT
    have SX := J2.2.2.2.2 own idx hm _ kk cfT iT unT a hown2 hkk hcf2 hpT huT (Or.inl hrr)
    obtain ⟨hstr, hnin⟩ := SX.str htT hlat hcs hlen
    exact ⟨T₂.heap, a, E, hstr, hnin, T₂, locs, T₂.vm, T₂.heap.size, X2, h1.trans hS2 (Nat.le_trans h2 E.1), Nat.le_refl _, State.Warmed39.trans hZT hW2, J2, rfl, h6, ⟨h7.1, h7.2.1, h7.2.2.1, hown2, h7.2.2.2.2⟩, fun t ht => k _ (st _ ht)⟩
  · -- resolved already
    have SX := h4.2.2.2.2 own idx hm _ kB cf i units a hownB hkB hcf hpB hu (Or.inl hra)
    obtain ⟨hstr, hnin⟩ := SX.str htext hlat hcs hlen
    have L : Lit (C.s.setVm vm0) own idx a := by
      have hkB' : vm0.classes[C.m.cls]? = some kB := hkB
      have hown' : vm0.findClass own = some C.m.cls := hownB
      simp [Lit, State.resolvedAt?, State.setVm, hown', hkB', hra]
    have st := ldcAgain X h7.1 h3 h7.2.2.2.1 w L (g := mkF C.m pc Ls S) rfl (hb h7.2.1 hd)
    exact ⟨h, a, ⟨Nat.le_refl _, fun _ _ q => q⟩, hstr, hnin, T, locs, vm0, k0, X.mono (by omega) (by omega), h1, h2, h3, h4, h5, h6, h7, fun t ht => k _ (st _ ht)⟩
theorem own_sx0 {s : State} {a : Addr} {units : Array UInt16} (F : SlOf s a units) : Sx s s.heap [] a units := by
  obtain ⟨q, cS, h1, h2, h3, h4, h5⟩ := F
  exact ⟨q, cS, h1, h2, h3, h4, h5, by simp, by simp⟩
theorem ch0 : ∀ c ∈ ([] : List Int32), ¬ c < 0 ∧ ¬ (255 : Int32) < c := fun c hc => nomatch hc
theorem chS {x : Int32} {cs : List Int32} (p : ¬ x < 0 ∧ ¬ (255 : Int32) < x) (q : ∀ c ∈ cs, ¬ c < 0 ∧ ¬ (255 : Int32) < c) : ∀ c ∈ x :: cs, ¬ c < 0 ∧ ¬ (255 : Int32) < c := fun c hc => by
  rcases List.mem_cons.mp hc with e | e
  · rw [e]; exact p
  · exact q c e
def bi (b : Bool) : Int32 := if b then 1 else 0
theorem bi_nar (b : Bool) : nar .boolean (bi b) = bi b := by cases b <;> rfl
theorem memS {n : Addr} {Ns Ds : List Addr} (h : n ∈ Ds) (f : ∀ x ∈ Ns, x ∈ Ds) : ∀ x ∈ n :: Ns, x ∈ Ds := fun x hx => by
  rcases List.mem_cons.mp hx with e | e
  · rw [e]; exact h
  · exact f x e
theorem own_toInt {x : Int32} (h : ¬ x < 0 ∧ ¬ (255 : Int32) < x) : 0 ≤ x.toInt ∧ x.toInt ≤ 255 := by
  obtain ⟨h1, h2⟩ := h
  rw [Int32.lt_iff_toInt_lt] at h1 h2
  have e0 : (0 : Int32).toInt = 0 := rfl
  have e1 : (255 : Int32).toInt = 255 := rfl
  omega
theorem ofFin {x : Int32} (h : ¬ x < 0 ∧ ¬ (255 : Int32) < x) : ∃ k : Fin 256, x = Int32.ofNat k.val := by
  have b := own_toInt h
  refine ⟨⟨x.toInt.toNat, by omega⟩, ?_⟩
  apply Int32.toInt_inj.mp
  rw [Int32.toInt_ofNat_of_lt (by show x.toInt.toNat < _; omega)]
  show x.toInt = (x.toInt.toNat : Int)
  omega
theorem nar_of {x : Int32} (h : ¬ x < 0 ∧ ¬ (255 : Int32) < x) : nar .char x = x := by
  obtain ⟨k, rfl⟩ := ofFin h
  revert k; decide +kernel
theorem own_nr {ty : FieldType} {v : Value} (ht : ty.isReference = true) (hv : v.isRef = true) : narrow ty v = v := by
  rcases ref_cases hv with rfl | ⟨_, rfl⟩ <;> cases ty <;> first | rfl | cases ht
theorem own_fr {ty : FieldType} {v : Value} (ht : ty.isReference = true) (hv : v.isRef = true) : fits ty v = true := by
  rcases ref_cases hv with rfl | ⟨_, rfl⟩ <;> cases ty <;> first | rfl | cases ht
theorem own_nsroot {Z : State} {a0 : Array Value} {O K : String} {n : Nat} (w : (Jvm.Cond.noSuperclass O).before a0 Z = true) (wi : (Jvm.Cond.instantiable K n).before a0 Z = true) (hn : O ≠ K) : NS Z O K := by
  obtain ⟨c, k, h1, h2, h3, -, -⟩ := Cond.noSuperclass_spec w
  obtain ⟨t, kt, g1, -⟩ := Cond.instantiable_spec wi
  have ne := ids_ne h1 g1 hn
  refine ⟨c, t, h1, g1, fun fuel => ?_⟩
  cases fuel with
  | zero => rfl
  | succ f => simp [Vm.isSubclassAux, ne, h2, h3]
theorem own_nsno {Z : State} {a0 : Array Value} {Cc S K : String} {m : Nat} (w : (Jvm.Cond.superclass Cc S).before a0 Z = true) (wi : (Jvm.Cond.instantiable K m).before a0 Z = true) (n : NS Z Cc K) (hn : Cc ≠ K) : ∃ c t, Z.vm.findClass Cc = some c ∧ Z.vm.findClass K = some t ∧ Z.vm.assignable c t = false := by
  obtain ⟨c, t, h0, g0, n3⟩ := n
  obtain ⟨p, k, kp, h1, h2, h3, h4, h5, -, h7⟩ := Cond.superclass_spec h0 w
  obtain ⟨t', k', g1, g2, g5, g7, -⟩ := Cond.instantiable_spec wi
  cases g0.symm.trans g1
  have g8 : k'.isInterface = false := by simp only [Bool.or_eq_false_iff] at g7; exact g7.1
  have ne := ids_ne h0 g0 hn
  refine ⟨c, t, h0, g0, ?_⟩
  show Z.vm.assignableAux (255 + 1) c t = false
  simp [Vm.assignableAux, ne, h2, g2, h5, g5, g8, Vm.isSubclass, n3]
/-! clones of arrays; more steps -/
theorem arv_of_arh {Z : State} {h : Heap} {a : Addr} {k : ClassId} {ty : FieldType} {z : Int32} {vs : List Value} {dv : Value} (F : Arh Z h a k ty z [] vs dv) : Arv Z h a k ty z vs dv := F
theorem Rc.clone {pc' idx W cap : Nat} {ad : String} {a : Addr} {kA : ClassId} {ty : FieldType} {z : Int32} {vs : List Value} {dv : Value} (H : Rc C R own bs ml Z n0 ce sl pc Ls (.ref a :: rest) h Ds)
    (w1 : (Jvm.Cond.methodLink own idx ⟨ad, "clone", "()Ljava/lang/Object;"⟩).before a0 Z = true) (w2 : (Jvm.Cond.sameMethod ad "java/lang/Object" "clone" "()Ljava/lang/Object;").before a0 Z = true) (w3 : (Jvm.Cond.native ⟨"java/lang/Object", "clone", "()Ljava/lang/Object;"⟩).before a0 Z = true)
    (w4 : (Jvm.Cond.instanceMethod ⟨"java/lang/Object", "clone", "()Ljava/lang/Object;"⟩).before a0 Z = true) (w5 : (Jvm.Cond.selects ad ⟨ad, "clone", "()Ljava/lang/Object;"⟩ ⟨"java/lang/Object", "clone", "()Ljava/lang/Object;"⟩).before a0 Z = true) (w6 : (Jvm.Cond.castable ad "java/lang/Cloneable").before a0 Z = true)
    (V : Arv Z h a kA ty z vs dv) (E : Exa Z h a ad) (hsz : Ls.size = ml) (hd : decode bs pc = .ok (.invokevirtual idx, 3)) (hf : 1 ≤ R.frames) (hW : (rest.map fun v => v.category).sum = W) (hl : W + 14 ≤ R.locals) (hcap : z.toNatClampNeg ≤ cap) (hc : ce + 1 ≤ R.cells) (hsl : sl + cap ≤ R.slots) (hp : pc + 3 = pc') :
    ∃ (h' : Heap) (b : Addr), b = h.size ∧ Ext h h' ∧ Arv Z h' b kA ty z vs dv ∧ Exa Z h' b ad ∧ Rc C R own bs ml Z n0 (ce + 1) (sl + cap) pc' Ls (.ref b :: rest) h' (b :: Ds) := by
  subst hp
  obtain ⟨T, locs, vm0, k0, X, h1, h2, h3, h4, h5, h6, h7, k⟩ := H
  obtain ⟨T', h', X', e', E', A', F', st⟩ := RoadKit.cloneH X h7.1 (Z := Z) h3 h7.2.2.2.1 w1 w2 w3 w4 w5 w6 h5 V.arh E (g := mkF C.m pc Ls (.ref a :: rest)) rfl (hsz.trans h7.2.2.1.symm) rfl (hb h7.2.1 hd) hf (W := W) (by show 2 * 0 + _ ≤ _; omega) hl hcap hc hsl
  exact ⟨h', h.size, rfl, E', arv_of_arh A', F', T', _, vm0, k0, X', h1, Nat.le_trans h2 E'.1, h3, h4.born E' F'.lt, e', h6, h7, fun t ht => k _ (st _ ht)⟩
theorem Rc.ldc2L {pc' idx : Nat} {v : Int64} (H : Rc C R own bs ml Z n0 ce sl pc Ls S h Ds) (w : (Jvm.Cond.constantLong own idx v).before a0 Z = true) (hd : decode bs pc = .ok (.ldc2_w idx, 3)) (hp : pc + 3 = pc') : Rc C R own bs ml Z n0 ce sl pc' Ls (.long v :: S) h Ds := by
  subst hp
  exact H.goX fun s T locs t X hZ hown eT hx hby kk => X.ldc2Long hx hown (mvT hZ w) (g := mkF C.m pc Ls S) rfl (hb hby hd) _ kk
theorem Rc.ldcI {pc' idx : Nat} {v : Int32} (H : Rc C R own bs ml Z n0 ce sl pc Ls S h Ds) (w : (Jvm.Cond.constant own idx v).before a0 Z = true) (hd : decode bs pc = .ok (.ldc idx, 2)) (hp : pc + 2 = pc') : Rc C R own bs ml Z n0 ce sl pc' Ls (.int v :: S) h Ds := by
  subst hp
  exact H.goX fun s T locs t X hZ hown eT hx hby kk => X.ldcInt hx hown (mvT hZ w) (g := mkF C.m pc Ls S) rfl (hb hby hd) _ kk
/-! the case's words, read -/
section GivenWords
variable {s : State} {args : Array Value} {t u : Term} {a b : Addr} {cl : Cell} {ty : FieldType} {i k : Int32} {v : Value} {Cc n d : String}
theorem g_int (h : (Jvm.Cond.eq t (.int k)).value args s none s [] = some true) : t.eval args s none [] s = some (.int k) := Cond.eq_int (Cond.before_iff.mpr h) rfl
theorem g_ref (h : (Jvm.Cond.eq t u).value args s none s [] = some true) (hu : u.eval args s none [] s = some (.ref b)) : t.eval args s none [] s = some (.ref b) := by
  obtain ⟨x, y, h1, h2, h3, h4⟩ := cmp_v (Or.inl h)
  rw [hu] at h2
  cases h2
  have hx : x.isRef = true := by
    cases x <;> simp_all [Kin, Value.isRef]
  have q := gotT (eq_R h1 hu hx rfl) h
  rw [h1, q]
theorem g_fld (ht : t.eval args s none [] s = some (.ref a)) (e : (Term.field t Cc n d).eval args s none [] s = some v) : Fld s s.heap a Cc n d v := Fld.start (by rw [← fld_at (args := args) (first := s) (o := none) (idx := []) (C := Cc) (n := n) (dd := d) ht]; exact e)
theorem g_elem (e : (Term.elem t (.int i)).eval args s none [] s = some v) (ht : t.eval args s none [] s = some (.ref a)) (A : Arr s s.heap a cl ty) : cl.slots[i.toNatClampNeg]? = some v := (elem_in e ht rfl A.1).2
theorem g_len (e : (Term.length t).eval args s none [] s = some (.int k)) (ht : t.eval args s none [] s = some (.ref a)) (A : Arr s s.heap a cl ty) : cl.slots.size < 2 ^ 31 ∧ cl.slots.size.toInt32 = k := by
  have ha : s.arrayAt? a = some cl := A.fin (own_al s)
  have hl : cl.slots.size < 2 ^ 31 := SBG.length_lt ht ha e
  have q := len_f ht ha hl
  rw [q] at e
  exact ⟨hl, by simpa using e⟩
theorem g_str {cs : List Int32} {kb : ClassId} {b' : Addr} (X : Exa s s.heap a "java/lang/String") (Fc : Fld s s.heap a "java/lang/String" "coder" "B" (.int 0)) (Fv : Fld s s.heap a "java/lang/String" "value" "[B" (.ref b')) (V : Arv s s.heap b' kb .byte (Int32.ofNat cs.length) (bytesOfCs cs) (.int 0)) (h1 : ∀ c ∈ cs, ¬ c < 0 ∧ ¬ (255 : Int32) < c) (h2 : cs.length ≤ 4000) : IsStr s s.heap a cs := ⟨X, Fc, h1, h2, b', kb, Fv, V⟩
end GivenWords
/-! iaload; a call of a private instance method -/
theorem Rc.iaload {pc' : Nat} {a : Addr} {j z : Int32} {v : Value} {kA : ClassId} {vs : List Value} {dv : Value} (H : Rc C R own bs ml Z n0 ce sl pc Ls (.int j :: .ref a :: rest) h Ds) (V : Arv Z h a kA .int z vs dv) (hj : ¬ j < 0 ∧ j < z) (hv : vs.getD j.toNatClampNeg dv = v) (hd : decode bs pc = .ok (.iaload, 1)) (hp : pc + 1 = pc') : Rc C R own bs ml Z n0 ce sl pc' Ls (v :: rest) h Ds := by
  subst hp
  obtain ⟨cl, Ar, q1, q2, q3, q4, q5⟩ := V
  exact H.goX fun s T locs t X hZ hown eT hx hby kk => X.iaload hx (j := j) (v := v) (by rw [eT]; exact Ar.1) (State.isArrayOf_alike hZ.alike Ar.2.1) Ar.2.2 (inb_of q2 hj) (q4.at (inb_of q2 hj) hv) (g := mkF C.m pc Ls (.int j :: .ref a :: rest)) rfl rfl (hb hby hd) _ kk
theorem Rc.callP {pc' : Nat} {y : MethodName} {idx ml' W : Nat} {by' : ByteArray} {ret' : Option FieldType} {rm : Room} {a : Addr} {argsL : List Value} {Q : Option Value → Heap → List Addr → Prop} (H : Rc C R own bs ml Z n0 ce sl pc Ls S h Ds)
    (hlink : (Jvm.Cond.methodLink own idx y).before a0 Z = true) (hpriv : (Jvm.Cond.privateMethod y).before a0 Z = true) (hsel : (Jvm.Cond.selects y.cls y y).before a0 Z = true) (hinst : (Jvm.Cond.instanceMethod y).before a0 Z = true) (hinit : (Jvm.Cond.initialized y.cls).before a0 Z = true) (hcode : (Jvm.Cond.code y by' ml' ret').before a0 Z = true) (hy : NoMH y)
    (E : Exa Z h a y.cls) (K : Ctr C.l Z y by' ml' ret' [] rm (.ref a :: argsL).toArray h n0 Ds Q) (hsz : Ls.size = ml) (hlen : ∀ sig, parseMethodDescriptor y.desc = some sig → argsL.length = sig.parameters.length) (hst : S = argsL.reverse ++ .ref a :: rest) (hW : (rest.map fun v => v.category).sum = W)
    (hd : decode bs pc = .ok (.invokevirtual idx, 3)) (hfr : rm.frames + 1 ≤ R.frames) (hlo : W + (ml' + 11) + rm.locals ≤ R.locals) (hce : ce + rm.cells ≤ R.cells) (hsl : sl + rm.slots ≤ R.slots) (hp : pc + 3 = pc') :
    ∃ (v : Option Value) (h' : Heap) (Ds' : List Addr), Q v h' Ds' ∧ Rc C R own bs ml Z n0 (ce + rm.cells) (sl + rm.slots) pc' Ls (v.toList ++ rest) h' Ds' := by
  subst hp hst
  obtain ⟨T, locs, vm0, k0, X, h1, h2, h3, h4, h5, h6, h7, k⟩ := H
  obtain ⟨cq, kq, qa, qb, ⟨cellB, hcellT, hclsB, hstatB⟩⟩ := isOf (s := C.s.setVm vm0) h3 h5 E
  obtain ⟨v, vm₁, B, hw1, X', hS', hgr, hq, st⟩ := X.privateBackS h7.1 (y := y) h7.2.2.2.1 (mvT (s := C.s.setVm vm0) h3 hlink) (mvT (s := C.s.setVm vm0) h3 hinst) (mvT (s := C.s.setVm vm0) h3 hsel) (Cond.privateMethod_at (args := C.args) (mvT (s := C.s.setVm vm0) h3 hpriv)) (mvT (s := C.s.setVm vm0) h3 hcode) hy (ctrBack (s := C.s.setVm vm0) (W := W) K h3 h4 hcode hinit hfr hlo) (g := mkF C.m pc Ls (argsL.reverse ++ .ref a :: rest)) rfl (hsz.trans h7.2.2.1.symm) (Steps.refl _) hcellT (fun z h => by rw [h] at hstatB; cases hstatB) hlen rfl (by show 2 * 0 + _ ≤ _; omega) (hb h7.2.1 hd) (fun vm₁ hw => ⟨rfl, h5, hce, hsl⟩)
  exact own_fin h1 h2 h3 h5 h6 h7 k X' hS' hgr hq st
/-! the String laws of the paste, in the forward form -/
abbrev CompactOn (Z : State) : Prop := ∃ z : Int32, Sta Z Z.heap "java/lang/String" "COMPACT_STRINGS" "Z" (.int z) ∧ ¬ z = 0
abbrev SiooOk (Z : State) : Prop := ∃ fm : Value, Sta Z Z.heap "jdk/internal/util/Preconditions" "SIOOBE_FORMATTER" "Ljava/util/function/BiFunction;" fm ∧ fm.isRef = true
theorem own_up {cs : List Int32} (h : ∀ c ∈ cs, ¬ c < 0 ∧ ¬ (255 : Int32) < c) : ∀ c ∈ cs, ¬ c < 0 ∧ ¬ (65535 : Int32) < c := fun c hc => ⟨(h c hc).1, fun q => (h c hc).2 (by rw [Int32.lt_iff_toInt_lt] at q ⊢; have e1 : (65535 : Int32).toInt = 65535 := rfl; have e2 : (255 : Int32).toInt = 255 := rfl; omega)⟩
theorem Rc.newStr {pc' idx W : Nat} {x b : Addr} {kC : ClassId} {cs : List Int32} {d v0 c0 : Value} {N : Int32} (H : Rc C R own bs ml Z n0 ce sl pc Ls (.ref b :: .ref x :: rest) h Ds) (hws : ∀ d ∈ StrChars.Road.words, d.before a0 Z = true) (wi : (Jvm.Cond.instantiable "java/lang/String" 4).before a0 Z = true)
    (hlink : (Jvm.Cond.methodLink own idx ⟨"java/lang/String", "<init>", "([C)V"⟩).before a0 Z = true) (hinst : (Jvm.Cond.instanceMethod ⟨"java/lang/String", "<init>", "([C)V"⟩).before a0 Z = true) (CS : CompactOn Z)
    (E : Exa Z h x "java/lang/String") (V : Fld Z h x "java/lang/String" "value" "[B" v0) (Cd : Fld Z h x "java/lang/String" "coder" "B" c0) (K : Arv Z h b kC .char N (cs.map Value.int) d) (hN : N = Int32.ofNat cs.length) (l0 : 0 < cs.length) (l2 : cs.length ≤ 4000) (hp : ∀ c ∈ cs, ¬ c < 0 ∧ ¬ (255 : Int32) < c) (hx : x ∈ Ds)
    (hsz : Ls.size = ml) (hW : (rest.map fun v => v.category).sum = W) (hd : decode bs pc = .ok (.invokespecial idx, 3)) (hfr : 4 ≤ R.frames) (hlo : W + 65 ≤ R.locals) (hce : ce + 1 ≤ R.cells) (hsl : sl + cs.length ≤ R.slots) (hpc : pc + 3 = pc') :
    ∃ h', Keep h h' [x] ∧ IsStr Z h' x cs ∧ Rc C R own bs ml Z n0 (ce + 1) (sl + cs.length) pc' Ls rest h' Ds := by
  obtain ⟨z, hS, hz⟩ := CS
  obtain ⟨v, h', L, ⟨q1, q2, q3, q4, q5, t, kb, -, -, -, q6, q7⟩, R'⟩ := H.backI (y := ⟨"java/lang/String", "<init>", "([C)V"⟩) (kc := 1) (ks := cs.length) (argsL := [.ref b]) (Qb := fun v h' L => StrChars.Road.QV Z x N (cs.map (fun c => c.toInt8.toInt32)) h n0 v h' L) rfl hlink hinst (hws _ (List.mem_of_getElem? (i := 0) rfl)) (by decide)
    (fun s' hZ' => StrChars.Road.backV (W := W) hZ' hws wi (cs := cs) (bs := cs.map (fun c => c.toInt8.toInt32)) (n := cs.length) (H.mem hx).1 (own_n0 H.old) E V Cd K (hS.ext H.old.2) hz rfl hN l0 l2 hp rfl hfr hlo)
    (fun v h' L q => ⟨q.2.1, [x], q.2.2.1, own_ws1 hx⟩) hsz (lenOf (ps := [.array .char]) (r := none) (by decide +kernel) rfl) rfl hW hd hce hsl hpc
  subst q1
  exact ⟨h', q3, ⟨q4, q5, hp, l2, t, kb, q6, by rw [← hN]; exact q7⟩, R'⟩
theorem n4_8 : decode StrChars.New4.yB 8 = .ok (.aload_n 0, 1) := by decide +kernel
theorem n4_9 : decode StrChars.New4.yB 9 = .ok (.ldc 7, 2) := by decide +kernel
theorem n4_11 : decode StrChars.New4.yB 11 = .ok (.getfield 9, 3) := by decide +kernel
theorem n4_14 : decode StrChars.New4.yB 14 = .ok (.putfield 9, 3) := by decide +kernel
theorem n4_17 : decode StrChars.New4.yB 17 = .ok (.aload_n 0, 1) := by decide +kernel
theorem n4_18 : decode StrChars.New4.yB 18 = .ok (.ldc 7, 2) := by decide +kernel
theorem n4_20 : decode StrChars.New4.yB 20 = .ok (.getfield 15, 3) := by decide +kernel
theorem n4_23 : decode StrChars.New4.yB 23 = .ok (.putfield 15, 3) := by decide +kernel
theorem n4_26 : decode StrChars.New4.yB 26 = .ok (.return_, 1) := by decide +kernel
theorem Rc.str_len {pc' idx W : Nat} {x : Addr} {cs : List Int32} (H : Rc C R own bs ml Z n0 ce sl pc Ls (.ref x :: rest) h Ds) (hws : ∀ d ∈ StrChars.Road.wordsLen, d.before a0 Z = true) (wi : (Jvm.Cond.instantiable "java/lang/String" 4).before a0 Z = true)
    (hlink : (Jvm.Cond.methodLink own idx ⟨"java/lang/String", "length", "()I"⟩).before a0 Z = true) (hdecl : (Jvm.Cond.declares ⟨"java/lang/String", "length", "()I"⟩).before a0 Z = true) (hsel : (Jvm.Cond.selects "java/lang/String" ⟨"java/lang/String", "length", "()I"⟩ ⟨"java/lang/String", "length", "()I"⟩).before a0 Z = true) (hinst : (Jvm.Cond.instanceMethod ⟨"java/lang/String", "length", "()I"⟩).before a0 Z = true) (CS : CompactOn Z) (F : IsStr Z h x cs)
    (hsz : Ls.size = ml) (hW : (rest.map fun v => v.category).sum = W) (hd : decode bs pc = .ok (.invokevirtual idx, 3)) (hfr : 2 ≤ R.frames) (hlo : W + 25 ≤ R.locals) (hce : ce + 0 ≤ R.cells) (hsl : sl + 0 ≤ R.slots) (hpc : pc + 3 = pc') :
    Rc C R own bs ml Z n0 ce sl pc' Ls ((.int (Int32.ofNat cs.length)) :: rest) h Ds := by
  obtain ⟨z, hS, hz⟩ := CS
  obtain ⟨f1, f2, f3, f4, t, kb, f5, f6⟩ := F
  obtain ⟨v, h', L, ⟨q1, q2, q3⟩, R'⟩ := H.backV (y := ⟨"java/lang/String", "length", "()I"⟩) (z := ⟨"java/lang/String", "length", "()I"⟩) (kc := 0) (ks := 0) (argsL := []) (Qb := fun v h' L => v = some (.int (Int32.ofNat cs.length)) ∧ L = [] ∧ h' = h) hlink hdecl (fun s' hZ' => notFace_of_selects (args := #[]) (mvT hZ' hsel)) hsel hinst (by decide) f1
    (fun s' hZ' => StrChars.Road.lenW (W := W) hZ' hws wi f1 f5 f2 f6 (StrChars.Road.codOf rfl (fun c hc => (f3 c hc).2)) (own_up f3) (hS.ext H.old.2) hz f4 hfr hlo)
    (fun v h' L q => by obtain ⟨-, rfl, rfl⟩ := q; exact ⟨Fr.nil n0, [], Keep.refl _ _, fun x hx => nomatch hx⟩) hsz (lenOf (ps := []) (r := some .int) (by decide +kernel) rfl) rfl hW hd hce hsl hpc
  subst q3
  subst q1
  exact R'

end OwnKit
theorem own_and255 (x : Int32) : ∃ k : Fin 256, x &&& 255 = Int32.ofNat k.val := by
  have h : (x &&& 255).toBitVec.toNat < 256 := by
    simp only [Int32.toBitVec_and, BitVec.toNat_and]
    exact Nat.lt_succ_of_le Nat.and_le_right
  refine ⟨⟨_, h⟩, ?_⟩
  apply Int32.toBitVec_inj.mp
  show _ = BitVec.ofNat 32 _
  rw [BitVec.ofNat_toNat]; simp
theorem own_and7 (x : Int32) : ∃ k : Fin 8, x &&& 7 = Int32.ofNat k.val := by
  have h : (x &&& 7).toBitVec.toNat < 8 := by
    simp only [Int32.toBitVec_and, BitVec.toNat_and]
    exact Nat.lt_succ_of_le Nat.and_le_right
  refine ⟨⟨_, h⟩, ?_⟩
  apply Int32.toBitVec_inj.mp
  show _ = BitVec.ofNat 32 _
  rw [BitVec.ofNat_toNat]; simp
theorem own_and3 (x : Int32) : ∃ k : Fin 4, x &&& 3 = Int32.ofNat k.val := by
  have h : (x &&& 3).toBitVec.toNat < 4 := by
    simp only [Int32.toBitVec_and, BitVec.toNat_and]
    exact Nat.lt_succ_of_le Nat.and_le_right
  refine ⟨⟨_, h⟩, ?_⟩
  apply Int32.toBitVec_inj.mp
  show _ = BitVec.ofNat 32 _
  rw [BitVec.ofNat_toNat]; simp
theorem own_and1 (x : Int32) : ∃ k : Fin 2, x &&& 1 = Int32.ofNat k.val := by
  have h : (x &&& 1).toBitVec.toNat < 2 := by
    simp only [Int32.toBitVec_and, BitVec.toNat_and]
    exact Nat.lt_succ_of_le Nat.and_le_right
  refine ⟨⟨_, h⟩, ?_⟩
  apply Int32.toBitVec_inj.mp
  show _ = BitVec.ofNat 32 _
  rw [BitVec.ofNat_toNat]; simp
theorem own_lt {i j : Nat} (hj : j ≤ 4000) (h : i < j) : Int32.ofNat i < Int32.ofNat j := by
  rw [Int32.lt_iff_toInt_lt, Int32.toInt_ofNat_of_lt (by omega), Int32.toInt_ofNat_of_lt (by omega)]; omega
theorem own_nlt {i j : Nat} (hi : i ≤ 4000) (h : j ≤ i) : ¬ Int32.ofNat i < Int32.ofNat j := by
  rw [Int32.lt_iff_toInt_lt, Int32.toInt_ofNat_of_lt (by omega), Int32.toInt_ofNat_of_lt (by omega)]; omega
theorem i32_succ (i : Nat) : Int32.ofNat i + 1 = Int32.ofNat (i + 1) := by
  apply Int32.toBitVec_inj.mp
  show BitVec.ofNat 32 i + 1#32 = BitVec.ofNat 32 (i + 1)
  rw [BitVec.ofNat_add]
theorem nar_i2c (x : Int32) : nar .char x.toUInt32.toUInt16.toUInt32.toInt32 = x.toUInt32.toUInt16.toUInt32.toInt32 := by
  generalize x.toUInt32.toUInt16 = y
  simp [nar]
theorem c255 (x : Int32) : ¬ (x &&& (255 : Int32)).toUInt32.toUInt16.toUInt32.toInt32 < 0 ∧ ¬ (255 : Int32) < (x &&& (255 : Int32)).toUInt32.toUInt16.toUInt32.toInt32 := by
  obtain ⟨k, hk⟩ := own_and255 x
  rw [hk]
  clear hk; revert k; decide +kernel
theorem own_ltI {k n : Nat} (hk : k ≤ 4000) (hn : n ≤ 4000) (h : Int32.ofNat k < Int32.ofNat n) : k < n := by
  apply Classical.byContradiction; intro q
  exact own_nlt hk (by omega) h
theorem own_getD {cs : List Int32} {k : Nat} (h : k < cs.length) (p : ∀ c ∈ cs, ¬ c < 0 ∧ ¬ (255 : Int32) < c) : ¬ cs.getD k 0 < 0 ∧ ¬ (255 : Int32) < cs.getD k 0 := by
  rw [List.getD_eq_getElem?_getD, List.getElem?_eq_getElem h]
  exact p _ (List.getElem_mem h)
theorem own_l255 (x : Int64) : ∃ k : Fin 256, x &&& 255 = Int64.ofNat k.val := by
  have h : (x &&& 255).toBitVec.toNat < 256 := by
    simp only [Int64.toBitVec_and, BitVec.toNat_and]
    exact Nat.lt_succ_of_le Nat.and_le_right
  refine ⟨⟨_, h⟩, ?_⟩
  apply Int64.toBitVec_inj.mp
  show _ = BitVec.ofNat 64 _
  rw [BitVec.ofNat_toNat]; simp
theorem cl255 (x : Int64) : ¬ (x &&& (255 : Int64)).toInt32.toUInt32.toUInt16.toUInt32.toInt32 < 0 ∧ ¬ (255 : Int32) < (x &&& (255 : Int64)).toInt32.toUInt32.toUInt16.toUInt32.toInt32 := by
  obtain ⟨k, hk⟩ := own_l255 x
  rw [hk]
  clear hk; revert k; decide +kernel
def tabI : List Int32 := [1207963663, 1207963663, 1207963663, 1207963663, 1207963663, 1207963663, 1207963663, 1207963663, 1207963663, 1476411407, 1342193679, 1476411407, 1610629135, 1342193679, 1207963663, 1207963663, 1207963663, 1207963663, 1207963663, 1207963663, 1207963663, 1207963663, 1207963663, 1207963663, 1207963663, 1207963663, 1207963663, 1207963663, 1342193679, 1342193679, 1342193679, 1476411407, 1610629132, 1744830488, 1744830488, 671088664, 671113242, 671088664, 1744830488, 1744830488, -402653163, -402653162, 1744830488, 536870937, 939524120, 536870932, 939524120, 939524120, 402667017, 402667017, 402667017, 402667017, 402667017, 402667017, 402667017, 402667017, 402667017, 402667017, 939524120, 1744830488, -402653159, 1744830489, -402653159, 1744830488, 1744830488, 8552417, 8552417, 8552417, 8552417, 8552417, 8552417, 8552417, 8552417, 8552417, 8552417, 8552417, 8552417, 8552417, 8552417, 8552417, 8552417, 8552417, 8552417, 8552417, 8552417, 8552417, 8552417, 8552417, 8552417, 8552417, 8552417, -402653163, 1744830488, -402653162, 1744830491, 1744850967, 1744830491, 8486882, 8486882, 8486882, 8486882, 8486882, 8486882, 8486882, 8486882, 8486882, 8486882, 8486882, 8486882, 8486882, 8486882, 8486882, 8486882, 8486882, 8486882, 8486882, 8486882, 8486882, 8486882, 8486882, 8486882, 8486882, 8486882, -402653163, 1744830489, -402653162, 1744830489, 1207963663, 1207963663, 1207963663, 1207963663, 1207963663, 1207963663, 1342181391, 1207963663, 1207963663, 1207963663, 1207963663, 1207963663, 1207963663, 1207963663, 1207963663, 1207963663, 1207963663, 1207963663, 1207963663, 1207963663, 1207963663, 1207963663, 1207963663, 1207963663, 1207963663, 1207963663, 1207963663, 1207963663, 1207963663, 1207963663, 1207963663, 1207963663, 1207963663, 939524108, 1744830488, 671113242, 671113242, 671113242, 671113242, 1744830492, 1744830488, 1744830491, 1744830492, 28677, -402653155, 1744830489, 1207963664, 1744830492, 1744830491, 671088668, 671088665, 402654731, 402654731, 1744830491, 134049794, 1744830488, 1744830488, 1744830491, 402654475, 28677, -402653154, 1744832523, 1744832523, 1744832523, 1744830488, 8548353, 8548353, 8548353, 8548353, 8548353, 8548353, 8548353, 8548353, 8548353, 8548353, 8548353, 8548353, 8548353, 8548353, 8548353, 8548353, 8548353, 8548353, 8548353, 8548353, 8548353, 8548353, 8548353, 1744830489, 8548353, 8548353, 8548353, 8548353, 8548353, 8548353, 8548353, 134049794, 8482818, 8482818, 8482818, 8482818, 8482818, 8482818, 8482818, 8482818, 8482818, 8482818, 8482818, 8482818, 8482818, 8482818, 8482818, 8482818, 8482818, 8482818, 8482818, 8482818, 8482818, 8482818, 8482818, 1744830489, 8482818, 8482818, 8482818, 8482818, 8482818, 8482818, 8482818, 102592514]
def Om (m : Int32) : Prop := ¬ m < 33 ∧ ¬ (126 : Int32) < m
def Nb (cs : List Int32) : Prop := (∃ m, cs = [m] ∧ Om m) ∨ ∃ c0 m c2, cs = [c0, m, c2] ∧ Om m
def FS (Z : State) (h : Heap) (x : Value) : Prop := x = .null ∨ ∃ (r : Addr) (cs : List Int32), x = .ref r ∧ IsStr Z h r cs ∧ Nb cs
theorem FS.isRef {Z : State} {h : Heap} {x : Value} (F : FS Z h x) : x.isRef = true := by
  rcases F with rfl | ⟨r, cs, rfl, -, -⟩ <;> rfl
theorem FS.keep0 {Z : State} {h h' : Heap} {x : Value} (F : FS Z h x) (K : Keep h h' []) : FS Z h' x := by
  rcases F with rfl | ⟨r, cs, rfl, S, N⟩
  · exact Or.inl rfl
  · exact Or.inr ⟨r, cs, rfl, S.keep K (fun q => nomatch q) (fun w q => nomatch q), N⟩
theorem hmx {Z : State} {h : Heap} {x m : Value} {a : Addr} (F : FS Z h x) (p : m = .null ∨ m = .ref a) : x = .null ∨ ∃ b, x = .ref b ∧ (m = .null ∨ m = .ref a) := by
  rcases F with rfl | ⟨r, cs, rfl, -, -⟩
  · exact Or.inl rfl
  · exact Or.inr ⟨r, rfl, p⟩
theorem own_and32767 (x : Int32) : ∃ k : Nat, k < 32768 ∧ x &&& 32767 = Int32.ofNat k := by
  have h : (x &&& 32767).toBitVec.toNat < 32768 := by
    simp only [Int32.toBitVec_and, BitVec.toNat_and]
    exact Nat.lt_succ_of_le Nat.and_le_right
  refine ⟨_, h, ?_⟩
  apply Int32.toBitVec_inj.mp
  show _ = BitVec.ofNat 32 _
  rw [BitVec.ofNat_toNat]; simp
theorem own_mod {k n : Nat} (hk : k < 2147483648) (h0 : 0 < n) (hn : n < 4000) : Int32.ofNat k % Int32.ofNat n = Int32.ofNat (k % n) := by
  have hm : k % n < n := Nat.mod_lt _ h0
  apply Int32.toInt_inj.mp
  rw [Int32.toInt_mod, Int32.toInt_ofNat_of_lt (by omega), Int32.toInt_ofNat_of_lt (by omega), Int32.toInt_ofNat_of_lt (by omega)]
  exact (Int.ofNat_tmod k n).symm
theorem mid_ok (x : Int32) : Om ((33 : Int32) + (x &&& (32767 : Int32)) % (94 : Int32)).toUInt32.toUInt16.toUInt32.toInt32 := by
  obtain ⟨k, hk, e⟩ := own_and32767 x
  have e2 : (x &&& (32767 : Int32)) % (94 : Int32) = Int32.ofNat (k % 94) := by rw [e]; exact own_mod (n := 94) (by omega) (by decide) (by decide)
  rw [e2]
  have q : ∀ j : Fin 94, Om ((33 : Int32) + Int32.ofNat j.val).toUInt32.toUInt16.toUInt32.toInt32 := by unfold Om; decide +kernel
  exact q ⟨k % 94, Nat.mod_lt _ (by decide)⟩
theorem own_th (x : Int32) : ¬ ((1 : Int32) + (x &&& (2147483647 : Int32)) % (64 : Int32)) < 1 ∧ ¬ (64 : Int32) < ((1 : Int32) + (x &&& (2147483647 : Int32)) % (64 : Int32)) := by
  have hb : (x &&& (2147483647 : Int32)).toBitVec.toNat < 2147483648 := by
    simp only [Int32.toBitVec_and, BitVec.toNat_and]
    exact Nat.lt_succ_of_le Nat.and_le_right
  have e : x &&& (2147483647 : Int32) = Int32.ofNat (x &&& (2147483647 : Int32)).toBitVec.toNat := by
    apply Int32.toBitVec_inj.mp
    show _ = BitVec.ofNat 32 _
    rw [BitVec.ofNat_toNat]; simp
  rw [e]
  have e2 := own_mod (n := 64) hb (by decide) (by decide)
  have q : ∀ j : Fin 64, ¬ ((1 : Int32) + Int32.ofNat j.val) < 1 ∧ ¬ (64 : Int32) < ((1 : Int32) + Int32.ofNat j.val) := by decide +kernel
  have r := q ⟨(x &&& (2147483647 : Int32)).toBitVec.toNat % 64, Nat.mod_lt _ (by decide)⟩
  rw [← e2] at r
  exact r
theorem om_fin {m : Int32} (h : Om m) : ∃ j : Fin 94, m = (33 : Int32) + Int32.ofNat j.val := by
  have hb : ¬ m < 0 ∧ ¬ (255 : Int32) < m := by
    have h1 := h.1; have h2 := h.2
    rw [Int32.lt_iff_toInt_lt] at h1 h2 ⊢
    rw [Int32.lt_iff_toInt_lt]
    have e1 : (33 : Int32).toInt = 33 := rfl
    have e2 : (126 : Int32).toInt = 126 := rfl
    have e3 : (0 : Int32).toInt = 0 := rfl
    have e4 : (255 : Int32).toInt = 255 := rfl
    omega
  obtain ⟨k, rfl⟩ := ofFin hb
  have q : ∀ k : Fin 256, Om (Int32.ofNat k.val) → ∃ j : Fin 94, Int32.ofNat k.val = (33 : Int32) + Int32.ofNat j.val := by unfold Om; decide +kernel
  exact q k h
theorem om_b {m : Int32} (h : Om m) : ¬ m < 0 ∧ ¬ (255 : Int32) < m := by
  obtain ⟨j, rfl⟩ := om_fin h
  clear h; revert j; decide +kernel
theorem om_ne {m z : Int32} (h : Om m) (hz : z < 33) : ¬ m = z := fun q => h.1 (q ▸ hz)
def s_ws (p0 : Int32) : Int32 := if (tabI.getD p0.toNatClampNeg 0) &&& (28672 : Int32) = (16384 : Int32) then 1 else 0
theorem ws_m {m : Int32} (h : Om m) : s_ws m = 0 := by
  obtain ⟨j, rfl⟩ := om_fin h
  clear h; revert j; decide +kernel
theorem own_i2c {c : Int32} (h : ¬ c < 0 ∧ ¬ (255 : Int32) < c) : c.toUInt32.toUInt16.toUInt32.toInt32 = c := by
  obtain ⟨k, rfl⟩ := ofFin h
  clear h; revert k; decide +kernel
theorem own_b2c {c : Int32} (h : ¬ c < 0 ∧ ¬ (255 : Int32) < c) : (c.toInt8.toInt32 &&& (255 : Int32)).toUInt32.toUInt16.toUInt32.toInt32 = c := by
  obtain ⟨k, rfl⟩ := ofFin h
  clear h; revert k; decide +kernel
theorem own_255 {c : Int32} (h : ¬ c < 0 ∧ ¬ (255 : Int32) < c) : ¬ c < 0 ∧ c < 256 := by
  obtain ⟨k, rfl⟩ := ofFin h
  clear h; revert k; decide +kernel
theorem own_tab (l : List Int32) (i : Nat) : (l.map Value.int).getD i (.int 0) = .int (l.getD i 0) := by
  simp only [List.getD_eq_getElem?_getD, List.getElem?_map]
  cases l[i]? <;> rfl
theorem own_clamp {k : Nat} (h : k < 2147483648) : (Int32.ofNat k).toNatClampNeg = k := by
  show (Int32.ofNat k).toInt.toNat = k
  rw [Int32.toInt_ofNat_of_lt (by omega)]; omega
theorem own_j {k n : Nat} (hn : n ≤ 4000) (h : k < n) : ¬ Int32.ofNat k < 0 ∧ Int32.ofNat k < Int32.ofNat n := ⟨own_nlt (j := 0) (by omega) (Nat.zero_le _), own_lt hn h⟩
theorem own_bget {cs : List Int32} {k : Nat} (hl : cs.length ≤ 4000) (h : k < cs.length) : (bytesOfCs cs).getD (Int32.ofNat k).toNatClampNeg (.int 0) = .int (cs.getD k 0).toInt8.toInt32 := by
  rw [own_clamp (by omega)]
  simp only [bytesOfCs, List.getD_eq_getElem?_getD, List.getElem?_map, List.getElem?_eq_getElem h]
  rfl
theorem nar_i2b (x : Int32) : nar .byte x.toInt8.toInt32 = x.toInt8.toInt32 := by
  generalize x.toInt8 = y
  simp [nar]
theorem own_d30_0 : decode jdk_42_method_66_code 0 = .ok (.aload_n 0, 1) := by decide +kernel
theorem own_d30_1 : decode jdk_42_method_66_code 1 = .ok (.aload_n 1, 1) := by decide +kernel
theorem own_d30_2 : decode jdk_42_method_66_code 2 = .ok (.if_acmp .ne 5, 3) := by decide +kernel
theorem own_d30_5 : decode jdk_42_method_66_code 5 = .ok (.iconst 1, 1) := by decide +kernel
theorem own_d30_6 : decode jdk_42_method_66_code 6 = .ok (.ireturn, 1) := by decide +kernel
theorem own_pn0 : plainName "java/lang/String" = true := by first | (simp [plainName, overriddenIn]; done) | decide +kernel
theorem own_d18_0 : decode jdk_43_method_3_code 0 = .ok (.iload_n 0, 1) := by decide +kernel
theorem own_d18_1 : decode jdk_43_method_3_code 1 = .ok (.sipush 255, 3) := by decide +kernel
theorem own_d18_4 : decode jdk_43_method_3_code 4 = .ok (.if_icmp .gt 7, 3) := by decide +kernel
theorem own_d18_11 : decode jdk_43_method_3_code 11 = .ok (.iconst 0, 1) := by decide +kernel
theorem own_d18_12 : decode jdk_43_method_3_code 12 = .ok (.ireturn, 1) := by decide +kernel
theorem own_d18_7 : decode jdk_43_method_3_code 7 = .ok (.iconst 1, 1) := by decide +kernel
theorem own_d18_8 : decode jdk_43_method_3_code 8 = .ok (.goto 4, 3) := by decide +kernel
theorem own_pn1 : plainName "java/lang/StringLatin1" = true := by first | (simp [plainName, overriddenIn]; done) | decide +kernel
theorem own_d19_0 : decode jdk_43_method_46_code 0 = .ok (.iconst 1, 1) := by decide +kernel
theorem own_w84 {a0 : Array Value} {Z : State} (hw : ∀ d ∈ tables_1, d.before a0 Z = true) : (Jvm.Cond.arrayClass Jvm.ClassFile.FieldType.byte).before a0 Z = true := hw _ (List.mem_of_getElem? (i := 84) rfl)
theorem own_d19_1 : decode jdk_43_method_46_code 1 = .ok (.newarray .byte, 2) := by decide +kernel
theorem own_d19_3 : decode jdk_43_method_46_code 3 = .ok (.dup, 1) := by decide +kernel
theorem own_d19_4 : decode jdk_43_method_46_code 4 = .ok (.iconst 0, 1) := by decide +kernel
theorem own_d19_5 : decode jdk_43_method_46_code 5 = .ok (.iload_n 0, 1) := by decide +kernel
theorem own_d19_6 : decode jdk_43_method_46_code 6 = .ok (.i2b, 1) := by decide +kernel
theorem own_d19_7 : decode jdk_43_method_46_code 7 = .ok (.bastore, 1) := by decide +kernel
theorem own_d19_8 : decode jdk_43_method_46_code 8 = .ok (.areturn, 1) := by decide +kernel
theorem own_d20_0 : decode jdk_42_method_151_code 0 = .ok (.aload_n 0, 1) := by decide +kernel
theorem own_w78 {a0 : Array Value} {Z : State} (hw : ∀ d ∈ tables_1, d.before a0 Z = true) : (Jvm.Cond.methodLink "java/lang/String" (1 : Nat) ({ cls := "java/lang/Object", name := "<init>", desc := "()V" } : Jvm.MethodName)).before a0 Z = true := hw _ (List.mem_of_getElem? (i := 78) rfl)
theorem own_w18 {a0 : Array Value} {Z : State} (hw : ∀ d ∈ tables_1, d.before a0 Z = true) : (Jvm.Cond.code ({ cls := "java/lang/Object", name := "<init>", desc := "()V" } : Jvm.MethodName) object_method_1_code (1 : Nat) (Option.none : Option Jvm.ClassFile.FieldType)).before a0 Z = true := hw _ (List.mem_of_getElem? (i := 18) rfl)
theorem own_w17 {a0 : Array Value} {Z : State} (hw : ∀ d ∈ tables_1, d.before a0 Z = true) : (Jvm.Cond.instanceMethod ({ cls := "java/lang/Object", name := "<init>", desc := "()V" } : Jvm.MethodName)).before a0 Z = true := hw _ (List.mem_of_getElem? (i := 17) rfl)
theorem own_d20_1 : decode jdk_42_method_151_code 1 = .ok (.invokespecial 1, 3) := by decide +kernel
theorem own_d20_4 : decode jdk_42_method_151_code 4 = .ok (.aload_n 0, 1) := by decide +kernel
theorem own_d20_5 : decode jdk_42_method_151_code 5 = .ok (.aload_n 1, 1) := by decide +kernel
theorem own_w93 {a0 : Array Value} {Z : State} (hw : ∀ d ∈ tables_1, d.before a0 Z = true) : (Jvm.Cond.fieldLink "java/lang/String" (9 : Nat) "java/lang/String" "value" "[B").before a0 Z = true := hw _ (List.mem_of_getElem? (i := 93) rfl)
theorem own_w69 {a0 : Array Value} {Z : State} (hw : ∀ d ∈ tables_1, d.before a0 Z = true) : (Jvm.Cond.instantiable "java/lang/String" (4 : Nat)).before a0 Z = true := hw _ (List.mem_of_getElem? (i := 69) rfl)
theorem own_w94 {a0 : Array Value} {Z : State} (hw : ∀ d ∈ tables_1, d.before a0 Z = true) : (Jvm.Cond.laysFinal "java/lang/String" "java/lang/String" "value" "[B").before a0 Z = true := hw _ (List.mem_of_getElem? (i := 94) rfl)
theorem own_d20_6 : decode jdk_42_method_151_code 6 = .ok (.putfield 9, 3) := by decide +kernel
theorem own_w92 {a0 : Array Value} {Z : State} (hw : ∀ d ∈ tables_1, d.before a0 Z = true) : (Jvm.Cond.laysFinal "java/lang/String" "java/lang/String" "coder" "B").before a0 Z = true := hw _ (List.mem_of_getElem? (i := 92) rfl)
theorem own_d20_9 : decode jdk_42_method_151_code 9 = .ok (.aload_n 0, 1) := by decide +kernel
theorem own_d20_10 : decode jdk_42_method_151_code 10 = .ok (.iload_n 2, 1) := by decide +kernel
theorem own_w91 {a0 : Array Value} {Z : State} (hw : ∀ d ∈ tables_1, d.before a0 Z = true) : (Jvm.Cond.fieldLink "java/lang/String" (15 : Nat) "java/lang/String" "coder" "B").before a0 Z = true := hw _ (List.mem_of_getElem? (i := 91) rfl)
theorem own_d20_11 : decode jdk_42_method_151_code 11 = .ok (.putfield 15, 3) := by decide +kernel
theorem own_d20_14 : decode jdk_42_method_151_code 14 = .ok (.return_, 1) := by decide +kernel
theorem own_w79 {a0 : Array Value} {Z : State} (hw : ∀ d ∈ tables_1, d.before a0 Z = true) : (Jvm.Cond.fieldLink "java/lang/String" (38 : Nat) "java/lang/String" "COMPACT_STRINGS" "Z").before a0 Z = true := hw _ (List.mem_of_getElem? (i := 79) rfl)
theorem own_d17_0 : decode jdk_42_method_139_code 0 = .ok (.getstatic 38, 3) := by decide +kernel
theorem own_d17_3 : decode jdk_42_method_139_code 3 = .ok (.ifCond .eq 23, 3) := by decide +kernel
theorem own_d17_6 : decode jdk_42_method_139_code 6 = .ok (.iload_n 0, 1) := by decide +kernel
theorem own_w98 {a0 : Array Value} {Z : State} (hw : ∀ d ∈ tables_1, d.before a0 Z = true) : (Jvm.Cond.methodLink "java/lang/String" (1015 : Nat) ({ cls := "java/lang/StringLatin1", name := "canEncode", desc := "(C)Z" } : Jvm.MethodName)).before a0 Z = true := hw _ (List.mem_of_getElem? (i := 98) rfl)
theorem own_w99 {a0 : Array Value} {Z : State} (hw : ∀ d ∈ tables_1, d.before a0 Z = true) : (Jvm.Cond.static ({ cls := "java/lang/StringLatin1", name := "canEncode", desc := "(C)Z" } : Jvm.MethodName)).before a0 Z = true := hw _ (List.mem_of_getElem? (i := 99) rfl)
theorem own_w100 {a0 : Array Value} {Z : State} (hw : ∀ d ∈ tables_1, d.before a0 Z = true) : (Jvm.Cond.initialized "java/lang/StringLatin1").before a0 Z = true := hw _ (List.mem_of_getElem? (i := 100) rfl)
theorem own_w101 {a0 : Array Value} {Z : State} (hw : ∀ d ∈ tables_1, d.before a0 Z = true) : (Jvm.Cond.code ({ cls := "java/lang/StringLatin1", name := "canEncode", desc := "(C)Z" } : Jvm.MethodName) jdk_43_method_3_code (1 : Nat) (Option.some Jvm.ClassFile.FieldType.boolean)).before a0 Z = true := hw _ (List.mem_of_getElem? (i := 101) rfl)
theorem own_pd0 : parseMethodDescriptor "(C)Z" = some ⟨[.char], some .boolean⟩ := by decide +kernel
theorem own_d17_7 : decode jdk_42_method_139_code 7 = .ok (.invokestatic 1015, 3) := by decide +kernel
theorem own_d17_10 : decode jdk_42_method_139_code 10 = .ok (.ifCond .eq 16, 3) := by decide +kernel
theorem own_w102 {a0 : Array Value} {Z : State} (hw : ∀ d ∈ tables_1, d.before a0 Z = true) : (Jvm.Cond.classLink "java/lang/String" (10 : Nat) "java/lang/String").before a0 Z = true := hw _ (List.mem_of_getElem? (i := 102) rfl)
theorem own_w70 {a0 : Array Value} {Z : State} (hw : ∀ d ∈ tables_1, d.before a0 Z = true) : (Jvm.Cond.initialized "java/lang/String").before a0 Z = true := hw _ (List.mem_of_getElem? (i := 70) rfl)
theorem own_d17_13 : decode jdk_42_method_139_code 13 = .ok (.new 10, 3) := by decide +kernel
theorem own_d17_16 : decode jdk_42_method_139_code 16 = .ok (.dup, 1) := by decide +kernel
theorem own_d17_17 : decode jdk_42_method_139_code 17 = .ok (.iload_n 0, 1) := by decide +kernel
theorem own_w103 {a0 : Array Value} {Z : State} (hw : ∀ d ∈ tables_1, d.before a0 Z = true) : (Jvm.Cond.methodLink "java/lang/String" (1018 : Nat) ({ cls := "java/lang/StringLatin1", name := "toBytes", desc := "(C)[B" } : Jvm.MethodName)).before a0 Z = true := hw _ (List.mem_of_getElem? (i := 103) rfl)
theorem own_pd1 : parseMethodDescriptor "(C)[B" = some ⟨[.char], some (.array .byte)⟩ := by decide +kernel
theorem own_d17_18 : decode jdk_42_method_139_code 18 = .ok (.invokestatic 1018, 3) := by decide +kernel
theorem own_w104 {a0 : Array Value} {Z : State} (hw : ∀ d ∈ tables_1, d.before a0 Z = true) : (Jvm.Cond.static ({ cls := "java/lang/StringLatin1", name := "toBytes", desc := "(C)[B" } : Jvm.MethodName)).before a0 Z = true := hw _ (List.mem_of_getElem? (i := 104) rfl)
theorem own_w105 {a0 : Array Value} {Z : State} (hw : ∀ d ∈ tables_1, d.before a0 Z = true) : (Jvm.Cond.code ({ cls := "java/lang/StringLatin1", name := "toBytes", desc := "(C)[B" } : Jvm.MethodName) jdk_43_method_46_code (1 : Nat) (Option.some (Jvm.ClassFile.FieldType.array Jvm.ClassFile.FieldType.byte))).before a0 Z = true := hw _ (List.mem_of_getElem? (i := 105) rfl)
theorem own_d17_21 : decode jdk_42_method_139_code 21 = .ok (.iconst 0, 1) := by decide +kernel
theorem own_w106 {a0 : Array Value} {Z : State} (hw : ∀ d ∈ tables_1, d.before a0 Z = true) : (Jvm.Cond.methodLink "java/lang/String" (209 : Nat) ({ cls := "java/lang/String", name := "<init>", desc := "([BB)V" } : Jvm.MethodName)).before a0 Z = true := hw _ (List.mem_of_getElem? (i := 106) rfl)
theorem own_pd2 : parseMethodDescriptor "([BB)V" = some ⟨[(.array .byte), .byte], none⟩ := by decide +kernel
theorem own_d17_22 : decode jdk_42_method_139_code 22 = .ok (.invokespecial 209, 3) := by decide +kernel
theorem own_w107 {a0 : Array Value} {Z : State} (hw : ∀ d ∈ tables_1, d.before a0 Z = true) : (Jvm.Cond.instanceMethod ({ cls := "java/lang/String", name := "<init>", desc := "([BB)V" } : Jvm.MethodName)).before a0 Z = true := hw _ (List.mem_of_getElem? (i := 107) rfl)
theorem own_w108 {a0 : Array Value} {Z : State} (hw : ∀ d ∈ tables_1, d.before a0 Z = true) : (Jvm.Cond.code ({ cls := "java/lang/String", name := "<init>", desc := "([BB)V" } : Jvm.MethodName) jdk_42_method_151_code (3 : Nat) (Option.none : Option Jvm.ClassFile.FieldType)).before a0 Z = true := hw _ (List.mem_of_getElem? (i := 108) rfl)
theorem own_d17_25 : decode jdk_42_method_139_code 25 = .ok (.areturn, 1) := by decide +kernel
theorem own_d1_0 : decode method_2_code 0 = .ok (.iload_n 0, 1) := by decide +kernel
theorem own_d1_1 : decode method_2_code 1 = .ok (.iconst 3, 1) := by decide +kernel
theorem own_d1_2 : decode method_2_code 2 = .ok (.iand, 1) := by decide +kernel
theorem own_d1_3 : decode method_2_code 3 = .ok (.istore_n 2, 1) := by decide +kernel
theorem own_d1_4 : decode method_2_code 4 = .ok (.iload_n 2, 1) := by decide +kernel
theorem own_d1_5 : decode method_2_code 5 = .ok (.ifCond .ne 5, 3) := by decide +kernel
theorem own_d1_8 : decode method_2_code 8 = .ok (.aconst_null, 1) := by decide +kernel
theorem own_d1_9 : decode method_2_code 9 = .ok (.areturn, 1) := by decide +kernel
theorem own_d1_10 : decode method_2_code 10 = .ok (.bipush 33, 2) := by decide +kernel
theorem own_d1_12 : decode method_2_code 12 = .ok (.iload_n 1, 1) := by decide +kernel
theorem own_d1_13 : decode method_2_code 13 = .ok (.bipush 16, 2) := by decide +kernel
theorem own_d1_15 : decode method_2_code 15 = .ok (.iushr, 1) := by decide +kernel
theorem own_d1_16 : decode method_2_code 16 = .ok (.sipush 32767, 3) := by decide +kernel
theorem own_d1_19 : decode method_2_code 19 = .ok (.iand, 1) := by decide +kernel
theorem own_d1_20 : decode method_2_code 20 = .ok (.bipush 94, 2) := by decide +kernel
theorem own_d1_22 : decode method_2_code 22 = .ok (.irem, 1) := by decide +kernel
theorem own_d1_23 : decode method_2_code 23 = .ok (.iadd, 1) := by decide +kernel
theorem own_d1_24 : decode method_2_code 24 = .ok (.i2c, 1) := by decide +kernel
theorem own_d1_25 : decode method_2_code 25 = .ok (.istore_n 3, 1) := by decide +kernel
theorem own_d1_26 : decode method_2_code 26 = .ok (.iload_n 2, 1) := by decide +kernel
theorem own_d1_27 : decode method_2_code 27 = .ok (.iconst 1, 1) := by decide +kernel
theorem own_d1_28 : decode method_2_code 28 = .ok (.if_icmp .ne 8, 3) := by decide +kernel
theorem own_d1_31 : decode method_2_code 31 = .ok (.iload_n 3, 1) := by decide +kernel
theorem own_w95 {a0 : Array Value} {Z : State} (hw : ∀ d ∈ tables_1, d.before a0 Z = true) : (Jvm.Cond.methodLink "com/example/slicewise/slicewise/plan/OptionsWithFilterPinLaw" (7 : Nat) ({ cls := "java/lang/String", name := "valueOf", desc := "(C)Ljava/lang/String;" } : Jvm.MethodName)).before a0 Z = true := hw _ (List.mem_of_getElem? (i := 95) rfl)
theorem own_pd3 : parseMethodDescriptor "(C)Ljava/lang/String;" = some ⟨[.char], some (.object "java/lang/String")⟩ := by decide +kernel
theorem own_d1_32 : decode method_2_code 32 = .ok (.invokestatic 7, 3) := by decide +kernel
theorem own_w96 {a0 : Array Value} {Z : State} (hw : ∀ d ∈ tables_1, d.before a0 Z = true) : (Jvm.Cond.static ({ cls := "java/lang/String", name := "valueOf", desc := "(C)Ljava/lang/String;" } : Jvm.MethodName)).before a0 Z = true := hw _ (List.mem_of_getElem? (i := 96) rfl)
theorem own_w97 {a0 : Array Value} {Z : State} (hw : ∀ d ∈ tables_1, d.before a0 Z = true) : (Jvm.Cond.code ({ cls := "java/lang/String", name := "valueOf", desc := "(C)Ljava/lang/String;" } : Jvm.MethodName) jdk_42_method_139_code (1 : Nat) (Option.some (Jvm.ClassFile.FieldType.object "java/lang/String"))).before a0 Z = true := hw _ (List.mem_of_getElem? (i := 97) rfl)
theorem own_d1_35 : decode method_2_code 35 = .ok (.areturn, 1) := by decide +kernel
theorem own_d1_36 : decode method_2_code 36 = .ok (.iconst 3, 1) := by decide +kernel
theorem own_w67 {a0 : Array Value} {Z : State} (hw : ∀ d ∈ tables_1, d.before a0 Z = true) : (Jvm.Cond.arrayClass Jvm.ClassFile.FieldType.char).before a0 Z = true := hw _ (List.mem_of_getElem? (i := 67) rfl)
theorem own_d1_37 : decode method_2_code 37 = .ok (.newarray .char, 2) := by decide +kernel
theorem own_d1_39 : decode method_2_code 39 = .ok (.astore 4, 2) := by decide +kernel
theorem own_d1_41 : decode method_2_code 41 = .ok (.aload 4, 2) := by decide +kernel
theorem own_d1_43 : decode method_2_code 43 = .ok (.iconst 0, 1) := by decide +kernel
theorem own_d1_44 : decode method_2_code 44 = .ok (.iload_n 1, 1) := by decide +kernel
theorem own_d1_45 : decode method_2_code 45 = .ok (.sipush 255, 3) := by decide +kernel
theorem own_d1_48 : decode method_2_code 48 = .ok (.iand, 1) := by decide +kernel
theorem own_d1_49 : decode method_2_code 49 = .ok (.i2c, 1) := by decide +kernel
theorem own_d1_50 : decode method_2_code 50 = .ok (.castore, 1) := by decide +kernel
theorem own_d1_51 : decode method_2_code 51 = .ok (.aload 4, 2) := by decide +kernel
theorem own_d1_53 : decode method_2_code 53 = .ok (.iconst 1, 1) := by decide +kernel
theorem own_d1_54 : decode method_2_code 54 = .ok (.iload_n 3, 1) := by decide +kernel
theorem own_d1_55 : decode method_2_code 55 = .ok (.castore, 1) := by decide +kernel
theorem own_d1_56 : decode method_2_code 56 = .ok (.aload 4, 2) := by decide +kernel
theorem own_d1_58 : decode method_2_code 58 = .ok (.iconst 2, 1) := by decide +kernel
theorem own_d1_59 : decode method_2_code 59 = .ok (.iload_n 1, 1) := by decide +kernel
theorem own_d1_60 : decode method_2_code 60 = .ok (.bipush 8, 2) := by decide +kernel
theorem own_d1_62 : decode method_2_code 62 = .ok (.iushr, 1) := by decide +kernel
theorem own_d1_63 : decode method_2_code 63 = .ok (.sipush 255, 3) := by decide +kernel
theorem own_d1_66 : decode method_2_code 66 = .ok (.iand, 1) := by decide +kernel
theorem own_d1_67 : decode method_2_code 67 = .ok (.i2c, 1) := by decide +kernel
theorem own_d1_68 : decode method_2_code 68 = .ok (.castore, 1) := by decide +kernel
theorem own_w68 {a0 : Array Value} {Z : State} (hw : ∀ d ∈ tables_1, d.before a0 Z = true) : (Jvm.Cond.classLink "com/example/slicewise/slicewise/plan/OptionsWithFilterPinLaw" (8 : Nat) "java/lang/String").before a0 Z = true := hw _ (List.mem_of_getElem? (i := 68) rfl)
theorem own_d1_69 : decode method_2_code 69 = .ok (.new 8, 3) := by decide +kernel
theorem own_d1_72 : decode method_2_code 72 = .ok (.dup, 1) := by decide +kernel
theorem own_d1_73 : decode method_2_code 73 = .ok (.aload 4, 2) := by decide +kernel
theorem own_w71 {a0 : Array Value} {Z : State} (hw : ∀ d ∈ tables_1, d.before a0 Z = true) : (Jvm.Cond.methodLink "com/example/slicewise/slicewise/plan/OptionsWithFilterPinLaw" (13 : Nat) ({ cls := "java/lang/String", name := "<init>", desc := "([C)V" } : Jvm.MethodName)).before a0 Z = true := hw _ (List.mem_of_getElem? (i := 71) rfl)
theorem own_w72 {a0 : Array Value} {Z : State} (hw : ∀ d ∈ tables_1, d.before a0 Z = true) : (Jvm.Cond.instanceMethod ({ cls := "java/lang/String", name := "<init>", desc := "([C)V" } : Jvm.MethodName)).before a0 Z = true := hw _ (List.mem_of_getElem? (i := 72) rfl)
theorem own_d1_75 : decode method_2_code 75 = .ok (.invokespecial 13, 3) := by decide +kernel
theorem own_d1_78 : decode method_2_code 78 = .ok (.areturn, 1) := by decide +kernel
theorem own_pn2 : plainName "com/example/slicewise/slicewise/plan/OptionsWithFilterPinLaw" = true := by first | (simp [plainName, overriddenIn]; done) | decide +kernel
theorem own_d27_0 : decode jdk_116_method_1_code 0 = .ok (.iload_n 1, 1) := by decide +kernel
theorem own_d27_1 : decode jdk_116_method_1_code 1 = .ok (.i2c, 1) := by decide +kernel
theorem own_d27_2 : decode jdk_116_method_1_code 2 = .ok (.istore_n 2, 1) := by decide +kernel
theorem own_w142 {a0 : Array Value} {Z : State} (hw : ∀ d ∈ tables_1, d.before a0 Z = true) : (Jvm.Cond.fieldLink "java/lang/CharacterDataLatin1" (1 : Nat) "java/lang/CharacterDataLatin1" "A" "[I").before a0 Z = true := hw _ (List.mem_of_getElem? (i := 142) rfl)
theorem own_d27_3 : decode jdk_116_method_1_code 3 = .ok (.getstatic 1, 3) := by decide +kernel
theorem own_d27_6 : decode jdk_116_method_1_code 6 = .ok (.iload_n 2, 1) := by decide +kernel
theorem own_d27_7 : decode jdk_116_method_1_code 7 = .ok (.iaload, 1) := by decide +kernel
theorem own_d27_8 : decode jdk_116_method_1_code 8 = .ok (.istore_n 3, 1) := by decide +kernel
theorem own_d27_9 : decode jdk_116_method_1_code 9 = .ok (.iload_n 3, 1) := by decide +kernel
theorem own_d27_10 : decode jdk_116_method_1_code 10 = .ok (.ireturn, 1) := by decide +kernel
theorem own_pn3 : plainName "java/lang/CharacterDataLatin1" = true := by first | (simp [plainName, overriddenIn]; done) | decide +kernel
theorem own_d26_0 : decode jdk_116_method_26_code 0 = .ok (.aload_n 0, 1) := by decide +kernel
theorem own_d26_1 : decode jdk_116_method_26_code 1 = .ok (.iload_n 1, 1) := by decide +kernel
theorem own_w137 {a0 : Array Value} {Z : State} (hw : ∀ d ∈ tables_1, d.before a0 Z = true) : (Jvm.Cond.methodLink "java/lang/CharacterDataLatin1" (15 : Nat) ({ cls := "java/lang/CharacterDataLatin1", name := "getProperties", desc := "(I)I" } : Jvm.MethodName)).before a0 Z = true := hw _ (List.mem_of_getElem? (i := 137) rfl)
theorem own_pd4 : parseMethodDescriptor "(I)I" = some ⟨[.int], some .int⟩ := by decide +kernel
theorem own_d26_2 : decode jdk_116_method_26_code 2 = .ok (.invokevirtual 15, 3) := by decide +kernel
theorem own_w140 {a0 : Array Value} {Z : State} (hw : ∀ d ∈ tables_1, d.before a0 Z = true) : (Jvm.Cond.selects "java/lang/CharacterDataLatin1" ({ cls := "java/lang/CharacterDataLatin1", name := "getProperties", desc := "(I)I" } : Jvm.MethodName) ({ cls := "java/lang/CharacterDataLatin1", name := "getProperties", desc := "(I)I" } : Jvm.MethodName)).before a0 Z = true := hw _ (List.mem_of_getElem? (i := 140) rfl)
theorem own_w138 {a0 : Array Value} {Z : State} (hw : ∀ d ∈ tables_1, d.before a0 Z = true) : (Jvm.Cond.declares ({ cls := "java/lang/CharacterDataLatin1", name := "getProperties", desc := "(I)I" } : Jvm.MethodName)).before a0 Z = true := hw _ (List.mem_of_getElem? (i := 138) rfl)
theorem own_w139 {a0 : Array Value} {Z : State} (hw : ∀ d ∈ tables_1, d.before a0 Z = true) : (Jvm.Cond.instanceMethod ({ cls := "java/lang/CharacterDataLatin1", name := "getProperties", desc := "(I)I" } : Jvm.MethodName)).before a0 Z = true := hw _ (List.mem_of_getElem? (i := 139) rfl)
theorem own_w131 {a0 : Array Value} {Z : State} (hw : ∀ d ∈ tables_1, d.before a0 Z = true) : (Jvm.Cond.initialized "java/lang/CharacterDataLatin1").before a0 Z = true := hw _ (List.mem_of_getElem? (i := 131) rfl)
theorem own_w141 {a0 : Array Value} {Z : State} (hw : ∀ d ∈ tables_1, d.before a0 Z = true) : (Jvm.Cond.code ({ cls := "java/lang/CharacterDataLatin1", name := "getProperties", desc := "(I)I" } : Jvm.MethodName) jdk_116_method_1_code (4 : Nat) (Option.some Jvm.ClassFile.FieldType.int)).before a0 Z = true := hw _ (List.mem_of_getElem? (i := 141) rfl)
theorem own_d26_5 : decode jdk_116_method_26_code 5 = .ok (.istore_n 2, 1) := by decide +kernel
theorem own_d26_6 : decode jdk_116_method_26_code 6 = .ok (.iload_n 2, 1) := by decide +kernel
theorem own_d26_7 : decode jdk_116_method_26_code 7 = .ok (.sipush 28672, 3) := by decide +kernel
theorem own_d26_10 : decode jdk_116_method_26_code 10 = .ok (.iand, 1) := by decide +kernel
theorem own_d26_11 : decode jdk_116_method_26_code 11 = .ok (.sipush 16384, 3) := by decide +kernel
theorem own_d26_14 : decode jdk_116_method_26_code 14 = .ok (.if_icmp .ne 7, 3) := by decide +kernel
theorem own_d26_17 : decode jdk_116_method_26_code 17 = .ok (.iconst 1, 1) := by decide +kernel
theorem own_d26_18 : decode jdk_116_method_26_code 18 = .ok (.goto 4, 3) := by decide +kernel
theorem own_d26_22 : decode jdk_116_method_26_code 22 = .ok (.ireturn, 1) := by decide +kernel
theorem own_d26_21 : decode jdk_116_method_26_code 21 = .ok (.iconst 0, 1) := by decide +kernel
theorem own_d25_0 : decode jdk_43_method_44_code 0 = .ok (.aload_n 0, 1) := by decide +kernel
theorem own_d25_1 : decode jdk_43_method_44_code 1 = .ok (.iload_n 1, 1) := by decide +kernel
theorem own_d25_2 : decode jdk_43_method_44_code 2 = .ok (.baload, 1) := by decide +kernel
theorem own_d25_3 : decode jdk_43_method_44_code 3 = .ok (.sipush 255, 3) := by decide +kernel
theorem own_d25_6 : decode jdk_43_method_44_code 6 = .ok (.iand, 1) := by decide +kernel
theorem own_d25_7 : decode jdk_43_method_44_code 7 = .ok (.i2c, 1) := by decide +kernel
theorem own_d25_8 : decode jdk_43_method_44_code 8 = .ok (.ireturn, 1) := by decide +kernel
theorem own_d23_0 : decode jdk_42_method_154_code 0 = .ok (.getstatic 38, 3) := by decide +kernel
theorem own_d23_3 : decode jdk_42_method_154_code 3 = .ok (.ifCond .eq 14, 3) := by decide +kernel
theorem own_d23_6 : decode jdk_42_method_154_code 6 = .ok (.aload_n 0, 1) := by decide +kernel
theorem own_d23_7 : decode jdk_42_method_154_code 7 = .ok (.getfield 15, 3) := by decide +kernel
theorem own_d23_10 : decode jdk_42_method_154_code 10 = .ok (.ifCond .ne 7, 3) := by decide +kernel
theorem own_d23_13 : decode jdk_42_method_154_code 13 = .ok (.iconst 1, 1) := by decide +kernel
theorem own_d23_14 : decode jdk_42_method_154_code 14 = .ok (.goto 4, 3) := by decide +kernel
theorem own_d23_18 : decode jdk_42_method_154_code 18 = .ok (.ireturn, 1) := by decide +kernel
theorem own_d24_0 : decode jdk_43_method_37_code 0 = .ok (.aload_n 0, 1) := by decide +kernel
theorem own_d24_1 : decode jdk_43_method_37_code 1 = .ok (.arraylength, 1) := by decide +kernel
theorem own_d24_2 : decode jdk_43_method_37_code 2 = .ok (.istore_n 1, 1) := by decide +kernel
theorem own_d24_3 : decode jdk_43_method_37_code 3 = .ok (.iconst 0, 1) := by decide +kernel
theorem own_d24_4 : decode jdk_43_method_37_code 4 = .ok (.istore_n 2, 1) := by decide +kernel
theorem own_d24_5 : decode jdk_43_method_37_code 5 = .ok (.iload_n 2, 1) := by decide +kernel
theorem own_d24_6 : decode jdk_43_method_37_code 6 = .ok (.iload_n 1, 1) := by decide +kernel
theorem own_d24_7 : decode jdk_43_method_37_code 7 = .ok (.if_icmp .ge 40, 3) := by decide +kernel
theorem own_d24_10 : decode jdk_43_method_37_code 10 = .ok (.aload_n 0, 1) := by decide +kernel
theorem own_d24_11 : decode jdk_43_method_37_code 11 = .ok (.iload_n 2, 1) := by decide +kernel
theorem own_w127 {a0 : Array Value} {Z : State} (hw : ∀ d ∈ tables_1, d.before a0 Z = true) : (Jvm.Cond.methodLink "java/lang/StringLatin1" (50 : Nat) ({ cls := "java/lang/StringLatin1", name := "getChar", desc := "([BI)C" } : Jvm.MethodName)).before a0 Z = true := hw _ (List.mem_of_getElem? (i := 127) rfl)
theorem own_pd5 : parseMethodDescriptor "([BI)C" = some ⟨[(.array .byte), .int], some .char⟩ := by decide +kernel
theorem own_d24_12 : decode jdk_43_method_37_code 12 = .ok (.invokestatic 50, 3) := by decide +kernel
theorem own_w128 {a0 : Array Value} {Z : State} (hw : ∀ d ∈ tables_1, d.before a0 Z = true) : (Jvm.Cond.static ({ cls := "java/lang/StringLatin1", name := "getChar", desc := "([BI)C" } : Jvm.MethodName)).before a0 Z = true := hw _ (List.mem_of_getElem? (i := 128) rfl)
theorem own_w129 {a0 : Array Value} {Z : State} (hw : ∀ d ∈ tables_1, d.before a0 Z = true) : (Jvm.Cond.code ({ cls := "java/lang/StringLatin1", name := "getChar", desc := "([BI)C" } : Jvm.MethodName) jdk_43_method_44_code (2 : Nat) (Option.some Jvm.ClassFile.FieldType.char)).before a0 Z = true := hw _ (List.mem_of_getElem? (i := 129) rfl)
theorem own_d24_15 : decode jdk_43_method_37_code 15 = .ok (.istore_n 3, 1) := by decide +kernel
theorem own_d24_16 : decode jdk_43_method_37_code 16 = .ok (.iload_n 3, 1) := by decide +kernel
theorem own_d24_17 : decode jdk_43_method_37_code 17 = .ok (.bipush 32, 2) := by decide +kernel
theorem own_d24_19 : decode jdk_43_method_37_code 19 = .ok (.if_icmp .eq 22, 3) := by decide +kernel
theorem own_d24_22 : decode jdk_43_method_37_code 22 = .ok (.iload_n 3, 1) := by decide +kernel
theorem own_d24_23 : decode jdk_43_method_37_code 23 = .ok (.bipush 9, 2) := by decide +kernel
theorem own_d24_25 : decode jdk_43_method_37_code 25 = .ok (.if_icmp .eq 16, 3) := by decide +kernel
theorem own_w130 {a0 : Array Value} {Z : State} (hw : ∀ d ∈ tables_1, d.before a0 Z = true) : (Jvm.Cond.fieldLink "java/lang/StringLatin1" (66 : Nat) "java/lang/CharacterDataLatin1" "instance" "Ljava/lang/CharacterDataLatin1;").before a0 Z = true := hw _ (List.mem_of_getElem? (i := 130) rfl)
theorem own_d24_28 : decode jdk_43_method_37_code 28 = .ok (.getstatic 66, 3) := by decide +kernel
theorem own_d24_31 : decode jdk_43_method_37_code 31 = .ok (.iload_n 3, 1) := by decide +kernel
theorem own_w132 {a0 : Array Value} {Z : State} (hw : ∀ d ∈ tables_1, d.before a0 Z = true) : (Jvm.Cond.methodLink "java/lang/StringLatin1" (211 : Nat) ({ cls := "java/lang/CharacterDataLatin1", name := "isWhitespace", desc := "(I)Z" } : Jvm.MethodName)).before a0 Z = true := hw _ (List.mem_of_getElem? (i := 132) rfl)
theorem own_pd6 : parseMethodDescriptor "(I)Z" = some ⟨[.int], some .boolean⟩ := by decide +kernel
theorem own_d24_32 : decode jdk_43_method_37_code 32 = .ok (.invokevirtual 211, 3) := by decide +kernel
theorem own_w135 {a0 : Array Value} {Z : State} (hw : ∀ d ∈ tables_1, d.before a0 Z = true) : (Jvm.Cond.selects "java/lang/CharacterDataLatin1" ({ cls := "java/lang/CharacterDataLatin1", name := "isWhitespace", desc := "(I)Z" } : Jvm.MethodName) ({ cls := "java/lang/CharacterDataLatin1", name := "isWhitespace", desc := "(I)Z" } : Jvm.MethodName)).before a0 Z = true := hw _ (List.mem_of_getElem? (i := 135) rfl)
theorem own_w133 {a0 : Array Value} {Z : State} (hw : ∀ d ∈ tables_1, d.before a0 Z = true) : (Jvm.Cond.declares ({ cls := "java/lang/CharacterDataLatin1", name := "isWhitespace", desc := "(I)Z" } : Jvm.MethodName)).before a0 Z = true := hw _ (List.mem_of_getElem? (i := 133) rfl)
theorem own_w134 {a0 : Array Value} {Z : State} (hw : ∀ d ∈ tables_1, d.before a0 Z = true) : (Jvm.Cond.instanceMethod ({ cls := "java/lang/CharacterDataLatin1", name := "isWhitespace", desc := "(I)Z" } : Jvm.MethodName)).before a0 Z = true := hw _ (List.mem_of_getElem? (i := 134) rfl)
theorem own_w136 {a0 : Array Value} {Z : State} (hw : ∀ d ∈ tables_1, d.before a0 Z = true) : (Jvm.Cond.code ({ cls := "java/lang/CharacterDataLatin1", name := "isWhitespace", desc := "(I)Z" } : Jvm.MethodName) jdk_116_method_26_code (3 : Nat) (Option.some Jvm.ClassFile.FieldType.boolean)).before a0 Z = true := hw _ (List.mem_of_getElem? (i := 136) rfl)
theorem own_d24_35 : decode jdk_43_method_37_code 35 = .ok (.ifCond .ne 6, 3) := by decide +kernel
theorem own_d24_38 : decode jdk_43_method_37_code 38 = .ok (.goto 9, 3) := by decide +kernel
theorem own_d24_47 : decode jdk_43_method_37_code 47 = .ok (.iload_n 2, 1) := by decide +kernel
theorem own_d24_48 : decode jdk_43_method_37_code 48 = .ok (.ireturn, 1) := by decide +kernel
theorem own_d22_0 : decode jdk_42_method_120_code 0 = .ok (.aload_n 0, 1) := by decide +kernel
theorem own_w119 {a0 : Array Value} {Z : State} (hw : ∀ d ∈ tables_1, d.before a0 Z = true) : (Jvm.Cond.methodLink "java/lang/String" (492 : Nat) ({ cls := "java/lang/String", name := "isLatin1", desc := "()Z" } : Jvm.MethodName)).before a0 Z = true := hw _ (List.mem_of_getElem? (i := 119) rfl)
theorem own_pd7 : parseMethodDescriptor "()Z" = some ⟨[], some .boolean⟩ := by decide +kernel
theorem own_d22_1 : decode jdk_42_method_120_code 1 = .ok (.invokevirtual 492, 3) := by decide +kernel
theorem own_w122 {a0 : Array Value} {Z : State} (hw : ∀ d ∈ tables_1, d.before a0 Z = true) : (Jvm.Cond.selects "java/lang/String" ({ cls := "java/lang/String", name := "isLatin1", desc := "()Z" } : Jvm.MethodName) ({ cls := "java/lang/String", name := "isLatin1", desc := "()Z" } : Jvm.MethodName)).before a0 Z = true := hw _ (List.mem_of_getElem? (i := 122) rfl)
theorem own_w120 {a0 : Array Value} {Z : State} (hw : ∀ d ∈ tables_1, d.before a0 Z = true) : (Jvm.Cond.declares ({ cls := "java/lang/String", name := "isLatin1", desc := "()Z" } : Jvm.MethodName)).before a0 Z = true := hw _ (List.mem_of_getElem? (i := 120) rfl)
theorem own_w121 {a0 : Array Value} {Z : State} (hw : ∀ d ∈ tables_1, d.before a0 Z = true) : (Jvm.Cond.instanceMethod ({ cls := "java/lang/String", name := "isLatin1", desc := "()Z" } : Jvm.MethodName)).before a0 Z = true := hw _ (List.mem_of_getElem? (i := 121) rfl)
theorem own_w123 {a0 : Array Value} {Z : State} (hw : ∀ d ∈ tables_1, d.before a0 Z = true) : (Jvm.Cond.code ({ cls := "java/lang/String", name := "isLatin1", desc := "()Z" } : Jvm.MethodName) jdk_42_method_154_code (1 : Nat) (Option.some Jvm.ClassFile.FieldType.boolean)).before a0 Z = true := hw _ (List.mem_of_getElem? (i := 123) rfl)
theorem own_d22_4 : decode jdk_42_method_120_code 4 = .ok (.ifCond .eq 13, 3) := by decide +kernel
theorem own_d22_7 : decode jdk_42_method_120_code 7 = .ok (.aload_n 0, 1) := by decide +kernel
theorem own_d22_8 : decode jdk_42_method_120_code 8 = .ok (.getfield 9, 3) := by decide +kernel
theorem own_w124 {a0 : Array Value} {Z : State} (hw : ∀ d ∈ tables_1, d.before a0 Z = true) : (Jvm.Cond.methodLink "java/lang/String" (924 : Nat) ({ cls := "java/lang/StringLatin1", name := "indexOfNonWhitespace", desc := "([B)I" } : Jvm.MethodName)).before a0 Z = true := hw _ (List.mem_of_getElem? (i := 124) rfl)
theorem own_pd8 : parseMethodDescriptor "([B)I" = some ⟨[(.array .byte)], some .int⟩ := by decide +kernel
theorem own_d22_11 : decode jdk_42_method_120_code 11 = .ok (.invokestatic 924, 3) := by decide +kernel
theorem own_w125 {a0 : Array Value} {Z : State} (hw : ∀ d ∈ tables_1, d.before a0 Z = true) : (Jvm.Cond.static ({ cls := "java/lang/StringLatin1", name := "indexOfNonWhitespace", desc := "([B)I" } : Jvm.MethodName)).before a0 Z = true := hw _ (List.mem_of_getElem? (i := 125) rfl)
theorem own_w126 {a0 : Array Value} {Z : State} (hw : ∀ d ∈ tables_1, d.before a0 Z = true) : (Jvm.Cond.code ({ cls := "java/lang/StringLatin1", name := "indexOfNonWhitespace", desc := "([B)I" } : Jvm.MethodName) jdk_43_method_37_code (4 : Nat) (Option.some Jvm.ClassFile.FieldType.int)).before a0 Z = true := hw _ (List.mem_of_getElem? (i := 126) rfl)
theorem own_d22_14 : decode jdk_42_method_120_code 14 = .ok (.goto 10, 3) := by decide +kernel
theorem own_d22_24 : decode jdk_42_method_120_code 24 = .ok (.ireturn, 1) := by decide +kernel
theorem own_d21_0 : decode jdk_42_method_117_code 0 = .ok (.aload_n 0, 1) := by decide +kernel
theorem own_w114 {a0 : Array Value} {Z : State} (hw : ∀ d ∈ tables_1, d.before a0 Z = true) : (Jvm.Cond.methodLink "java/lang/String" (876 : Nat) ({ cls := "java/lang/String", name := "indexOfNonWhitespace", desc := "()I" } : Jvm.MethodName)).before a0 Z = true := hw _ (List.mem_of_getElem? (i := 114) rfl)
theorem own_pd9 : parseMethodDescriptor "()I" = some ⟨[], some .int⟩ := by decide +kernel
theorem own_d21_1 : decode jdk_42_method_117_code 1 = .ok (.invokevirtual 876, 3) := by decide +kernel
theorem own_w116 {a0 : Array Value} {Z : State} (hw : ∀ d ∈ tables_1, d.before a0 Z = true) : (Jvm.Cond.privateMethod ({ cls := "java/lang/String", name := "indexOfNonWhitespace", desc := "()I" } : Jvm.MethodName)).before a0 Z = true := hw _ (List.mem_of_getElem? (i := 116) rfl)
theorem own_w117 {a0 : Array Value} {Z : State} (hw : ∀ d ∈ tables_1, d.before a0 Z = true) : (Jvm.Cond.selects "java/lang/String" ({ cls := "java/lang/String", name := "indexOfNonWhitespace", desc := "()I" } : Jvm.MethodName) ({ cls := "java/lang/String", name := "indexOfNonWhitespace", desc := "()I" } : Jvm.MethodName)).before a0 Z = true := hw _ (List.mem_of_getElem? (i := 117) rfl)
theorem own_w115 {a0 : Array Value} {Z : State} (hw : ∀ d ∈ tables_1, d.before a0 Z = true) : (Jvm.Cond.instanceMethod ({ cls := "java/lang/String", name := "indexOfNonWhitespace", desc := "()I" } : Jvm.MethodName)).before a0 Z = true := hw _ (List.mem_of_getElem? (i := 115) rfl)
theorem own_w118 {a0 : Array Value} {Z : State} (hw : ∀ d ∈ tables_1, d.before a0 Z = true) : (Jvm.Cond.code ({ cls := "java/lang/String", name := "indexOfNonWhitespace", desc := "()I" } : Jvm.MethodName) jdk_42_method_120_code (1 : Nat) (Option.some Jvm.ClassFile.FieldType.int)).before a0 Z = true := hw _ (List.mem_of_getElem? (i := 118) rfl)
theorem own_d21_4 : decode jdk_42_method_117_code 4 = .ok (.aload_n 0, 1) := by decide +kernel
theorem own_w143 {a0 : Array Value} {Z : State} (hw : ∀ d ∈ tables_1, d.before a0 Z = true) : (Jvm.Cond.methodLink "java/lang/String" (505 : Nat) ({ cls := "java/lang/String", name := "length", desc := "()I" } : Jvm.MethodName)).before a0 Z = true := hw _ (List.mem_of_getElem? (i := 143) rfl)
theorem own_w144 {a0 : Array Value} {Z : State} (hw : ∀ d ∈ tables_1, d.before a0 Z = true) : (Jvm.Cond.declares ({ cls := "java/lang/String", name := "length", desc := "()I" } : Jvm.MethodName)).before a0 Z = true := hw _ (List.mem_of_getElem? (i := 144) rfl)
theorem own_w146 {a0 : Array Value} {Z : State} (hw : ∀ d ∈ tables_1, d.before a0 Z = true) : (Jvm.Cond.selects "java/lang/String" ({ cls := "java/lang/String", name := "length", desc := "()I" } : Jvm.MethodName) ({ cls := "java/lang/String", name := "length", desc := "()I" } : Jvm.MethodName)).before a0 Z = true := hw _ (List.mem_of_getElem? (i := 146) rfl)
theorem own_w145 {a0 : Array Value} {Z : State} (hw : ∀ d ∈ tables_1, d.before a0 Z = true) : (Jvm.Cond.instanceMethod ({ cls := "java/lang/String", name := "length", desc := "()I" } : Jvm.MethodName)).before a0 Z = true := hw _ (List.mem_of_getElem? (i := 145) rfl)
theorem own_d21_5 : decode jdk_42_method_117_code 5 = .ok (.invokevirtual 505, 3) := by decide +kernel
theorem own_d21_8 : decode jdk_42_method_117_code 8 = .ok (.if_icmp .ne 7, 3) := by decide +kernel
theorem own_d21_15 : decode jdk_42_method_117_code 15 = .ok (.iconst 0, 1) := by decide +kernel
theorem own_d21_16 : decode jdk_42_method_117_code 16 = .ok (.ireturn, 1) := by decide +kernel
theorem own_d24_41 : decode jdk_43_method_37_code 41 = .ok (.iinc 2 1, 3) := by decide +kernel
theorem own_d24_44 : decode jdk_43_method_37_code 44 = .ok (.goto (-39), 3) := by decide +kernel
theorem own_d3_0 : decode jdk_30_method_1_code 0 = .ok (.aload_n 0, 1) := by decide +kernel
theorem own_w16 {a0 : Array Value} {Z : State} (hw : ∀ d ∈ tables_1, d.before a0 Z = true) : (Jvm.Cond.methodLink "java/lang/Record" (1 : Nat) ({ cls := "java/lang/Object", name := "<init>", desc := "()V" } : Jvm.MethodName)).before a0 Z = true := hw _ (List.mem_of_getElem? (i := 16) rfl)
theorem own_d3_1 : decode jdk_30_method_1_code 1 = .ok (.invokespecial 1, 3) := by decide +kernel
theorem own_d3_4 : decode jdk_30_method_1_code 4 = .ok (.return_, 1) := by decide +kernel
theorem own_pn4 : plainName "java/lang/Record" = true := by first | (simp [plainName, overriddenIn]; done) | decide +kernel
theorem own_d2_0 : decode prog_5_method_1_code 0 = .ok (.aload_n 0, 1) := by decide +kernel
theorem own_w11 {a0 : Array Value} {Z : State} (hw : ∀ d ∈ tables_1, d.before a0 Z = true) : (Jvm.Cond.methodLink "com/example/slicewise/slicewise/plan/Options" (1 : Nat) ({ cls := "java/lang/Record", name := "<init>", desc := "()V" } : Jvm.MethodName)).before a0 Z = true := hw _ (List.mem_of_getElem? (i := 11) rfl)
theorem own_w12 {a0 : Array Value} {Z : State} (hw : ∀ d ∈ tables_1, d.before a0 Z = true) : (Jvm.Cond.instanceMethod ({ cls := "java/lang/Record", name := "<init>", desc := "()V" } : Jvm.MethodName)).before a0 Z = true := hw _ (List.mem_of_getElem? (i := 12) rfl)
theorem own_w14 {a0 : Array Value} {Z : State} (hw : ∀ d ∈ tables_1, d.before a0 Z = true) : (Jvm.Cond.initialized "java/lang/Record").before a0 Z = true := hw _ (List.mem_of_getElem? (i := 14) rfl)
theorem own_w15 {a0 : Array Value} {Z : State} (hw : ∀ d ∈ tables_1, d.before a0 Z = true) : (Jvm.Cond.code ({ cls := "java/lang/Record", name := "<init>", desc := "()V" } : Jvm.MethodName) jdk_30_method_1_code (1 : Nat) (Option.none : Option Jvm.ClassFile.FieldType)).before a0 Z = true := hw _ (List.mem_of_getElem? (i := 15) rfl)
theorem own_pd10 : parseMethodDescriptor "()V" = some ⟨[], none⟩ := by decide +kernel
theorem own_d2_1 : decode prog_5_method_1_code 1 = .ok (.invokespecial 1, 3) := by decide +kernel
theorem own_d2_4 : decode prog_5_method_1_code 4 = .ok (.iload 4, 2) := by decide +kernel
theorem own_d2_6 : decode prog_5_method_1_code 6 = .ok (.iconst 1, 1) := by decide +kernel
theorem own_d2_7 : decode prog_5_method_1_code 7 = .ok (.if_icmp .lt 10, 3) := by decide +kernel
theorem own_d2_10 : decode prog_5_method_1_code 10 = .ok (.iload 4, 2) := by decide +kernel
theorem own_d2_12 : decode prog_5_method_1_code 12 = .ok (.bipush 64, 2) := by decide +kernel
theorem own_d2_14 : decode prog_5_method_1_code 14 = .ok (.if_icmp .le 18, 3) := by decide +kernel
theorem own_d2_32 : decode prog_5_method_1_code 32 = .ok (.aload_n 2, 1) := by decide +kernel
theorem own_d2_33 : decode prog_5_method_1_code 33 = .ok (.ifnull 33, 3) := by decide +kernel
theorem own_d2_66 : decode prog_5_method_1_code 66 = .ok (.aload_n 3, 1) := by decide +kernel
theorem own_d2_67 : decode prog_5_method_1_code 67 = .ok (.ifnull 20, 3) := by decide +kernel
theorem own_d2_87 : decode prog_5_method_1_code 87 = .ok (.aload_n 0, 1) := by decide +kernel
theorem own_d2_88 : decode prog_5_method_1_code 88 = .ok (.aload_n 1, 1) := by decide +kernel
theorem own_w19 {a0 : Array Value} {Z : State} (hw : ∀ d ∈ tables_1, d.before a0 Z = true) : (Jvm.Cond.fieldLink "com/example/slicewise/slicewise/plan/Options" (39 : Nat) "com/example/slicewise/slicewise/plan/Options" "method" "Lcom/example/slicewise/slicewise/plan/Method;").before a0 Z = true := hw _ (List.mem_of_getElem? (i := 19) rfl)
theorem own_w6 {a0 : Array Value} {Z : State} (hw : ∀ d ∈ tables_1, d.before a0 Z = true) : (Jvm.Cond.instantiable "com/example/slicewise/slicewise/plan/Options" (5 : Nat)).before a0 Z = true := hw _ (List.mem_of_getElem? (i := 6) rfl)
theorem own_w20 {a0 : Array Value} {Z : State} (hw : ∀ d ∈ tables_1, d.before a0 Z = true) : (Jvm.Cond.laysFinal "com/example/slicewise/slicewise/plan/Options" "com/example/slicewise/slicewise/plan/Options" "method" "Lcom/example/slicewise/slicewise/plan/Method;").before a0 Z = true := hw _ (List.mem_of_getElem? (i := 20) rfl)
theorem own_d2_89 : decode prog_5_method_1_code 89 = .ok (.putfield 39, 3) := by decide +kernel
theorem own_w22 {a0 : Array Value} {Z : State} (hw : ∀ d ∈ tables_1, d.before a0 Z = true) : (Jvm.Cond.laysFinal "com/example/slicewise/slicewise/plan/Options" "com/example/slicewise/slicewise/plan/Options" "splitColumn" "Ljava/lang/String;").before a0 Z = true := hw _ (List.mem_of_getElem? (i := 22) rfl)
theorem own_w24 {a0 : Array Value} {Z : State} (hw : ∀ d ∈ tables_1, d.before a0 Z = true) : (Jvm.Cond.laysFinal "com/example/slicewise/slicewise/plan/Options" "com/example/slicewise/slicewise/plan/Options" "filter" "Ljava/lang/String;").before a0 Z = true := hw _ (List.mem_of_getElem? (i := 24) rfl)
theorem own_w26 {a0 : Array Value} {Z : State} (hw : ∀ d ∈ tables_1, d.before a0 Z = true) : (Jvm.Cond.laysFinal "com/example/slicewise/slicewise/plan/Options" "com/example/slicewise/slicewise/plan/Options" "threads" "I").before a0 Z = true := hw _ (List.mem_of_getElem? (i := 26) rfl)
theorem own_w28 {a0 : Array Value} {Z : State} (hw : ∀ d ∈ tables_1, d.before a0 Z = true) : (Jvm.Cond.laysFinal "com/example/slicewise/slicewise/plan/Options" "com/example/slicewise/slicewise/plan/Options" "oneConnectionPerThread" "Z").before a0 Z = true := hw _ (List.mem_of_getElem? (i := 28) rfl)
theorem own_d2_92 : decode prog_5_method_1_code 92 = .ok (.aload_n 0, 1) := by decide +kernel
theorem own_d2_93 : decode prog_5_method_1_code 93 = .ok (.aload_n 2, 1) := by decide +kernel
theorem own_w21 {a0 : Array Value} {Z : State} (hw : ∀ d ∈ tables_1, d.before a0 Z = true) : (Jvm.Cond.fieldLink "com/example/slicewise/slicewise/plan/Options" (42 : Nat) "com/example/slicewise/slicewise/plan/Options" "splitColumn" "Ljava/lang/String;").before a0 Z = true := hw _ (List.mem_of_getElem? (i := 21) rfl)
theorem own_d2_94 : decode prog_5_method_1_code 94 = .ok (.putfield 42, 3) := by decide +kernel
theorem own_d2_97 : decode prog_5_method_1_code 97 = .ok (.aload_n 0, 1) := by decide +kernel
theorem own_d2_98 : decode prog_5_method_1_code 98 = .ok (.aload_n 3, 1) := by decide +kernel
theorem own_w23 {a0 : Array Value} {Z : State} (hw : ∀ d ∈ tables_1, d.before a0 Z = true) : (Jvm.Cond.fieldLink "com/example/slicewise/slicewise/plan/Options" (46 : Nat) "com/example/slicewise/slicewise/plan/Options" "filter" "Ljava/lang/String;").before a0 Z = true := hw _ (List.mem_of_getElem? (i := 23) rfl)
theorem own_d2_99 : decode prog_5_method_1_code 99 = .ok (.putfield 46, 3) := by decide +kernel
theorem own_d2_102 : decode prog_5_method_1_code 102 = .ok (.aload_n 0, 1) := by decide +kernel
theorem own_d2_103 : decode prog_5_method_1_code 103 = .ok (.iload 4, 2) := by decide +kernel
theorem own_w25 {a0 : Array Value} {Z : State} (hw : ∀ d ∈ tables_1, d.before a0 Z = true) : (Jvm.Cond.fieldLink "com/example/slicewise/slicewise/plan/Options" (49 : Nat) "com/example/slicewise/slicewise/plan/Options" "threads" "I").before a0 Z = true := hw _ (List.mem_of_getElem? (i := 25) rfl)
theorem own_d2_105 : decode prog_5_method_1_code 105 = .ok (.putfield 49, 3) := by decide +kernel
theorem own_d2_108 : decode prog_5_method_1_code 108 = .ok (.aload_n 0, 1) := by decide +kernel
theorem own_d2_109 : decode prog_5_method_1_code 109 = .ok (.iload 5, 2) := by decide +kernel
theorem own_w27 {a0 : Array Value} {Z : State} (hw : ∀ d ∈ tables_1, d.before a0 Z = true) : (Jvm.Cond.fieldLink "com/example/slicewise/slicewise/plan/Options" (53 : Nat) "com/example/slicewise/slicewise/plan/Options" "oneConnectionPerThread" "Z").before a0 Z = true := hw _ (List.mem_of_getElem? (i := 27) rfl)
theorem own_d2_111 : decode prog_5_method_1_code 111 = .ok (.putfield 53, 3) := by decide +kernel
theorem own_d2_114 : decode prog_5_method_1_code 114 = .ok (.return_, 1) := by decide +kernel
theorem own_d2_70 : decode prog_5_method_1_code 70 = .ok (.aload_n 3, 1) := by decide +kernel
theorem own_w109 {a0 : Array Value} {Z : State} (hw : ∀ d ∈ tables_1, d.before a0 Z = true) : (Jvm.Cond.methodLink "com/example/slicewise/slicewise/plan/Options" (31 : Nat) ({ cls := "java/lang/String", name := "isBlank", desc := "()Z" } : Jvm.MethodName)).before a0 Z = true := hw _ (List.mem_of_getElem? (i := 109) rfl)
theorem own_d2_71 : decode prog_5_method_1_code 71 = .ok (.invokevirtual 31, 3) := by decide +kernel
theorem own_w112 {a0 : Array Value} {Z : State} (hw : ∀ d ∈ tables_1, d.before a0 Z = true) : (Jvm.Cond.selects "java/lang/String" ({ cls := "java/lang/String", name := "isBlank", desc := "()Z" } : Jvm.MethodName) ({ cls := "java/lang/String", name := "isBlank", desc := "()Z" } : Jvm.MethodName)).before a0 Z = true := hw _ (List.mem_of_getElem? (i := 112) rfl)
theorem own_w110 {a0 : Array Value} {Z : State} (hw : ∀ d ∈ tables_1, d.before a0 Z = true) : (Jvm.Cond.declares ({ cls := "java/lang/String", name := "isBlank", desc := "()Z" } : Jvm.MethodName)).before a0 Z = true := hw _ (List.mem_of_getElem? (i := 110) rfl)
theorem own_w111 {a0 : Array Value} {Z : State} (hw : ∀ d ∈ tables_1, d.before a0 Z = true) : (Jvm.Cond.instanceMethod ({ cls := "java/lang/String", name := "isBlank", desc := "()Z" } : Jvm.MethodName)).before a0 Z = true := hw _ (List.mem_of_getElem? (i := 111) rfl)
theorem own_w113 {a0 : Array Value} {Z : State} (hw : ∀ d ∈ tables_1, d.before a0 Z = true) : (Jvm.Cond.code ({ cls := "java/lang/String", name := "isBlank", desc := "()Z" } : Jvm.MethodName) jdk_42_method_117_code (1 : Nat) (Option.some Jvm.ClassFile.FieldType.boolean)).before a0 Z = true := hw _ (List.mem_of_getElem? (i := 113) rfl)
theorem own_d2_74 : decode prog_5_method_1_code 74 = .ok (.ifCond .eq 13, 3) := by decide +kernel
theorem own_d2_36 : decode prog_5_method_1_code 36 = .ok (.aload_n 1, 1) := by decide +kernel
theorem own_d2_37 : decode prog_5_method_1_code 37 = .ok (.ifnull 29, 3) := by decide +kernel
theorem own_d2_40 : decode prog_5_method_1_code 40 = .ok (.aload_n 1, 1) := by decide +kernel
theorem own_w162 {a0 : Array Value} {Z : State} (hw : ∀ d ∈ tables_1, d.before a0 Z = true) : (Jvm.Cond.fieldLink "com/example/slicewise/slicewise/plan/Options" (18 : Nat) "com/example/slicewise/slicewise/plan/Method" "MOD" "Lcom/example/slicewise/slicewise/plan/Method;").before a0 Z = true := hw _ (List.mem_of_getElem? (i := 162) rfl)
theorem own_d2_41 : decode prog_5_method_1_code 41 = .ok (.getstatic 18, 3) := by decide +kernel
theorem own_d2_44 : decode prog_5_method_1_code 44 = .ok (.if_acmp .eq 22, 3) := by decide +kernel
theorem own_pn5 : plainName "com/example/slicewise/slicewise/plan/Options" = true := by first | (simp [plainName, overriddenIn]; done) | decide +kernel
theorem own_w34 {a0 : Array Value} {Z : State} (hw : ∀ d ∈ tables_1, d.before a0 Z = true) : (Jvm.Cond.classLink "com/example/slicewise/slicewise/plan/Options" (7 : Nat) "com/example/slicewise/slicewise/plan/Options").before a0 Z = true := hw _ (List.mem_of_getElem? (i := 34) rfl)
theorem own_w7 {a0 : Array Value} {Z : State} (hw : ∀ d ∈ tables_1, d.before a0 Z = true) : (Jvm.Cond.initialized "com/example/slicewise/slicewise/plan/Options").before a0 Z = true := hw _ (List.mem_of_getElem? (i := 7) rfl)
theorem own_d5_0 : decode prog_5_method_4_code 0 = .ok (.new 7, 3) := by decide +kernel
theorem own_d5_3 : decode prog_5_method_4_code 3 = .ok (.dup, 1) := by decide +kernel
theorem own_d5_4 : decode prog_5_method_4_code 4 = .ok (.aload_n 0, 1) := by decide +kernel
theorem own_d5_5 : decode prog_5_method_4_code 5 = .ok (.getfield 39, 3) := by decide +kernel
theorem own_d5_8 : decode prog_5_method_4_code 8 = .ok (.aload_n 0, 1) := by decide +kernel
theorem own_d5_9 : decode prog_5_method_4_code 9 = .ok (.getfield 42, 3) := by decide +kernel
theorem own_d5_12 : decode prog_5_method_4_code 12 = .ok (.aload_n 1, 1) := by decide +kernel
theorem own_d5_13 : decode prog_5_method_4_code 13 = .ok (.aload_n 0, 1) := by decide +kernel
theorem own_d5_14 : decode prog_5_method_4_code 14 = .ok (.getfield 49, 3) := by decide +kernel
theorem own_d5_17 : decode prog_5_method_4_code 17 = .ok (.aload_n 0, 1) := by decide +kernel
theorem own_d5_18 : decode prog_5_method_4_code 18 = .ok (.getfield 53, 3) := by decide +kernel
theorem own_w35 {a0 : Array Value} {Z : State} (hw : ∀ d ∈ tables_1, d.before a0 Z = true) : (Jvm.Cond.methodLink "com/example/slicewise/slicewise/plan/Options" (57 : Nat) ({ cls := "com/example/slicewise/slicewise/plan/Options", name := "<init>", desc := "(Lcom/example/slicewise/slicewise/plan/Method;Ljava/lang/String;Ljava/lang/String;IZ)V" } : Jvm.MethodName)).before a0 Z = true := hw _ (List.mem_of_getElem? (i := 35) rfl)
theorem own_pd11 : parseMethodDescriptor "(Lcom/example/slicewise/slicewise/plan/Method;Ljava/lang/String;Ljava/lang/String;IZ)V" = some ⟨[(.object "com/example/slicewise/slicewise/plan/Method"), (.object "java/lang/String"), (.object "java/lang/String"), .int, .boolean], none⟩ := by decide +kernel
theorem own_d5_21 : decode prog_5_method_4_code 21 = .ok (.invokespecial 57, 3) := by decide +kernel
theorem own_w9 {a0 : Array Value} {Z : State} (hw : ∀ d ∈ tables_1, d.before a0 Z = true) : (Jvm.Cond.instanceMethod ({ cls := "com/example/slicewise/slicewise/plan/Options", name := "<init>", desc := "(Lcom/example/slicewise/slicewise/plan/Method;Ljava/lang/String;Ljava/lang/String;IZ)V" } : Jvm.MethodName)).before a0 Z = true := hw _ (List.mem_of_getElem? (i := 9) rfl)
theorem own_w10 {a0 : Array Value} {Z : State} (hw : ∀ d ∈ tables_1, d.before a0 Z = true) : (Jvm.Cond.code ({ cls := "com/example/slicewise/slicewise/plan/Options", name := "<init>", desc := "(Lcom/example/slicewise/slicewise/plan/Method;Ljava/lang/String;Ljava/lang/String;IZ)V" } : Jvm.MethodName) prog_5_method_1_code (6 : Nat) (Option.none : Option Jvm.ClassFile.FieldType)).before a0 Z = true := hw _ (List.mem_of_getElem? (i := 10) rfl)
theorem own_d5_24 : decode prog_5_method_4_code 24 = .ok (.areturn, 1) := by decide +kernel
theorem own_d6_0 : decode prog_5_method_10_code 0 = .ok (.aload_n 0, 1) := by decide +kernel
theorem own_d6_1 : decode prog_5_method_10_code 1 = .ok (.getfield 39, 3) := by decide +kernel
theorem own_d6_4 : decode prog_5_method_10_code 4 = .ok (.areturn, 1) := by decide +kernel
theorem own_d7_0 : decode prog_5_method_11_code 0 = .ok (.aload_n 0, 1) := by decide +kernel
theorem own_d7_1 : decode prog_5_method_11_code 1 = .ok (.getfield 42, 3) := by decide +kernel
theorem own_d7_4 : decode prog_5_method_11_code 4 = .ok (.areturn, 1) := by decide +kernel
theorem own_d9_0 : decode prog_5_method_12_code 0 = .ok (.aload_n 0, 1) := by decide +kernel
theorem own_d9_1 : decode prog_5_method_12_code 1 = .ok (.getfield 46, 3) := by decide +kernel
theorem own_d9_4 : decode prog_5_method_12_code 4 = .ok (.areturn, 1) := by decide +kernel
theorem own_d10_0 : decode prog_5_method_13_code 0 = .ok (.aload_n 0, 1) := by decide +kernel
theorem own_d10_1 : decode prog_5_method_13_code 1 = .ok (.getfield 49, 3) := by decide +kernel
theorem own_d10_4 : decode prog_5_method_13_code 4 = .ok (.ireturn, 1) := by decide +kernel
theorem own_d11_0 : decode prog_5_method_14_code 0 = .ok (.aload_n 0, 1) := by decide +kernel
theorem own_d11_1 : decode prog_5_method_14_code 1 = .ok (.getfield 53, 3) := by decide +kernel
theorem own_d11_4 : decode prog_5_method_14_code 4 = .ok (.ireturn, 1) := by decide +kernel
theorem own_d8_0 : decode method_3_code 0 = .ok (.aload_n 0, 1) := by decide +kernel
theorem own_d8_1 : decode method_3_code 1 = .ok (.ifnonnull 13, 3) := by decide +kernel
theorem own_d8_4 : decode method_3_code 4 = .ok (.aload_n 1, 1) := by decide +kernel
theorem own_d8_5 : decode method_3_code 5 = .ok (.ifnonnull 7, 3) := by decide +kernel
theorem own_d8_8 : decode method_3_code 8 = .ok (.iconst 1, 1) := by decide +kernel
theorem own_d8_9 : decode method_3_code 9 = .ok (.goto 4, 3) := by decide +kernel
theorem own_d8_13 : decode method_3_code 13 = .ok (.ireturn, 1) := by decide +kernel
theorem own_d8_14 : decode method_3_code 14 = .ok (.aload_n 0, 1) := by decide +kernel
theorem own_d8_15 : decode method_3_code 15 = .ok (.aload_n 1, 1) := by decide +kernel
theorem own_w153 {a0 : Array Value} {Z : State} (hw : ∀ d ∈ tables_1, d.before a0 Z = true) : (Jvm.Cond.methodLink "com/example/slicewise/slicewise/plan/OptionsWithFilterPinLaw" (16 : Nat) ({ cls := "java/lang/String", name := "equals", desc := "(Ljava/lang/Object;)Z" } : Jvm.MethodName)).before a0 Z = true := hw _ (List.mem_of_getElem? (i := 153) rfl)
theorem own_pd12 : parseMethodDescriptor "(Ljava/lang/Object;)Z" = some ⟨[(.object "java/lang/Object")], some .boolean⟩ := by decide +kernel
theorem own_d8_16 : decode method_3_code 16 = .ok (.invokevirtual 16, 3) := by decide +kernel
theorem own_w156 {a0 : Array Value} {Z : State} (hw : ∀ d ∈ tables_1, d.before a0 Z = true) : (Jvm.Cond.selects "java/lang/String" ({ cls := "java/lang/String", name := "equals", desc := "(Ljava/lang/Object;)Z" } : Jvm.MethodName) ({ cls := "java/lang/String", name := "equals", desc := "(Ljava/lang/Object;)Z" } : Jvm.MethodName)).before a0 Z = true := hw _ (List.mem_of_getElem? (i := 156) rfl)
theorem own_w154 {a0 : Array Value} {Z : State} (hw : ∀ d ∈ tables_1, d.before a0 Z = true) : (Jvm.Cond.declares ({ cls := "java/lang/String", name := "equals", desc := "(Ljava/lang/Object;)Z" } : Jvm.MethodName)).before a0 Z = true := hw _ (List.mem_of_getElem? (i := 154) rfl)
theorem own_w155 {a0 : Array Value} {Z : State} (hw : ∀ d ∈ tables_1, d.before a0 Z = true) : (Jvm.Cond.instanceMethod ({ cls := "java/lang/String", name := "equals", desc := "(Ljava/lang/Object;)Z" } : Jvm.MethodName)).before a0 Z = true := hw _ (List.mem_of_getElem? (i := 155) rfl)
theorem own_w157 {a0 : Array Value} {Z : State} (hw : ∀ d ∈ tables_1, d.before a0 Z = true) : (Jvm.Cond.code ({ cls := "java/lang/String", name := "equals", desc := "(Ljava/lang/Object;)Z" } : Jvm.MethodName) jdk_42_method_66_code (3 : Nat) (Option.some Jvm.ClassFile.FieldType.boolean)).before a0 Z = true := hw _ (List.mem_of_getElem? (i := 157) rfl)
theorem own_d8_19 : decode method_3_code 19 = .ok (.ireturn, 1) := by decide +kernel
theorem own_w160 {a0 : Array Value} {Z : State} (hw : ∀ d ∈ tables_1, d.before a0 Z = true) : (Jvm.Cond.fieldLink "com/example/slicewise/slicewise/plan/OptionsWithFilterPinLaw" (20 : Nat) "com/example/slicewise/slicewise/plan/Method" "MOD" "Lcom/example/slicewise/slicewise/plan/Method;").before a0 Z = true := hw _ (List.mem_of_getElem? (i := 160) rfl)
theorem own_w0 {a0 : Array Value} {Z : State} (hw : ∀ d ∈ tables_1, d.before a0 Z = true) : (Jvm.Cond.methodLink "com/example/slicewise/slicewise/plan/OptionsWithFilterPinLaw" (32 : Nat) ({ cls := "com/example/slicewise/slicewise/plan/OptionsWithFilterPinLaw", name := "str", desc := "(II)Ljava/lang/String;" } : Jvm.MethodName)).before a0 Z = true := hw _ (List.mem_of_getElem? (i := 0) rfl)
theorem own_pd13 : parseMethodDescriptor "(II)Ljava/lang/String;" = some ⟨[.int, .int], some (.object "java/lang/String")⟩ := by decide +kernel
theorem own_w1 {a0 : Array Value} {Z : State} (hw : ∀ d ∈ tables_1, d.before a0 Z = true) : (Jvm.Cond.static ({ cls := "com/example/slicewise/slicewise/plan/OptionsWithFilterPinLaw", name := "str", desc := "(II)Ljava/lang/String;" } : Jvm.MethodName)).before a0 Z = true := hw _ (List.mem_of_getElem? (i := 1) rfl)
theorem own_w2 {a0 : Array Value} {Z : State} (hw : ∀ d ∈ tables_1, d.before a0 Z = true) : (Jvm.Cond.initialized "com/example/slicewise/slicewise/plan/OptionsWithFilterPinLaw").before a0 Z = true := hw _ (List.mem_of_getElem? (i := 2) rfl)
theorem own_w3 {a0 : Array Value} {Z : State} (hw : ∀ d ∈ tables_1, d.before a0 Z = true) : (Jvm.Cond.code ({ cls := "com/example/slicewise/slicewise/plan/OptionsWithFilterPinLaw", name := "str", desc := "(II)Ljava/lang/String;" } : Jvm.MethodName) method_2_code (5 : Nat) (Option.some (Jvm.ClassFile.FieldType.object "java/lang/String"))).before a0 Z = true := hw _ (List.mem_of_getElem? (i := 3) rfl)
theorem own_w158 {a0 : Array Value} {Z : State} (hw : ∀ d ∈ tables_1, d.before a0 Z = true) : (Jvm.Cond.fieldLink "com/example/slicewise/slicewise/plan/OptionsWithFilterPinLaw" (26 : Nat) "com/example/slicewise/slicewise/plan/Method" "PARTITIONS" "Lcom/example/slicewise/slicewise/plan/Method;").before a0 Z = true := hw _ (List.mem_of_getElem? (i := 158) rfl)
theorem own_w64 {a0 : Array Value} {Z : State} (hw : ∀ d ∈ tables_1, d.before a0 Z = true) : (Jvm.Cond.fieldLink "com/example/slicewise/slicewise/plan/OptionsWithFilterPinLaw" (29 : Nat) "com/example/slicewise/slicewise/plan/Method" "BLOCKS" "Lcom/example/slicewise/slicewise/plan/Method;").before a0 Z = true := hw _ (List.mem_of_getElem? (i := 64) rfl)
theorem own_w4 {a0 : Array Value} {Z : State} (hw : ∀ d ∈ tables_1, d.before a0 Z = true) : (Jvm.Cond.constant "com/example/slicewise/slicewise/plan/OptionsWithFilterPinLaw" (38 : Nat) (2147483647 : Int32)).before a0 Z = true := hw _ (List.mem_of_getElem? (i := 4) rfl)
theorem own_w5 {a0 : Array Value} {Z : State} (hw : ∀ d ∈ tables_1, d.before a0 Z = true) : (Jvm.Cond.classLink "com/example/slicewise/slicewise/plan/OptionsWithFilterPinLaw" (39 : Nat) "com/example/slicewise/slicewise/plan/Options").before a0 Z = true := hw _ (List.mem_of_getElem? (i := 5) rfl)
theorem own_w8 {a0 : Array Value} {Z : State} (hw : ∀ d ∈ tables_1, d.before a0 Z = true) : (Jvm.Cond.methodLink "com/example/slicewise/slicewise/plan/OptionsWithFilterPinLaw" (41 : Nat) ({ cls := "com/example/slicewise/slicewise/plan/Options", name := "<init>", desc := "(Lcom/example/slicewise/slicewise/plan/Method;Ljava/lang/String;Ljava/lang/String;IZ)V" } : Jvm.MethodName)).before a0 Z = true := hw _ (List.mem_of_getElem? (i := 8) rfl)
theorem own_w29 {a0 : Array Value} {Z : State} (hw : ∀ d ∈ tables_1, d.before a0 Z = true) : (Jvm.Cond.methodLink "com/example/slicewise/slicewise/plan/OptionsWithFilterPinLaw" (44 : Nat) ({ cls := "com/example/slicewise/slicewise/plan/Options", name := "withFilter", desc := "(Ljava/lang/String;)Lcom/example/slicewise/slicewise/plan/Options;" } : Jvm.MethodName)).before a0 Z = true := hw _ (List.mem_of_getElem? (i := 29) rfl)
theorem own_pd14 : parseMethodDescriptor "(Ljava/lang/String;)Lcom/example/slicewise/slicewise/plan/Options;" = some ⟨[(.object "java/lang/String")], some (.object "com/example/slicewise/slicewise/plan/Options")⟩ := by decide +kernel
theorem own_w32 {a0 : Array Value} {Z : State} (hw : ∀ d ∈ tables_1, d.before a0 Z = true) : (Jvm.Cond.selects "com/example/slicewise/slicewise/plan/Options" ({ cls := "com/example/slicewise/slicewise/plan/Options", name := "withFilter", desc := "(Ljava/lang/String;)Lcom/example/slicewise/slicewise/plan/Options;" } : Jvm.MethodName) ({ cls := "com/example/slicewise/slicewise/plan/Options", name := "withFilter", desc := "(Ljava/lang/String;)Lcom/example/slicewise/slicewise/plan/Options;" } : Jvm.MethodName)).before a0 Z = true := hw _ (List.mem_of_getElem? (i := 32) rfl)
theorem own_w30 {a0 : Array Value} {Z : State} (hw : ∀ d ∈ tables_1, d.before a0 Z = true) : (Jvm.Cond.declares ({ cls := "com/example/slicewise/slicewise/plan/Options", name := "withFilter", desc := "(Ljava/lang/String;)Lcom/example/slicewise/slicewise/plan/Options;" } : Jvm.MethodName)).before a0 Z = true := hw _ (List.mem_of_getElem? (i := 30) rfl)
theorem own_w31 {a0 : Array Value} {Z : State} (hw : ∀ d ∈ tables_1, d.before a0 Z = true) : (Jvm.Cond.instanceMethod ({ cls := "com/example/slicewise/slicewise/plan/Options", name := "withFilter", desc := "(Ljava/lang/String;)Lcom/example/slicewise/slicewise/plan/Options;" } : Jvm.MethodName)).before a0 Z = true := hw _ (List.mem_of_getElem? (i := 31) rfl)
theorem own_w33 {a0 : Array Value} {Z : State} (hw : ∀ d ∈ tables_1, d.before a0 Z = true) : (Jvm.Cond.code ({ cls := "com/example/slicewise/slicewise/plan/Options", name := "withFilter", desc := "(Ljava/lang/String;)Lcom/example/slicewise/slicewise/plan/Options;" } : Jvm.MethodName) prog_5_method_4_code (2 : Nat) (Option.some (Jvm.ClassFile.FieldType.object "com/example/slicewise/slicewise/plan/Options"))).before a0 Z = true := hw _ (List.mem_of_getElem? (i := 33) rfl)
theorem own_w36 {a0 : Array Value} {Z : State} (hw : ∀ d ∈ tables_1, d.before a0 Z = true) : (Jvm.Cond.methodLink "com/example/slicewise/slicewise/plan/OptionsWithFilterPinLaw" (48 : Nat) ({ cls := "com/example/slicewise/slicewise/plan/Options", name := "method", desc := "()Lcom/example/slicewise/slicewise/plan/Method;" } : Jvm.MethodName)).before a0 Z = true := hw _ (List.mem_of_getElem? (i := 36) rfl)
theorem own_pd15 : parseMethodDescriptor "()Lcom/example/slicewise/slicewise/plan/Method;" = some ⟨[], some (.object "com/example/slicewise/slicewise/plan/Method")⟩ := by decide +kernel
theorem own_w39 {a0 : Array Value} {Z : State} (hw : ∀ d ∈ tables_1, d.before a0 Z = true) : (Jvm.Cond.selects "com/example/slicewise/slicewise/plan/Options" ({ cls := "com/example/slicewise/slicewise/plan/Options", name := "method", desc := "()Lcom/example/slicewise/slicewise/plan/Method;" } : Jvm.MethodName) ({ cls := "com/example/slicewise/slicewise/plan/Options", name := "method", desc := "()Lcom/example/slicewise/slicewise/plan/Method;" } : Jvm.MethodName)).before a0 Z = true := hw _ (List.mem_of_getElem? (i := 39) rfl)
theorem own_w37 {a0 : Array Value} {Z : State} (hw : ∀ d ∈ tables_1, d.before a0 Z = true) : (Jvm.Cond.declares ({ cls := "com/example/slicewise/slicewise/plan/Options", name := "method", desc := "()Lcom/example/slicewise/slicewise/plan/Method;" } : Jvm.MethodName)).before a0 Z = true := hw _ (List.mem_of_getElem? (i := 37) rfl)
theorem own_w38 {a0 : Array Value} {Z : State} (hw : ∀ d ∈ tables_1, d.before a0 Z = true) : (Jvm.Cond.instanceMethod ({ cls := "com/example/slicewise/slicewise/plan/Options", name := "method", desc := "()Lcom/example/slicewise/slicewise/plan/Method;" } : Jvm.MethodName)).before a0 Z = true := hw _ (List.mem_of_getElem? (i := 38) rfl)
theorem own_w40 {a0 : Array Value} {Z : State} (hw : ∀ d ∈ tables_1, d.before a0 Z = true) : (Jvm.Cond.code ({ cls := "com/example/slicewise/slicewise/plan/Options", name := "method", desc := "()Lcom/example/slicewise/slicewise/plan/Method;" } : Jvm.MethodName) prog_5_method_10_code (1 : Nat) (Option.some (Jvm.ClassFile.FieldType.object "com/example/slicewise/slicewise/plan/Method"))).before a0 Z = true := hw _ (List.mem_of_getElem? (i := 40) rfl)
theorem own_w41 {a0 : Array Value} {Z : State} (hw : ∀ d ∈ tables_1, d.before a0 Z = true) : (Jvm.Cond.methodLink "com/example/slicewise/slicewise/plan/OptionsWithFilterPinLaw" (52 : Nat) ({ cls := "com/example/slicewise/slicewise/plan/Options", name := "splitColumn", desc := "()Ljava/lang/String;" } : Jvm.MethodName)).before a0 Z = true := hw _ (List.mem_of_getElem? (i := 41) rfl)
theorem own_pd16 : parseMethodDescriptor "()Ljava/lang/String;" = some ⟨[], some (.object "java/lang/String")⟩ := by decide +kernel
theorem own_w44 {a0 : Array Value} {Z : State} (hw : ∀ d ∈ tables_1, d.before a0 Z = true) : (Jvm.Cond.selects "com/example/slicewise/slicewise/plan/Options" ({ cls := "com/example/slicewise/slicewise/plan/Options", name := "splitColumn", desc := "()Ljava/lang/String;" } : Jvm.MethodName) ({ cls := "com/example/slicewise/slicewise/plan/Options", name := "splitColumn", desc := "()Ljava/lang/String;" } : Jvm.MethodName)).before a0 Z = true := hw _ (List.mem_of_getElem? (i := 44) rfl)
theorem own_w42 {a0 : Array Value} {Z : State} (hw : ∀ d ∈ tables_1, d.before a0 Z = true) : (Jvm.Cond.declares ({ cls := "com/example/slicewise/slicewise/plan/Options", name := "splitColumn", desc := "()Ljava/lang/String;" } : Jvm.MethodName)).before a0 Z = true := hw _ (List.mem_of_getElem? (i := 42) rfl)
theorem own_w43 {a0 : Array Value} {Z : State} (hw : ∀ d ∈ tables_1, d.before a0 Z = true) : (Jvm.Cond.instanceMethod ({ cls := "com/example/slicewise/slicewise/plan/Options", name := "splitColumn", desc := "()Ljava/lang/String;" } : Jvm.MethodName)).before a0 Z = true := hw _ (List.mem_of_getElem? (i := 43) rfl)
theorem own_w45 {a0 : Array Value} {Z : State} (hw : ∀ d ∈ tables_1, d.before a0 Z = true) : (Jvm.Cond.code ({ cls := "com/example/slicewise/slicewise/plan/Options", name := "splitColumn", desc := "()Ljava/lang/String;" } : Jvm.MethodName) prog_5_method_11_code (1 : Nat) (Option.some (Jvm.ClassFile.FieldType.object "java/lang/String"))).before a0 Z = true := hw _ (List.mem_of_getElem? (i := 45) rfl)
theorem own_w46 {a0 : Array Value} {Z : State} (hw : ∀ d ∈ tables_1, d.before a0 Z = true) : (Jvm.Cond.methodLink "com/example/slicewise/slicewise/plan/OptionsWithFilterPinLaw" (56 : Nat) ({ cls := "com/example/slicewise/slicewise/plan/OptionsWithFilterPinLaw", name := "same", desc := "(Ljava/lang/String;Ljava/lang/String;)Z" } : Jvm.MethodName)).before a0 Z = true := hw _ (List.mem_of_getElem? (i := 46) rfl)
theorem own_pd17 : parseMethodDescriptor "(Ljava/lang/String;Ljava/lang/String;)Z" = some ⟨[(.object "java/lang/String"), (.object "java/lang/String")], some .boolean⟩ := by decide +kernel
theorem own_w47 {a0 : Array Value} {Z : State} (hw : ∀ d ∈ tables_1, d.before a0 Z = true) : (Jvm.Cond.static ({ cls := "com/example/slicewise/slicewise/plan/OptionsWithFilterPinLaw", name := "same", desc := "(Ljava/lang/String;Ljava/lang/String;)Z" } : Jvm.MethodName)).before a0 Z = true := hw _ (List.mem_of_getElem? (i := 47) rfl)
theorem own_w48 {a0 : Array Value} {Z : State} (hw : ∀ d ∈ tables_1, d.before a0 Z = true) : (Jvm.Cond.code ({ cls := "com/example/slicewise/slicewise/plan/OptionsWithFilterPinLaw", name := "same", desc := "(Ljava/lang/String;Ljava/lang/String;)Z" } : Jvm.MethodName) method_3_code (2 : Nat) (Option.some Jvm.ClassFile.FieldType.boolean)).before a0 Z = true := hw _ (List.mem_of_getElem? (i := 48) rfl)
theorem own_w49 {a0 : Array Value} {Z : State} (hw : ∀ d ∈ tables_1, d.before a0 Z = true) : (Jvm.Cond.methodLink "com/example/slicewise/slicewise/plan/OptionsWithFilterPinLaw" (60 : Nat) ({ cls := "com/example/slicewise/slicewise/plan/Options", name := "filter", desc := "()Ljava/lang/String;" } : Jvm.MethodName)).before a0 Z = true := hw _ (List.mem_of_getElem? (i := 49) rfl)
theorem own_w52 {a0 : Array Value} {Z : State} (hw : ∀ d ∈ tables_1, d.before a0 Z = true) : (Jvm.Cond.selects "com/example/slicewise/slicewise/plan/Options" ({ cls := "com/example/slicewise/slicewise/plan/Options", name := "filter", desc := "()Ljava/lang/String;" } : Jvm.MethodName) ({ cls := "com/example/slicewise/slicewise/plan/Options", name := "filter", desc := "()Ljava/lang/String;" } : Jvm.MethodName)).before a0 Z = true := hw _ (List.mem_of_getElem? (i := 52) rfl)
theorem own_w50 {a0 : Array Value} {Z : State} (hw : ∀ d ∈ tables_1, d.before a0 Z = true) : (Jvm.Cond.declares ({ cls := "com/example/slicewise/slicewise/plan/Options", name := "filter", desc := "()Ljava/lang/String;" } : Jvm.MethodName)).before a0 Z = true := hw _ (List.mem_of_getElem? (i := 50) rfl)
theorem own_w51 {a0 : Array Value} {Z : State} (hw : ∀ d ∈ tables_1, d.before a0 Z = true) : (Jvm.Cond.instanceMethod ({ cls := "com/example/slicewise/slicewise/plan/Options", name := "filter", desc := "()Ljava/lang/String;" } : Jvm.MethodName)).before a0 Z = true := hw _ (List.mem_of_getElem? (i := 51) rfl)
theorem own_w53 {a0 : Array Value} {Z : State} (hw : ∀ d ∈ tables_1, d.before a0 Z = true) : (Jvm.Cond.code ({ cls := "com/example/slicewise/slicewise/plan/Options", name := "filter", desc := "()Ljava/lang/String;" } : Jvm.MethodName) prog_5_method_12_code (1 : Nat) (Option.some (Jvm.ClassFile.FieldType.object "java/lang/String"))).before a0 Z = true := hw _ (List.mem_of_getElem? (i := 53) rfl)
theorem own_w54 {a0 : Array Value} {Z : State} (hw : ∀ d ∈ tables_1, d.before a0 Z = true) : (Jvm.Cond.methodLink "com/example/slicewise/slicewise/plan/OptionsWithFilterPinLaw" (63 : Nat) ({ cls := "com/example/slicewise/slicewise/plan/Options", name := "threads", desc := "()I" } : Jvm.MethodName)).before a0 Z = true := hw _ (List.mem_of_getElem? (i := 54) rfl)
theorem own_w57 {a0 : Array Value} {Z : State} (hw : ∀ d ∈ tables_1, d.before a0 Z = true) : (Jvm.Cond.selects "com/example/slicewise/slicewise/plan/Options" ({ cls := "com/example/slicewise/slicewise/plan/Options", name := "threads", desc := "()I" } : Jvm.MethodName) ({ cls := "com/example/slicewise/slicewise/plan/Options", name := "threads", desc := "()I" } : Jvm.MethodName)).before a0 Z = true := hw _ (List.mem_of_getElem? (i := 57) rfl)
theorem own_w55 {a0 : Array Value} {Z : State} (hw : ∀ d ∈ tables_1, d.before a0 Z = true) : (Jvm.Cond.declares ({ cls := "com/example/slicewise/slicewise/plan/Options", name := "threads", desc := "()I" } : Jvm.MethodName)).before a0 Z = true := hw _ (List.mem_of_getElem? (i := 55) rfl)
theorem own_w56 {a0 : Array Value} {Z : State} (hw : ∀ d ∈ tables_1, d.before a0 Z = true) : (Jvm.Cond.instanceMethod ({ cls := "com/example/slicewise/slicewise/plan/Options", name := "threads", desc := "()I" } : Jvm.MethodName)).before a0 Z = true := hw _ (List.mem_of_getElem? (i := 56) rfl)
theorem own_w58 {a0 : Array Value} {Z : State} (hw : ∀ d ∈ tables_1, d.before a0 Z = true) : (Jvm.Cond.code ({ cls := "com/example/slicewise/slicewise/plan/Options", name := "threads", desc := "()I" } : Jvm.MethodName) prog_5_method_13_code (1 : Nat) (Option.some Jvm.ClassFile.FieldType.int)).before a0 Z = true := hw _ (List.mem_of_getElem? (i := 58) rfl)
theorem own_w59 {a0 : Array Value} {Z : State} (hw : ∀ d ∈ tables_1, d.before a0 Z = true) : (Jvm.Cond.methodLink "com/example/slicewise/slicewise/plan/OptionsWithFilterPinLaw" (67 : Nat) ({ cls := "com/example/slicewise/slicewise/plan/Options", name := "oneConnectionPerThread", desc := "()Z" } : Jvm.MethodName)).before a0 Z = true := hw _ (List.mem_of_getElem? (i := 59) rfl)
theorem own_w62 {a0 : Array Value} {Z : State} (hw : ∀ d ∈ tables_1, d.before a0 Z = true) : (Jvm.Cond.selects "com/example/slicewise/slicewise/plan/Options" ({ cls := "com/example/slicewise/slicewise/plan/Options", name := "oneConnectionPerThread", desc := "()Z" } : Jvm.MethodName) ({ cls := "com/example/slicewise/slicewise/plan/Options", name := "oneConnectionPerThread", desc := "()Z" } : Jvm.MethodName)).before a0 Z = true := hw _ (List.mem_of_getElem? (i := 62) rfl)
theorem own_w60 {a0 : Array Value} {Z : State} (hw : ∀ d ∈ tables_1, d.before a0 Z = true) : (Jvm.Cond.declares ({ cls := "com/example/slicewise/slicewise/plan/Options", name := "oneConnectionPerThread", desc := "()Z" } : Jvm.MethodName)).before a0 Z = true := hw _ (List.mem_of_getElem? (i := 60) rfl)
theorem own_w61 {a0 : Array Value} {Z : State} (hw : ∀ d ∈ tables_1, d.before a0 Z = true) : (Jvm.Cond.instanceMethod ({ cls := "com/example/slicewise/slicewise/plan/Options", name := "oneConnectionPerThread", desc := "()Z" } : Jvm.MethodName)).before a0 Z = true := hw _ (List.mem_of_getElem? (i := 61) rfl)
theorem own_w63 {a0 : Array Value} {Z : State} (hw : ∀ d ∈ tables_1, d.before a0 Z = true) : (Jvm.Cond.code ({ cls := "com/example/slicewise/slicewise/plan/Options", name := "oneConnectionPerThread", desc := "()Z" } : Jvm.MethodName) prog_5_method_14_code (1 : Nat) (Option.some Jvm.ClassFile.FieldType.boolean)).before a0 Z = true := hw _ (List.mem_of_getElem? (i := 63) rfl)
theorem own_w65 {a0 : Array Value} {Z : State} (hw : ∀ d ∈ tables_1, d.before a0 Z = true) : (Jvm.Cond.initialized "com/example/slicewise/slicewise/plan/Method").before a0 Z = true := hw _ (List.mem_of_getElem? (i := 65) rfl)
theorem own_w66 {a0 : Array Value} {Z : State} (hw : ∀ d ∈ tables_1, d.before a0 Z = true) : (Jvm.Cond.laysStatic "com/example/slicewise/slicewise/plan/Method" "BLOCKS" "Lcom/example/slicewise/slicewise/plan/Method;").before a0 Z = true := hw _ (List.mem_of_getElem? (i := 66) rfl)
theorem own_w159 {a0 : Array Value} {Z : State} (hw : ∀ d ∈ tables_1, d.before a0 Z = true) : (Jvm.Cond.laysStatic "com/example/slicewise/slicewise/plan/Method" "PARTITIONS" "Lcom/example/slicewise/slicewise/plan/Method;").before a0 Z = true := hw _ (List.mem_of_getElem? (i := 159) rfl)
theorem own_w161 {a0 : Array Value} {Z : State} (hw : ∀ d ∈ tables_1, d.before a0 Z = true) : (Jvm.Cond.laysStatic "com/example/slicewise/slicewise/plan/Method" "MOD" "Lcom/example/slicewise/slicewise/plan/Method;").before a0 Z = true := hw _ (List.mem_of_getElem? (i := 161) rfl)
set_option maxRecDepth 65536 in
set_option maxHeartbeats 4000000 in
theorem rm_eqsame (l : Launch) (Z : State) (a0 : Array Value) (hw : ∀ d ∈ tables_1, d.before a0 Z = true) (a : Addr) (h : Heap) (n0 : Nat) (Ds : List Addr) :
    Ctr l Z (⟨"java/lang/String", "equals", "(Ljava/lang/Object;)Z"⟩ : MethodName) jdk_42_method_66_code 3 (some .boolean) [] ({ frames := 0, cells := 0, slots := 0, locals := 0 } : Room) #[.ref a, .ref a] h n0 Ds (fun v h' Ds' => v = some (.int 1) ∧ h = h' ∧ Ds = Ds') := by
  refine ctr_of (Ls := #[.val (.ref a), .val (.ref a), .unset]) (plainFor_of_name own_pn0) (fun m => by first | (simp [entryFrame, mkF, argsToLocals, Value.category]; done) | rfl) ?_
  intro C hl hret hnm R
  subst hl
  replace R := R.aloadN (pc' := 1) (v := (.ref a)) own_d30_0 rfl rfl rfl
  replace R := R.aloadN (pc' := 2) (v := (.ref a)) own_d30_1 rfl rfl rfl
  replace R := R.acmp (pc' := 5) (same := true) own_d30_2 rfl rfl (decide_eq_true rfl) (by decide) (by decide)
  replace R := R.iconst (pc' := 6) (z := (1 : Int32)) own_d30_5 rfl rfl
  exact R.retN (Ds' := Ds) hret (by simp) (show nar .boolean (1 : Int32) = (1 : Int32) from rfl) own_d30_6 (by decide) (by decide) (fun _ q => q) ⟨rfl, rfl, rfl⟩
def s_canEncode (p0 : Int32) : Int32 := if (255 : Int32) < p0 then (0 : Int32) else (1 : Int32)
theorem s_canEncode_nar (p0 : Int32) : nar .boolean (s_canEncode p0) = (s_canEncode p0) := by
  unfold s_canEncode; (repeat' split) <;> rfl
theorem rm_canEncode (l : Launch) (Z : State) (a0 : Array Value) (hw : ∀ d ∈ tables_1, d.before a0 Z = true) (p0 : Int32) (h : Heap) (n0 : Nat) (Ds : List Addr) :
    Ctr l Z (⟨"java/lang/StringLatin1", "canEncode", "(C)Z"⟩ : MethodName) jdk_43_method_3_code 1 (some .boolean) [] ({ frames := 0, cells := 0, slots := 0, locals := 0 } : Room) #[(.int p0)] h n0 Ds (fun v h' Ds' => v = some (.int (s_canEncode p0)) ∧ h = h' ∧ Ds = Ds') := by
  refine ctr_of (Ls := #[.val (.int p0)]) (plainFor_of_name own_pn1) (fun m => by first | (simp [entryFrame, mkF, argsToLocals, Value.category]; done) | rfl) ?_
  intro C hl hret hnm R
  subst hl
  replace R := R.iloadN (pc' := 1) (v := p0) own_d18_0 rfl rfl
  replace R := R.sipush (pc' := 4) (z := (255 : Int32)) own_d18_1 rfl rfl
  by_cases hc1 : (255 : Int32) < p0
  · replace R := R.icmpY (pc' := 11) own_d18_4 (tlt hc1).2.2.1 (by decide) rfl
    replace R := R.iconst (pc' := 12) (z := (0 : Int32)) own_d18_11 rfl rfl
    have hv : (0 : Int32) = (s_canEncode p0) := by unfold s_canEncode; rw [if_pos hc1]
    exact R.retN (Ds' := Ds) hret (by simp) ((congrArg (nar .boolean) hv).trans (s_canEncode_nar p0)) own_d18_12 (by decide) (by decide) (fun _ q => q) ⟨rfl, rfl, rfl⟩
  · replace R := R.icmpN (pc' := 7) own_d18_4 (flt hc1).2.2.1 rfl
    replace R := R.iconst (pc' := 8) (z := (1 : Int32)) own_d18_7 rfl rfl
    replace R := R.goto (pc' := 12) own_d18_8 (by decide) rfl
    have hv : (1 : Int32) = (s_canEncode p0) := by unfold s_canEncode; rw [if_neg hc1]
    exact R.retN (Ds' := Ds) hret (by simp) ((congrArg (nar .boolean) hv).trans (s_canEncode_nar p0)) own_d18_12 (by decide) (by decide) (fun _ q => q) ⟨rfl, rfl, rfl⟩
set_option maxRecDepth 65536 in
set_option maxHeartbeats 4000000 in
theorem rm_toBytes (l : Launch) (Z : State) (a0 : Array Value) (hw : ∀ d ∈ tables_1, d.before a0 Z = true) (p0 : Int32) (h : Heap) (n0 : Nat) (Ds : List Addr) :
    Ctr l Z (⟨"java/lang/StringLatin1", "toBytes", "(C)[B"⟩ : MethodName) jdk_43_method_46_code 1 (some (.array .byte)) [] ({ frames := 0, cells := 1, slots := 1, locals := 0 } : Room) #[.int p0] h n0 Ds (fun v h' Ds' => ∃ (r : Addr) (kA : ClassId), v = some (.ref r) ∧ Keep h h' [] ∧ Arv Z h' r kA .byte (1 : Int32) [.int p0.toInt8.toInt32] (.int 0) ∧ Ds = Ds') := by
  refine ctr_of (Ls := #[.val (.int p0)]) (plainFor_of_name own_pn1) (fun m => by first | (simp [entryFrame, mkF, argsToLocals, Value.category]; done) | rfl) ?_
  intro C hl hret hnm R
  subst hl
  replace R := R.iconst (pc' := 1) (z := (1 : Int32)) own_d19_0 rfl rfl
  obtain ⟨h1, b1, k1, g1, E1, V1, R⟩ := R.newP (pc' := 3) (aty := .byte) (cap := 1) (own_w84 hw) own_d19_1 (by decide) (by decide) (by decide) (by decide) (by decide) rfl
  have V1p : Arv Z h1 b1 k1 .byte (1 : Int32) [(.int (0 : Int32))] (.int (0 : Int32)) := V1.pad (pad_rep [] (.int (0 : Int32)) 1)
  replace R := R.dup (pc' := 4) own_d19_3 rfl rfl
  replace R := R.iconst (pc' := 5) (z := (0 : Int32)) own_d19_4 rfl rfl
  replace R := R.iloadN (pc' := 6) (v := p0) own_d19_5 rfl rfl
  replace R := R.i2b (pc' := 7) own_d19_6 rfl
  obtain ⟨h2, K2, V2, R⟩ := R.bastore (pc' := 8) V1p ⟨by decide, by decide⟩ 0 rfl (Nat.le_of_ble_eq_true rfl) (List.mem_of_getElem? (i := 0) rfl) own_d19_7 rfl
  have V2p : Arv Z h2 b1 k1 .byte (1 : Int32) [(.int p0.toInt8.toInt32)] (.int (0 : Int32)) := by
    have q := V2
    rw [nar_i2b p0] at q
    exact q
  have hK := (((Keep.refl h []).trans ((Keep.refl h []).ext E1) all0).trans K2 (allS (Or.inr (by rw [g1]; exact (Nat.le_refl _))) all0))
  exact R.retA (Ds' := Ds) hret rfl rfl rfl own_d19_8 (by decide) (by decide) (fun _ q => (fun q => (List.mem_cons_of_mem _ q)) q) ⟨b1, _, rfl, hK, V2p, rfl⟩
set_option maxRecDepth 65536 in
set_option maxHeartbeats 4000000 in
theorem rm_initB (l : Launch) (Z : State) (a0 : Array Value) (hw : ∀ d ∈ tables_1, d.before a0 Z = true) (a b : Addr) (h : Heap) (n0 : Nat) (Ds : List Addr) (ha : a ∈ Ds) {u1 u2 : Value} (E_a : Exa Z h a "java/lang/String") (F_v : Fld Z h a "java/lang/String" "value" "[B" u1) (F_c : Fld Z h a "java/lang/String" "coder" "B" u2) :
    Ctr l Z (⟨"java/lang/String", "<init>", "([BB)V"⟩ : MethodName) jdk_42_method_151_code 3 none [] ({ frames := 1, cells := 0, slots := 0, locals := 12 } : Room) #[.ref a, .ref b, .int (0 : Int32)] h n0 Ds (fun v h' Ds' => v = none ∧ Ds = Ds' ∧ Keep h h' [a] ∧ Exa Z h' a "java/lang/String" ∧ Fld Z h' a "java/lang/String" "value" "[B" (.ref b) ∧ Fld Z h' a "java/lang/String" "coder" "B" (.int (0 : Int32))) := by
  refine ctr_of (Ls := #[.val (.ref a), .val (.ref b), .val (.int (0 : Int32))]) (plainFor_of_name own_pn0) (fun m => by first | (simp [entryFrame, mkF, argsToLocals, Value.category]; done) | rfl) ?_
  intro C hl hret hnm R
  subst hl
  replace R := R.aloadN (pc' := 1) (v := (.ref a)) own_d20_0 rfl rfl rfl
  replace R := R.initO (pc' := 4) (W := 0) (own_w78 hw) (own_w17 hw) (own_w18 hw) rfl own_d20_1 (by decide) rfl (by decide) rfl
  replace R := R.aloadN (pc' := 5) (v := (.ref a)) own_d20_4 rfl rfl rfl
  replace R := R.aloadN (pc' := 6) (v := (.ref b)) own_d20_5 rfl rfl rfl
  obtain ⟨h1, W1, R⟩ := R.putF (pc' := 9) (ty := (.array .byte)) (host := "") (Or.inl (own_w93 hw)) Via.refl F_v E_a (Or.inr ⟨(own_w94 hw), rfl, hnm⟩) (own_w69 hw) (by decide) rfl rfl ha own_d20_6 rfl
  have F1 := F_v.same W1
  have F2 := F_c.other W1 (Or.inr (slot_ne (Or.inr (own_w92 hw)) (Or.inr (own_w94 hw)) (by decide) (t := .byte) (t' := (.array .byte)) (by decide) (by decide)))
  replace R := R.aloadN (pc' := 10) (v := (.ref a)) own_d20_9 rfl rfl rfl
  replace R := R.iloadN (pc' := 11) (v := (0 : Int32)) own_d20_10 rfl rfl
  have K3 := ((Keep.refl h [a]).trans (Keep.of_wr W1) (allS (Or.inl (List.mem_of_getElem? (i := 0) rfl)) all0))
  have F4 := E_a.keep K3
  obtain ⟨h5, W5, R⟩ := R.putFN (pc' := 14) (ty := .byte) (v' := (.int (0 : Int32))) (own_w91 hw) Via.refl F2 F4 (Or.inr ⟨(own_w92 hw), rfl, hnm⟩) (own_w69 hw) (by decide) (rfl) (rfl) ha own_d20_11 rfl
  have F5 := F2.same W5
  have F6 := F1.other W5 (Or.inr (slot_ne (Or.inr (own_w94 hw)) (Or.inr (own_w92 hw)) (by decide) (t := (.array .byte)) (t' := .byte) (by decide) (by decide)))
  have hK := (((Keep.refl h [a]).trans (Keep.of_wr W1) (allS (Or.inl (List.mem_of_getElem? (i := 0) rfl)) all0)).trans (Keep.of_wr W5) (allS (Or.inl (List.mem_of_getElem? (i := 0) rfl)) all0))
  have K7 := ((Keep.refl h1 [a]).trans (Keep.of_wr W5) (allS (Or.inl (List.mem_of_getElem? (i := 0) rfl)) all0))
  have F8 := F4.keep K7
  exact R.retV (Ds' := Ds) hret own_d20_14 (by decide) (by decide) (fun _ q => q) ⟨rfl, rfl, hK, F8, F6, F5⟩
set_option maxRecDepth 65536 in
set_option maxHeartbeats 4000000 in
theorem rm_valueOf (l : Launch) (Z : State) (a0 : Array Value) (hw : ∀ d ∈ tables_1, d.before a0 Z = true) (p0 : Int32) (h : Heap) (n0 : Nat) (Ds : List Addr) (own_cs : CompactOn Z) (hb : ¬ p0 < 0 ∧ ¬ (255 : Int32) < p0) :
    Ctr l Z (⟨"java/lang/String", "valueOf", "(C)Ljava/lang/String;"⟩ : MethodName) jdk_42_method_139_code 1 (some (.object "java/lang/String")) [] ({ frames := 2, cells := 2, slots := 5, locals := 27 } : Room) #[.int p0] h n0 Ds (fun v h' Ds' => ∃ r : Addr, v = some (.ref r) ∧ IsStr Z h' r [p0] ∧ Keep h h' [] ∧ Ds = Ds') := by
  refine ctr_of (Ls := #[.val (.int p0)]) (plainFor_of_name own_pn0) (fun m => by first | (simp [entryFrame, mkF, argsToLocals, Value.category]; done) | rfl) ?_
  intro C hl hret hnm R
  subst hl
  obtain ⟨zc, S_zc, hzc⟩ := id own_cs
  replace R := R.getS (pc' := 3) (host := "") (Or.inl (own_w79 hw)) Via.refl S_zc own_d17_0 rfl
  replace R := R.ifN (pc' := 6) own_d17_3 (feq hzc).1 rfl
  replace R := R.iloadN (pc' := 7) (v := p0) own_d17_6 rfl rfl
  obtain ⟨_, _, _, ⟨rfl, rfl, rfl⟩, R⟩ := R.callS (pc' := 10) (argsL := [(.int p0)]) (rest := []) (W := 0) (own_w98 hw) (own_w99 hw) (own_w100 hw) (own_w101 hw) (by decide) (rm_canEncode C.l Z a0 hw p0 h n0 Ds) rfl (lenOf own_pd0 rfl) rfl rfl own_d17_7 (by decide) (by decide) (by decide) (by decide) rfl
  replace R := R.mono (ce' := 0) (sl' := 0) (by decide) (by decide)
  replace R := R.stk (S' := [(.int (s_canEncode p0))]) rfl
  replace R := R.ifN (pc' := 13) own_d17_10 (feq (by unfold s_canEncode; rw [if_neg hb.2]; decide)).1 rfl
  obtain ⟨h1, b1, g1, E1, X1, D1, R⟩ := R.newO (pc' := 16) (own_w102 hw) (own_w69 hw) (own_w70 hw) own_d17_13 (by decide) (by decide) rfl
  have F1_coder : Fld Z h1 b1 "java/lang/String" "coder" "B" (.int (0 : Int32)) := D1 (Or.inr (own_w92 hw)) (ty := .byte) (by decide)
  have F1_value : Fld Z h1 b1 "java/lang/String" "value" "[B" .null := D1 (Or.inr (own_w94 hw)) (ty := (.array .byte)) (by decide)
  replace R := R.dup (pc' := 17) own_d17_16 rfl rfl
  replace R := R.iloadN (pc' := 18) (v := p0) own_d17_17 rfl rfl
  obtain ⟨_, h2, _, ⟨r2, k2, rfl, K2, V2, rfl⟩, R⟩ := R.callS (pc' := 21) (argsL := [(.int p0)]) (rest := [(.ref b1), (.ref b1)]) (W := 2) (own_w103 hw) (own_w104 hw) (own_w100 hw) (own_w105 hw) (by decide) (rm_toBytes C.l Z a0 hw p0 h1 n0 (b1 :: Ds)) rfl (lenOf own_pd1 rfl) rfl rfl own_d17_18 (by decide) (by decide) (by decide) (by decide) rfl
  replace R := R.mono (ce' := 2) (sl' := 5) (by decide) (by decide)
  replace R := R.stk (S' := [(.ref r2), (.ref b1), (.ref b1)]) rfl
  replace R := R.iconst (pc' := 22) (z := (0 : Int32)) own_d17_21 rfl rfl
  have K3 := ((Keep.refl h1 []).trans K2 all0)
  have F4 := X1.keep K3
  have nxb : r2 ≠ b1 := Ne.symm (Exa.neArv F4 V2 (own_w69 hw))
  have K6 := ((Keep.refl h1 []).trans K2 all0)
  have F7 := F1_value.keep K6 nin0
  have K8 := ((Keep.refl h1 []).trans K2 all0)
  have F9 := F1_coder.keep K8 nin0
  obtain ⟨_, h5, _, ⟨rfl, rfl, K5, X5, F5v, F5c⟩, R⟩ := R.callI (pc' := 25) (a := b1) (argsL := [(.ref r2), (.int (0 : Int32))]) (rest := [(.ref b1)]) (W := 1) rfl (own_w106 hw) (own_w107 hw) (own_w70 hw) (own_w108 hw) (by decide) (rm_initB C.l Z a0 hw b1 r2 h2 n0 (b1 :: Ds) (List.mem_of_getElem? (i := 0) rfl) F4 F7 F9) rfl (lenOf own_pd2 rfl) rfl rfl own_d17_22 (by decide) (by decide) (by decide) (by decide) rfl
  replace R := R.mono (ce' := 2) (sl' := 5) (by decide) (by decide)
  replace R := R.stk (S' := [(.ref b1)]) rfl
  have hK := ((((Keep.refl h []).trans ((Keep.refl h []).ext E1) all0).trans K2 all0).trans K5 (allS (Or.inr (by rw [g1]; exact (Nat.le_refl _))) all0))
  have K10 := ((Keep.refl h2 [b1]).trans K5 (allS (Or.inl (List.mem_of_getElem? (i := 0) rfl)) all0))
  have F11 := V2.keep K10 (ninS nxb nin0)
  exact R.retA (Ds' := Ds) hret rfl rfl rfl own_d17_25 (by decide) (by decide) (fun _ q => (fun q => (List.mem_cons_of_mem _ q)) q) ⟨b1, rfl, ⟨X5, F5c, chS hb ch0, Nat.le_of_ble_eq_true rfl, r2, _, F5v, F11⟩, hK, rfl⟩
set_option maxRecDepth 65536 in
set_option maxHeartbeats 4000000 in
theorem rm_str (l : Launch) (Z : State) (a0 : Array Value) (hw : ∀ d ∈ tables_1, d.before a0 Z = true) (p0 p1 : Int32) (h : Heap) (n0 : Nat) (Ds : List Addr) (own_cs : CompactOn Z) :
    Ctr l Z (⟨"com/example/slicewise/slicewise/plan/OptionsWithFilterPinLaw", "str", "(II)Ljava/lang/String;"⟩ : MethodName) method_2_code 5 (some (.object "java/lang/String")) [] ({ frames := 4, cells := 3, slots := 10, locals := 66 } : Room) #[.int p0, .int p1] h n0 Ds (fun v h' Ds' => ∃ x : Value, v = some x ∧ FS Z h' x ∧ Keep h h' [] ∧ Ds = Ds') := by
  have own_hws : ∀ d ∈ StrChars.Road.words, d.before a0 Z = true := fun d hd => hw d ((by decide +kernel : ∀ d ∈ StrChars.Road.words, d ∈ tables_1) d hd)
  refine ctr_of (Ls := #[.val (.int p0), .val (.int p1), .unset, .unset, .unset]) (plainFor_of_name own_pn2) (fun m => by first | (simp [entryFrame, mkF, argsToLocals, Value.category]; done) | rfl) ?_
  intro C hl hret hnm R
  subst hl
  replace R := R.iloadN (pc' := 1) (v := p0) own_d1_0 rfl rfl
  replace R := R.iconst (pc' := 2) (z := (3 : Int32)) own_d1_1 rfl rfl
  replace R := R.iand (pc' := 3) own_d1_2 rfl
  replace R := R.istoreN (pc' := 4) (l' := #[.val (.int p0), .val (.int p1), .val (.int (p0 &&& (3 : Int32))), .unset, .unset]) own_d1_3 rfl rfl
  replace R := R.iloadN (pc' := 5) (v := (p0 &&& (3 : Int32))) own_d1_4 rfl rfl
  by_cases hc1 : (p0 &&& (3 : Int32)) = (0 : Int32)
  · replace R := R.ifN (pc' := 8) own_d1_5 (teq hc1).2 rfl
    replace R := R.anull (pc' := 9) own_d1_8 rfl
    have hK : Keep h h [] := Keep.refl h []
    exact R.retA (Ds' := Ds) hret rfl rfl rfl own_d1_9 (by decide) (by decide) (fun _ q => q) ⟨_, rfl, Or.inl rfl, hK, rfl⟩
  · replace R := R.ifY (pc' := 10) own_d1_5 (feq hc1).2 (by decide) rfl
    replace R := R.bipush (pc' := 12) (z := (33 : Int32)) own_d1_10 rfl rfl
    replace R := R.iloadN (pc' := 13) (v := p1) own_d1_12 rfl rfl
    replace R := R.bipush (pc' := 15) (z := (16 : Int32)) own_d1_13 rfl rfl
    replace R := R.iushr (pc' := 16) own_d1_15 rfl
    replace R := R.sipush (pc' := 19) (z := (32767 : Int32)) own_d1_16 rfl rfl
    replace R := R.iand (pc' := 20) own_d1_19 rfl
    replace R := R.bipush (pc' := 22) (z := (94 : Int32)) own_d1_20 rfl rfl
    replace R := R.irem (pc' := 23) own_d1_22 (by decide) rfl
    replace R := R.iadd (pc' := 24) own_d1_23 rfl
    replace R := R.i2c (pc' := 25) own_d1_24 rfl
    replace R := R.istoreN (pc' := 26) (l' := #[.val (.int p0), .val (.int p1), .val (.int (p0 &&& (3 : Int32))), .val (.int ((33 : Int32) + ((((p1.toUInt32 >>> ((16 : Int32) &&& 31).toUInt32).toInt32) &&& (32767 : Int32)) % (94 : Int32))).toUInt32.toUInt16.toUInt32.toInt32), .unset]) own_d1_25 rfl rfl
    obtain ⟨md, e_md⟩ : ∃ z, z = ((33 : Int32) + ((((p1.toUInt32 >>> ((16 : Int32) &&& 31).toUInt32).toInt32) &&& (32767 : Int32)) % (94 : Int32))).toUInt32.toUInt16.toUInt32.toInt32 := ⟨_, rfl⟩
    rw [← e_md] at R
    have hmd : Om md := by rw [e_md]; exact mid_ok _
    have hbm : ¬ md < 0 ∧ ¬ (255 : Int32) < md := om_b hmd
    replace R := R.iloadN (pc' := 27) (v := (p0 &&& (3 : Int32))) own_d1_26 rfl rfl
    replace R := R.iconst (pc' := 28) (z := (1 : Int32)) own_d1_27 rfl rfl
    by_cases hc2 : (p0 &&& (3 : Int32)) = (1 : Int32)
    · replace R := R.icmpN (pc' := 31) own_d1_28 (teq hc2).2 rfl
      replace R := R.iloadN (pc' := 32) (v := md) own_d1_31 rfl rfl
      obtain ⟨_, h3, _, ⟨r3, rfl, S3, K3, rfl⟩, R⟩ := R.callS (pc' := 35) (argsL := [(.int md)]) (rest := []) (W := 0) (own_w95 hw) (own_w96 hw) (own_w70 hw) (own_w97 hw) (by decide) (rm_valueOf C.l Z a0 hw md h n0 Ds own_cs hbm) rfl (lenOf own_pd3 rfl) rfl rfl own_d1_32 (by decide) (by decide) (by decide) (by decide) rfl
      replace R := R.mono (ce' := 2) (sl' := 5) (by decide) (by decide)
      replace R := R.stk (S' := [(.ref r3)]) rfl
      have hK : Keep h h3 [] := ((Keep.refl h []).trans K3 all0)
      exact R.retA (Ds' := Ds) hret rfl rfl rfl own_d1_35 (by decide) (by decide) (fun _ q => q) ⟨_, rfl, Or.inr ⟨r3, _, rfl, S3, Or.inl ⟨_, rfl, hmd⟩⟩, hK, rfl⟩
    · replace R := R.icmpY (pc' := 36) own_d1_28 (feq hc2).2 (by decide) rfl
      replace R := R.iconst (pc' := 37) (z := (3 : Int32)) own_d1_36 rfl rfl
      obtain ⟨h4, b4, k4, g4, E4, V4, R⟩ := R.newP (pc' := 39) (aty := .char) (cap := 3) (own_w67 hw) own_d1_37 (by decide) (by decide) (by decide) (by decide) (by decide) rfl
      have V4p : Arv Z h4 b4 k4 .char (3 : Int32) [(.int (0 : Int32)), (.int (0 : Int32)), (.int (0 : Int32))] (.int (0 : Int32)) := V4.pad (pad_rep [] (.int (0 : Int32)) 3)
      replace R := R.astore (pc' := 41) (l' := #[.val (.int p0), .val (.int p1), .val (.int (p0 &&& (3 : Int32))), .val (.int md), .val (.ref b4)]) own_d1_39 rfl rfl rfl
      replace R := R.aload (pc' := 43) (v := (.ref b4)) own_d1_41 rfl rfl rfl
      replace R := R.iconst (pc' := 44) (z := (0 : Int32)) own_d1_43 rfl rfl
      replace R := R.iloadN (pc' := 45) (v := p1) own_d1_44 rfl rfl
      replace R := R.sipush (pc' := 48) (z := (255 : Int32)) own_d1_45 rfl rfl
      replace R := R.iand (pc' := 49) own_d1_48 rfl
      replace R := R.i2c (pc' := 50) own_d1_49 rfl
      obtain ⟨h5, K5, V5, R⟩ := R.castore (pc' := 51) V4p ⟨by decide, by decide⟩ 0 rfl (Nat.le_of_ble_eq_true rfl) (List.mem_of_getElem? (i := 0) rfl) own_d1_50 rfl
      have V5p : Arv Z h5 b4 k4 .char (3 : Int32) [(.int (p1 &&& (255 : Int32)).toUInt32.toUInt16.toUInt32.toInt32), (.int (0 : Int32)), (.int (0 : Int32))] (.int (0 : Int32)) := by
        have q := V5
        rw [nar_i2c (p1 &&& (255 : Int32))] at q
        exact q
      replace R := R.aload (pc' := 53) (v := (.ref b4)) own_d1_51 rfl rfl rfl
      replace R := R.iconst (pc' := 54) (z := (1 : Int32)) own_d1_53 rfl rfl
      replace R := R.iloadN (pc' := 55) (v := md) own_d1_54 rfl rfl
      obtain ⟨h6, K6, V6, R⟩ := R.castore (pc' := 56) V5p ⟨by decide, by decide⟩ 1 rfl (Nat.le_of_ble_eq_true rfl) (List.mem_of_getElem? (i := 0) rfl) own_d1_55 rfl
      have V6p : Arv Z h6 b4 k4 .char (3 : Int32) [(.int (p1 &&& (255 : Int32)).toUInt32.toUInt16.toUInt32.toInt32), (.int md), (.int (0 : Int32))] (.int (0 : Int32)) := by
        have q := V6
        rw [nar_of hbm] at q
        exact q
      replace R := R.aload (pc' := 58) (v := (.ref b4)) own_d1_56 rfl rfl rfl
      replace R := R.iconst (pc' := 59) (z := (2 : Int32)) own_d1_58 rfl rfl
      replace R := R.iloadN (pc' := 60) (v := p1) own_d1_59 rfl rfl
      replace R := R.bipush (pc' := 62) (z := (8 : Int32)) own_d1_60 rfl rfl
      replace R := R.iushr (pc' := 63) own_d1_62 rfl
      replace R := R.sipush (pc' := 66) (z := (255 : Int32)) own_d1_63 rfl rfl
      replace R := R.iand (pc' := 67) own_d1_66 rfl
      replace R := R.i2c (pc' := 68) own_d1_67 rfl
      obtain ⟨h7, K7, V7, R⟩ := R.castore (pc' := 69) V6p ⟨by decide, by decide⟩ 2 rfl (Nat.le_of_ble_eq_true rfl) (List.mem_of_getElem? (i := 0) rfl) own_d1_68 rfl
      have V7p : Arv Z h7 b4 k4 .char (3 : Int32) [(.int (p1 &&& (255 : Int32)).toUInt32.toUInt16.toUInt32.toInt32), (.int md), (.int (((p1.toUInt32 >>> ((8 : Int32) &&& 31).toUInt32).toInt32) &&& (255 : Int32)).toUInt32.toUInt16.toUInt32.toInt32)] (.int (0 : Int32)) := by
        have q := V7
        rw [nar_i2c (((p1.toUInt32 >>> ((8 : Int32) &&& 31).toUInt32).toInt32) &&& (255 : Int32))] at q
        exact q
      obtain ⟨h8, b8, g8, E8, X8, D8, R⟩ := R.newO (pc' := 72) (own_w68 hw) (own_w69 hw) (own_w70 hw) own_d1_69 (by decide) (by decide) rfl
      have F8_coder : Fld Z h8 b8 "java/lang/String" "coder" "B" (.int (0 : Int32)) := D8 (Or.inr (own_w92 hw)) (ty := .byte) (by decide)
      have F8_value : Fld Z h8 b8 "java/lang/String" "value" "[B" .null := D8 (Or.inr (own_w94 hw)) (ty := (.array .byte)) (by decide)
      replace R := R.dup (pc' := 73) own_d1_72 rfl rfl
      replace R := R.aload (pc' := 75) (v := (.ref b4)) own_d1_73 rfl rfl rfl
      have K9 := ((Keep.refl h7 []).trans ((Keep.refl h7 []).ext E8) all0)
      have F10 := V7p.keep K9 nin0
      obtain ⟨h11, K11, S11, R⟩ := R.newStr (pc' := 78) (W := 1) (cs := [(p1 &&& (255 : Int32)).toUInt32.toUInt16.toUInt32.toInt32, md, (((p1.toUInt32 >>> ((8 : Int32) &&& 31).toUInt32).toInt32) &&& (255 : Int32)).toUInt32.toUInt16.toUInt32.toInt32]) own_hws (own_w69 hw) (own_w71 hw) (own_w72 hw) own_cs X8 F8_value F8_coder F10 rfl (Nat.le_of_ble_eq_true rfl) (Nat.le_of_ble_eq_true rfl) (chS (c255 p1) (chS hbm (chS (c255 ((p1.toUInt32 >>> ((8 : Int32) &&& 31).toUInt32).toInt32)) ch0))) (List.mem_of_getElem? (i := 0) rfl) rfl rfl own_d1_75 (by decide) (by decide) (by decide) (Nat.le_of_ble_eq_true rfl) rfl
      replace R := R.mono (ce' := 3) (sl' := 10) (Nat.le_of_ble_eq_true rfl) (Nat.le_of_ble_eq_true rfl)
      have hK : Keep h h11 [] := (((((((Keep.refl h []).trans ((Keep.refl h []).ext E4) all0).trans K5 (allS (Or.inr (by rw [g4]; exact (Nat.le_refl _))) all0)).trans K6 (allS (Or.inr (by rw [g4]; exact (Nat.le_refl _))) all0)).trans K7 (allS (Or.inr (by rw [g4]; exact (Nat.le_refl _))) all0)).trans ((Keep.refl h7 []).ext E8) all0).trans K11 (allS (Or.inr (by rw [g8]; exact (Nat.le_trans (Nat.le_trans (Nat.le_trans ((Keep.refl h []).ext E4).1 K5.1) K6.1) K7.1))) all0))
      exact R.retA (Ds' := Ds) hret rfl rfl rfl own_d1_78 (by decide) (by decide) (fun _ q => (fun q => (List.mem_cons_of_mem _ (List.mem_cons_of_mem _ q))) q) ⟨_, rfl, Or.inr ⟨b8, _, rfl, S11, Or.inr ⟨_, _, _, rfl, hmd⟩⟩, hK, rfl⟩
set_option maxRecDepth 65536 in
set_option maxHeartbeats 4000000 in
theorem rm_getProp (l : Launch) (Z : State) (a0 : Array Value) (hw : ∀ d ∈ tables_1, d.before a0 Z = true) (a : Addr) (p0 : Int32) (h : Heap) (n0 : Nat) (Ds : List Addr) (hb : ¬ p0 < 0 ∧ ¬ (255 : Int32) < p0) {a_i a_A : Addr} {k_A : ClassId} (S_i : Sta Z Z.heap "java/lang/CharacterDataLatin1" "instance" "Ljava/lang/CharacterDataLatin1;" (.ref a_i)) (X_i : Exa Z Z.heap a_i "java/lang/CharacterDataLatin1") (S_A : Sta Z Z.heap "java/lang/CharacterDataLatin1" "A" "[I" (.ref a_A)) (V_A : Arv Z Z.heap a_A k_A .int (256 : Int32) (tabI.map Value.int) (.int 0)) :
    Ctr l Z (⟨"java/lang/CharacterDataLatin1", "getProperties", "(I)I"⟩ : MethodName) jdk_116_method_1_code 4 (some .int) [] ({ frames := 0, cells := 0, slots := 0, locals := 0 } : Room) #[.ref a, .int p0] h n0 Ds (fun v h' Ds' => v = some (.int (tabI.getD p0.toNatClampNeg 0)) ∧ h = h' ∧ Ds = Ds') := by
  refine ctr_of (Ls := #[.val (.ref a), .val (.int p0), .unset, .unset]) (plainFor_of_name own_pn3) (fun m => by first | (simp [entryFrame, mkF, argsToLocals, Value.category]; done) | rfl) ?_
  intro C hl hret hnm R
  subst hl
  have hK0 := (Keep.refl Z.heap []).ext R.old.2
  replace R := R.iloadN (pc' := 1) (v := p0) own_d27_0 rfl rfl
  replace R := R.i2c (pc' := 2) own_d27_1 rfl
  replace R := R.stk (congrArg (fun z => ([Value.int z] : List Value)) (own_i2c hb))
  replace R := R.istoreN (pc' := 3) (l' := #[.val (.ref a), .val (.int p0), .val (.int p0), .unset]) own_d27_2 rfl rfl
  replace R := R.getS (pc' := 6) (host := "") (Or.inl (own_w142 hw)) Via.refl S_A own_d27_3 rfl
  replace R := R.iloadN (pc' := 7) (v := p0) own_d27_6 rfl rfl
  have K1 := (Keep.refl Z.heap []).ext R.old.2
  have F2 := V_A.keep K1 nin0
  replace R := R.iaload (pc' := 8) (v := .int (tabI.getD p0.toNatClampNeg 0)) F2 (own_255 hb) (own_tab _ _) own_d27_7 rfl
  replace R := R.istoreN (pc' := 9) (l' := #[.val (.ref a), .val (.int p0), .val (.int p0), .val (.int (tabI.getD p0.toNatClampNeg 0))]) own_d27_8 rfl rfl
  replace R := R.iloadN (pc' := 10) (v := (tabI.getD p0.toNatClampNeg 0)) own_d27_9 rfl rfl
  exact R.retI (Ds' := Ds) hret own_d27_10 (by decide) (by decide) (fun _ q => q) ⟨rfl, rfl, rfl⟩
set_option maxRecDepth 65536 in
set_option maxHeartbeats 4000000 in
theorem rm_isWs (l : Launch) (Z : State) (a0 : Array Value) (hw : ∀ d ∈ tables_1, d.before a0 Z = true) (p0 : Int32) (h : Heap) (n0 : Nat) (Ds : List Addr) (hb : ¬ p0 < 0 ∧ ¬ (255 : Int32) < p0) {a_i a_A : Addr} {k_A : ClassId} (S_i : Sta Z Z.heap "java/lang/CharacterDataLatin1" "instance" "Ljava/lang/CharacterDataLatin1;" (.ref a_i)) (X_i : Exa Z Z.heap a_i "java/lang/CharacterDataLatin1") (S_A : Sta Z Z.heap "java/lang/CharacterDataLatin1" "A" "[I" (.ref a_A)) (V_A : Arv Z Z.heap a_A k_A .int (256 : Int32) (tabI.map Value.int) (.int 0)) :
    Ctr l Z (⟨"java/lang/CharacterDataLatin1", "isWhitespace", "(I)Z"⟩ : MethodName) jdk_116_method_26_code 3 (some .boolean) [] ({ frames := 1, cells := 0, slots := 0, locals := 15 } : Room) #[.ref a_i, .int p0] h n0 Ds (fun v h' Ds' => v = some (.int (s_ws p0)) ∧ h = h' ∧ Ds = Ds') := by
  refine ctr_of (Ls := #[.val (.ref a_i), .val (.int p0), .unset]) (plainFor_of_name own_pn3) (fun m => by first | (simp [entryFrame, mkF, argsToLocals, Value.category]; done) | rfl) ?_
  intro C hl hret hnm R
  subst hl
  have hK0 := (Keep.refl Z.heap []).ext R.old.2
  replace R := R.aloadN (pc' := 1) (v := (.ref a_i)) own_d26_0 rfl rfl rfl
  replace R := R.iloadN (pc' := 2) (v := p0) own_d26_1 rfl rfl
  have K1 := (Keep.refl Z.heap []).ext R.old.2
  have F2 := X_i.keep K1
  obtain ⟨_, _, _, ⟨rfl, rfl, rfl⟩, R⟩ := R.callV (pc' := 5) (y := (⟨"java/lang/CharacterDataLatin1", "getProperties", "(I)I"⟩ : MethodName)) (z := (⟨"java/lang/CharacterDataLatin1", "getProperties", "(I)I"⟩ : MethodName)) (argsL := [(.int p0)]) (rest := []) (W := 0) (own_w137 hw) (own_w138 hw) (fun s' hZ' => notFace_of_selects (args := #[]) (mvT hZ' (own_w140 hw))) (own_w140 hw) (own_w139 hw) (own_w131 hw) (own_w141 hw) (by decide) F2 (rm_getProp C.l Z a0 hw a_i p0 h n0 Ds hb S_i X_i S_A V_A) rfl (lenOf own_pd4 rfl) rfl rfl own_d26_2 (by decide) (by decide) (by decide) (by decide) rfl
  replace R := R.mono (ce' := 0) (sl' := 0) (by decide) (by decide)
  replace R := R.stk (S' := [(.int (tabI.getD p0.toNatClampNeg 0))]) rfl
  replace R := R.istoreN (pc' := 6) (l' := #[.val (.ref a_i), .val (.int p0), .val (.int (tabI.getD p0.toNatClampNeg 0))]) own_d26_5 rfl rfl
  replace R := R.iloadN (pc' := 7) (v := (tabI.getD p0.toNatClampNeg 0)) own_d26_6 rfl rfl
  replace R := R.sipush (pc' := 10) (z := (28672 : Int32)) own_d26_7 rfl rfl
  replace R := R.iand (pc' := 11) own_d26_10 rfl
  replace R := R.sipush (pc' := 14) (z := (16384 : Int32)) own_d26_11 rfl rfl
  by_cases hc3 : ((tabI.getD p0.toNatClampNeg 0) &&& (28672 : Int32)) = (16384 : Int32)
  · replace R := R.icmpN (pc' := 17) own_d26_14 (teq hc3).2 rfl
    replace R := R.iconst (pc' := 18) (z := (1 : Int32)) own_d26_17 rfl rfl
    replace R := R.goto (pc' := 22) own_d26_18 (by decide) rfl
    have hv : s_ws p0 = (1 : Int32) := by unfold s_ws; rw [if_pos hc3]
    exact R.retN (Ds' := Ds) hret (by simp) (show nar .boolean (1 : Int32) = (1 : Int32) from rfl) own_d26_22 (by decide) (by decide) (fun _ q => q) ⟨congrArg (fun z => some (Value.int z)) hv.symm, rfl, rfl⟩
  · replace R := R.icmpY (pc' := 21) own_d26_14 (feq hc3).2 (by decide) rfl
    replace R := R.iconst (pc' := 22) (z := (0 : Int32)) own_d26_21 rfl rfl
    have hv : s_ws p0 = (0 : Int32) := by unfold s_ws; rw [if_neg hc3]
    exact R.retN (Ds' := Ds) hret (by simp) (show nar .boolean (0 : Int32) = (0 : Int32) from rfl) own_d26_22 (by decide) (by decide) (fun _ q => q) ⟨congrArg (fun z => some (Value.int z)) hv.symm, rfl, rfl⟩
set_option maxRecDepth 65536 in
set_option maxHeartbeats 4000000 in
theorem rm_getChar (l : Launch) (Z : State) (a0 : Array Value) (hw : ∀ d ∈ tables_1, d.before a0 Z = true) (t : Addr) (p0 : Int32) (h : Heap) (n0 : Nat) (Ds : List Addr) {cs : List Int32} {k : Nat} {kb : ClassId} (hk : p0 = Int32.ofNat k) (hkl : k < cs.length) (hl : cs.length ≤ 4000) (hok : ∀ c ∈ cs, ¬ c < 0 ∧ ¬ (255 : Int32) < c) (V_t : Arv Z h t kb .byte (Int32.ofNat cs.length) (bytesOfCs cs) (.int 0)) :
    Ctr l Z (⟨"java/lang/StringLatin1", "getChar", "([BI)C"⟩ : MethodName) jdk_43_method_44_code 2 (some .char) [] ({ frames := 0, cells := 0, slots := 0, locals := 0 } : Room) #[.ref t, .int p0] h n0 Ds (fun v h' Ds' => v = some (.int (cs.getD k 0)) ∧ h = h' ∧ Ds = Ds') := by
  refine ctr_of (Ls := #[.val (.ref t), .val (.int p0)]) (plainFor_of_name own_pn1) (fun m => by first | (simp [entryFrame, mkF, argsToLocals, Value.category]; done) | rfl) ?_
  intro C hl hret hnm R
  subst hl
  replace R := R.aloadN (pc' := 1) (v := (.ref t)) own_d25_0 rfl rfl rfl
  replace R := R.iloadN (pc' := 2) (v := p0) own_d25_1 rfl rfl
  replace R := R.baload (pc' := 3) (v := .int (cs.getD k 0).toInt8.toInt32) V_t (hk ▸ own_j hl hkl) (hk ▸ own_bget hl hkl) own_d25_2 rfl
  replace R := R.sipush (pc' := 6) (z := (255 : Int32)) own_d25_3 rfl rfl
  replace R := R.iand (pc' := 7) own_d25_6 rfl
  replace R := R.i2c (pc' := 8) own_d25_7 rfl
  have hb := own_getD hkl hok
  replace R := R.stk (congrArg (fun z => ([Value.int z] : List Value)) (own_b2c hb))
  exact R.retN (Ds' := Ds) hret (by simp) (show nar .char (cs.getD k 0) = (cs.getD k 0) from nar_of hb) own_d25_8 (by decide) (by decide) (fun _ q => q) ⟨rfl, rfl, rfl⟩
set_option maxRecDepth 65536 in
set_option maxHeartbeats 4000000 in
theorem rm_isLatin1 (l : Launch) (Z : State) (a0 : Array Value) (hw : ∀ d ∈ tables_1, d.before a0 Z = true) (a : Addr) (h : Heap) (n0 : Nat) (Ds : List Addr) (own_cs : CompactOn Z) (F_c : Fld Z h a "java/lang/String" "coder" "B" (.int (0 : Int32))) :
    Ctr l Z (⟨"java/lang/String", "isLatin1", "()Z"⟩ : MethodName) jdk_42_method_154_code 1 (some .boolean) [] ({ frames := 0, cells := 0, slots := 0, locals := 0 } : Room) #[.ref a] h n0 Ds (fun v h' Ds' => v = some (.int 1) ∧ h = h' ∧ Ds = Ds') := by
  refine ctr_of (Ls := #[.val (.ref a)]) (plainFor_of_name own_pn0) (fun m => by first | (simp [entryFrame, mkF, argsToLocals, Value.category]; done) | rfl) ?_
  intro C hl hret hnm R
  subst hl
  obtain ⟨zc, S_zc, hzc⟩ := id own_cs
  replace R := R.getS (pc' := 3) (host := "") (Or.inl (own_w79 hw)) Via.refl S_zc own_d23_0 rfl
  replace R := R.ifN (pc' := 6) own_d23_3 (feq hzc).1 rfl
  replace R := R.aloadN (pc' := 7) (v := (.ref a)) own_d23_6 rfl rfl rfl
  replace R := R.getF (pc' := 10) (host := "") (Or.inl (own_w91 hw)) Via.refl F_c own_d23_7 rfl
  replace R := R.ifN (pc' := 13) own_d23_10 (teq (by decide : (0 : Int32) = (0 : Int32))).2 rfl
  replace R := R.iconst (pc' := 14) (z := (1 : Int32)) own_d23_13 rfl rfl
  replace R := R.goto (pc' := 18) own_d23_14 (by decide) rfl
  exact R.retN (Ds' := Ds) hret (by simp) (show nar .boolean (1 : Int32) = (1 : Int32) from rfl) own_d23_18 (by decide) (by decide) (fun _ q => q) ⟨rfl, rfl, rfl⟩
set_option maxRecDepth 65536 in
set_option maxHeartbeats 4000000 in
theorem rm_ionL1 (l : Launch) (Z : State) (a0 : Array Value) (hw : ∀ d ∈ tables_1, d.before a0 Z = true) (t : Addr) (h : Heap) (n0 : Nat) (Ds : List Addr) {m : Int32} (hm : Om m) {kb : ClassId} (hok : ∀ c ∈ ([m] : List Int32), ¬ c < 0 ∧ ¬ (255 : Int32) < c) (V_t : Arv Z h t kb .byte (Int32.ofNat ([m] : List Int32).length) (bytesOfCs [m]) (.int 0)) {a_i a_A : Addr} {k_A : ClassId} (S_i : Sta Z Z.heap "java/lang/CharacterDataLatin1" "instance" "Ljava/lang/CharacterDataLatin1;" (.ref a_i)) (X_i : Exa Z Z.heap a_i "java/lang/CharacterDataLatin1") (S_A : Sta Z Z.heap "java/lang/CharacterDataLatin1" "A" "[I" (.ref a_A)) (V_A : Arv Z Z.heap a_A k_A .int (256 : Int32) (tabI.map Value.int) (.int 0)) :
    Ctr l Z (⟨"java/lang/StringLatin1", "indexOfNonWhitespace", "([B)I"⟩ : MethodName) jdk_43_method_37_code 4 (some .int) [] ({ frames := 2, cells := 0, slots := 0, locals := 29 } : Room) #[.ref t] h n0 Ds (fun v h' Ds' => ∃ r : Int32, v = some (.int r) ∧ ¬ r = Int32.ofNat ([m] : List Int32).length ∧ h = h' ∧ Ds = Ds') := by
  refine ctr_of (Ls := #[.val (.ref t), .unset, .unset, .unset]) (plainFor_of_name own_pn1) (fun m => by first | (simp [entryFrame, mkF, argsToLocals, Value.category]; done) | rfl) ?_
  intro C hl hret hnm R
  subst hl
  have hK0 := (Keep.refl Z.heap []).ext R.old.2
  replace R := R.aloadN (pc' := 1) (v := (.ref t)) own_d24_0 rfl rfl rfl
  replace R := R.arraylength (pc' := 2) V_t own_d24_1 rfl
  replace R := R.istoreN (pc' := 3) (l' := #[.val (.ref t), .val (.int (1 : Int32)), .unset, .unset]) own_d24_2 rfl rfl
  replace R := R.iconst (pc' := 4) (z := (0 : Int32)) own_d24_3 rfl rfl
  replace R := R.istoreN (pc' := 5) (l' := #[.val (.ref t), .val (.int (1 : Int32)), .val (.int (0 : Int32)), .unset]) own_d24_4 rfl rfl
  replace R := R.iloadN (pc' := 6) (v := (0 : Int32)) own_d24_5 rfl rfl
  replace R := R.iloadN (pc' := 7) (v := (1 : Int32)) own_d24_6 rfl rfl
  replace R := R.icmpN (pc' := 10) own_d24_7 (tlt (by decide : (0 : Int32) < (1 : Int32))).2.1 rfl
  replace R := R.aloadN (pc' := 11) (v := (.ref t)) own_d24_10 rfl rfl rfl
  replace R := R.iloadN (pc' := 12) (v := (0 : Int32)) own_d24_11 rfl rfl
  obtain ⟨_, _, _, ⟨rfl, rfl, rfl⟩, R⟩ := R.callS (pc' := 15) (argsL := [(.ref t), (.int (0 : Int32))]) (rest := []) (W := 0) (own_w127 hw) (own_w128 hw) (own_w100 hw) (own_w129 hw) (by decide) (rm_getChar C.l Z a0 hw t (0 : Int32) h n0 Ds (k := 0) (cs := [m]) rfl (Nat.le_of_ble_eq_true rfl) (Nat.le_of_ble_eq_true rfl) hok V_t) rfl (lenOf own_pd5 rfl) rfl rfl own_d24_12 (by decide) (by decide) (by decide) (by decide) rfl
  replace R := R.mono (ce' := 0) (sl' := 0) (by decide) (by decide)
  replace R := R.stk (S' := [(.int m)]) rfl
  replace R := R.istoreN (pc' := 16) (l' := #[.val (.ref t), .val (.int (1 : Int32)), .val (.int (0 : Int32)), .val (.int m)]) own_d24_15 rfl rfl
  replace R := R.iloadN (pc' := 17) (v := m) own_d24_16 rfl rfl
  replace R := R.bipush (pc' := 19) (z := (32 : Int32)) own_d24_17 rfl rfl
  replace R := R.icmpN (pc' := 22) own_d24_19 (feq (om_ne hm (by decide))).1 rfl
  replace R := R.iloadN (pc' := 23) (v := m) own_d24_22 rfl rfl
  replace R := R.bipush (pc' := 25) (z := (9 : Int32)) own_d24_23 rfl rfl
  replace R := R.icmpN (pc' := 28) own_d24_25 (feq (om_ne hm (by decide))).1 rfl
  replace R := R.getS (pc' := 31) (host := "") (Or.inl (own_w130 hw)) Via.refl S_i own_d24_28 rfl
  replace R := R.iloadN (pc' := 32) (v := m) own_d24_31 rfl rfl
  have K1 := (Keep.refl Z.heap []).ext R.old.2
  have F2 := X_i.keep K1
  obtain ⟨_, _, _, ⟨rfl, rfl, rfl⟩, R⟩ := R.callV (pc' := 35) (y := (⟨"java/lang/CharacterDataLatin1", "isWhitespace", "(I)Z"⟩ : MethodName)) (z := (⟨"java/lang/CharacterDataLatin1", "isWhitespace", "(I)Z"⟩ : MethodName)) (argsL := [(.int m)]) (rest := []) (W := 0) (own_w132 hw) (own_w133 hw) (fun s' hZ' => notFace_of_selects (args := #[]) (mvT hZ' (own_w135 hw))) (own_w135 hw) (own_w134 hw) (own_w131 hw) (own_w136 hw) (by decide) F2 (rm_isWs C.l Z a0 hw m h n0 Ds (hok m (List.mem_of_getElem? (i := 0) rfl)) S_i X_i S_A V_A) rfl (lenOf own_pd6 rfl) rfl rfl own_d24_32 (by decide) (by decide) (by decide) (by decide) rfl
  replace R := R.mono (ce' := 0) (sl' := 0) (by decide) (by decide)
  replace R := R.stk (S' := [(.int (s_ws m))]) rfl
  replace R := R.ifN (pc' := 38) own_d24_35 (teq (ws_m hm)).2 rfl
  replace R := R.goto (pc' := 47) own_d24_38 (by decide) rfl
  replace R := R.iloadN (pc' := 48) (v := (0 : Int32)) own_d24_47 rfl rfl
  exact R.retI (Ds' := Ds) hret own_d24_48 (by decide) (by decide) (fun _ q => q) ⟨_, rfl, (by decide : ¬ (0 : Int32) = Int32.ofNat 1), rfl, rfl⟩
set_option maxRecDepth 65536 in
set_option maxHeartbeats 4000000 in
theorem rm_ion1 (l : Launch) (Z : State) (a0 : Array Value) (hw : ∀ d ∈ tables_1, d.before a0 Z = true) (a : Addr) (h : Heap) (n0 : Nat) (Ds : List Addr) (own_cs : CompactOn Z) {m : Int32} (hm : Om m) (S_a : IsStr Z h a [m]) {a_i a_A : Addr} {k_A : ClassId} (S_i : Sta Z Z.heap "java/lang/CharacterDataLatin1" "instance" "Ljava/lang/CharacterDataLatin1;" (.ref a_i)) (X_i : Exa Z Z.heap a_i "java/lang/CharacterDataLatin1") (S_A : Sta Z Z.heap "java/lang/CharacterDataLatin1" "A" "[I" (.ref a_A)) (V_A : Arv Z Z.heap a_A k_A .int (256 : Int32) (tabI.map Value.int) (.int 0)) :
    Ctr l Z (⟨"java/lang/String", "indexOfNonWhitespace", "()I"⟩ : MethodName) jdk_42_method_120_code 1 (some .int) [] ({ frames := 3, cells := 0, slots := 0, locals := 44 } : Room) #[.ref a] h n0 Ds (fun v h' Ds' => ∃ r : Int32, v = some (.int r) ∧ ¬ r = Int32.ofNat ([m] : List Int32).length ∧ h = h' ∧ Ds = Ds') := by
  refine ctr_of (Ls := #[.val (.ref a)]) (plainFor_of_name own_pn0) (fun m => by first | (simp [entryFrame, mkF, argsToLocals, Value.category]; done) | rfl) ?_
  intro C hl hret hnm R
  subst hl
  obtain ⟨e1, e2, e3, e4, t, kb, e5, e6⟩ := S_a
  replace R := R.aloadN (pc' := 1) (v := (.ref a)) own_d22_0 rfl rfl rfl
  obtain ⟨_, _, _, ⟨rfl, rfl, rfl⟩, R⟩ := R.callV (pc' := 4) (y := (⟨"java/lang/String", "isLatin1", "()Z"⟩ : MethodName)) (z := (⟨"java/lang/String", "isLatin1", "()Z"⟩ : MethodName)) (argsL := []) (rest := []) (W := 0) (own_w119 hw) (own_w120 hw) (fun s' hZ' => notFace_of_selects (args := #[]) (mvT hZ' (own_w122 hw))) (own_w122 hw) (own_w121 hw) (own_w70 hw) (own_w123 hw) (by decide) e1 (rm_isLatin1 C.l Z a0 hw a h n0 Ds own_cs e2) rfl (lenOf own_pd7 rfl) rfl rfl own_d22_1 (by decide) (by decide) (by decide) (by decide) rfl
  replace R := R.mono (ce' := 0) (sl' := 0) (by decide) (by decide)
  replace R := R.stk (S' := [(.int (1 : Int32))]) rfl
  replace R := R.ifN (pc' := 7) own_d22_4 (feq (by decide : ¬ ((1 : Int32) = (0 : Int32)))).1 rfl
  replace R := R.aloadN (pc' := 8) (v := (.ref a)) own_d22_7 rfl rfl rfl
  replace R := R.getF (pc' := 11) (host := "") (Or.inl (own_w93 hw)) Via.refl e5 own_d22_8 rfl
  obtain ⟨_, _, _, ⟨rr, rfl, hrr, rfl, rfl⟩, R⟩ := R.callS (pc' := 14) (argsL := [(.ref t)]) (rest := []) (W := 0) (own_w124 hw) (own_w125 hw) (own_w100 hw) (own_w126 hw) (by decide) (rm_ionL1 C.l Z a0 hw t h n0 Ds hm e3 e6 S_i X_i S_A V_A) rfl (lenOf own_pd8 rfl) rfl rfl own_d22_11 (by decide) (by decide) (by decide) (by decide) rfl
  replace R := R.mono (ce' := 0) (sl' := 0) (by decide) (by decide)
  replace R := R.stk (S' := [(.int rr)]) rfl
  replace R := R.goto (pc' := 24) own_d22_14 (by decide) rfl
  exact R.retI (Ds' := Ds) hret own_d22_24 (by decide) (by decide) (fun _ q => q) ⟨_, rfl, hrr, rfl, rfl⟩
set_option maxRecDepth 65536 in
set_option maxHeartbeats 4000000 in
theorem rm_isBlank1 (l : Launch) (Z : State) (a0 : Array Value) (hw : ∀ d ∈ tables_1, d.before a0 Z = true) (a : Addr) (h : Heap) (n0 : Nat) (Ds : List Addr) (own_cs : CompactOn Z) {m : Int32} (hm : Om m) (S_a : IsStr Z h a [m]) {a_i a_A : Addr} {k_A : ClassId} (S_i : Sta Z Z.heap "java/lang/CharacterDataLatin1" "instance" "Ljava/lang/CharacterDataLatin1;" (.ref a_i)) (X_i : Exa Z Z.heap a_i "java/lang/CharacterDataLatin1") (S_A : Sta Z Z.heap "java/lang/CharacterDataLatin1" "A" "[I" (.ref a_A)) (V_A : Arv Z Z.heap a_A k_A .int (256 : Int32) (tabI.map Value.int) (.int 0)) :
    Ctr l Z (⟨"java/lang/String", "isBlank", "()Z"⟩ : MethodName) jdk_42_method_117_code 1 (some .boolean) [] ({ frames := 4, cells := 0, slots := 0, locals := 56 } : Room) #[.ref a] h n0 Ds (fun v h' Ds' => v = some (.int 0) ∧ h = h' ∧ Ds = Ds') := by
  have own_hln : ∀ d ∈ StrChars.Road.wordsLen, d.before a0 Z = true := fun d hd => hw d ((by decide +kernel : ∀ d ∈ StrChars.Road.wordsLen, d ∈ tables_1) d hd)
  refine ctr_of (Ls := #[.val (.ref a)]) (plainFor_of_name own_pn0) (fun m => by first | (simp [entryFrame, mkF, argsToLocals, Value.category]; done) | rfl) ?_
  intro C hl hret hnm R
  subst hl
  replace R := R.aloadN (pc' := 1) (v := (.ref a)) own_d21_0 rfl rfl rfl
  obtain ⟨_, _, _, ⟨rr, rfl, hrr, rfl, rfl⟩, R⟩ := R.callP (pc' := 4) (y := (⟨"java/lang/String", "indexOfNonWhitespace", "()I"⟩ : MethodName)) (argsL := []) (rest := []) (W := 0) (own_w114 hw) (own_w116 hw) (own_w117 hw) (own_w115 hw) (own_w70 hw) (own_w118 hw) (by decide) S_a.1 (rm_ion1 C.l Z a0 hw a h n0 Ds own_cs hm S_a S_i X_i S_A V_A) rfl (lenOf own_pd9 rfl) rfl rfl own_d21_1 (by decide) (by decide) (by decide) (by decide) rfl
  replace R := R.mono (ce' := 0) (sl' := 0) (by decide) (by decide)
  replace R := R.stk (S' := [(.int rr)]) rfl
  replace R := R.aloadN (pc' := 5) (v := (.ref a)) own_d21_4 rfl rfl rfl
  replace R := R.str_len (pc' := 8) (W := 1) own_hln (own_w69 hw) (own_w143 hw) (own_w144 hw) (own_w146 hw) (own_w145 hw) own_cs S_a rfl rfl own_d21_5 (by decide) (by decide) (by decide) (by decide) rfl
  replace R := R.stk (S' := [(.int (Int32.ofNat ([m] : List Int32).length)), (.int rr)]) rfl
  replace R := R.icmpY (pc' := 15) own_d21_8 (feq hrr).2 (by decide) rfl
  replace R := R.iconst (pc' := 16) (z := (0 : Int32)) own_d21_15 rfl rfl
  exact R.retN (Ds' := Ds) hret (by simp) (show nar .boolean (0 : Int32) = (0 : Int32) from rfl) own_d21_16 (by decide) (by decide) (fun _ q => q) ⟨rfl, rfl, rfl⟩
set_option maxRecDepth 65536 in
set_option maxHeartbeats 4000000 in
theorem rm_ionL3 (l : Launch) (Z : State) (a0 : Array Value) (hw : ∀ d ∈ tables_1, d.before a0 Z = true) (t : Addr) (h : Heap) (n0 : Nat) (Ds : List Addr) {c0 m c2 : Int32} (hm : Om m) {kb : ClassId} (hok : ∀ c ∈ ([c0, m, c2] : List Int32), ¬ c < 0 ∧ ¬ (255 : Int32) < c) (V_t : Arv Z h t kb .byte (Int32.ofNat ([c0, m, c2] : List Int32).length) (bytesOfCs [c0, m, c2]) (.int 0)) {a_i a_A : Addr} {k_A : ClassId} (S_i : Sta Z Z.heap "java/lang/CharacterDataLatin1" "instance" "Ljava/lang/CharacterDataLatin1;" (.ref a_i)) (X_i : Exa Z Z.heap a_i "java/lang/CharacterDataLatin1") (S_A : Sta Z Z.heap "java/lang/CharacterDataLatin1" "A" "[I" (.ref a_A)) (V_A : Arv Z Z.heap a_A k_A .int (256 : Int32) (tabI.map Value.int) (.int 0)) :
    Ctr l Z (⟨"java/lang/StringLatin1", "indexOfNonWhitespace", "([B)I"⟩ : MethodName) jdk_43_method_37_code 4 (some .int) [] ({ frames := 2, cells := 0, slots := 0, locals := 29 } : Room) #[.ref t] h n0 Ds (fun v h' Ds' => ∃ r : Int32, v = some (.int r) ∧ ¬ r = Int32.ofNat ([c0, m, c2] : List Int32).length ∧ h = h' ∧ Ds = Ds') := by
  refine ctr_of (Ls := #[.val (.ref t), .unset, .unset, .unset]) (plainFor_of_name own_pn1) (fun m => by first | (simp [entryFrame, mkF, argsToLocals, Value.category]; done) | rfl) ?_
  intro C hl hret hnm R
  subst hl
  have hK0 := (Keep.refl Z.heap []).ext R.old.2
  replace R := R.aloadN (pc' := 1) (v := (.ref t)) own_d24_0 rfl rfl rfl
  replace R := R.arraylength (pc' := 2) V_t own_d24_1 rfl
  replace R := R.istoreN (pc' := 3) (l' := #[.val (.ref t), .val (.int (3 : Int32)), .unset, .unset]) own_d24_2 rfl rfl
  replace R := R.iconst (pc' := 4) (z := (0 : Int32)) own_d24_3 rfl rfl
  replace R := R.istoreN (pc' := 5) (l' := #[.val (.ref t), .val (.int (3 : Int32)), .val (.int (0 : Int32)), .unset]) own_d24_4 rfl rfl
  replace R := R.iloadN (pc' := 6) (v := (0 : Int32)) own_d24_5 rfl rfl
  replace R := R.iloadN (pc' := 7) (v := (3 : Int32)) own_d24_6 rfl rfl
  replace R := R.icmpN (pc' := 10) own_d24_7 (tlt (by decide : (0 : Int32) < (3 : Int32))).2.1 rfl
  replace R := R.aloadN (pc' := 11) (v := (.ref t)) own_d24_10 rfl rfl rfl
  replace R := R.iloadN (pc' := 12) (v := (0 : Int32)) own_d24_11 rfl rfl
  obtain ⟨_, _, _, ⟨rfl, rfl, rfl⟩, R⟩ := R.callS (pc' := 15) (argsL := [(.ref t), (.int (0 : Int32))]) (rest := []) (W := 0) (own_w127 hw) (own_w128 hw) (own_w100 hw) (own_w129 hw) (by decide) (rm_getChar C.l Z a0 hw t (0 : Int32) h n0 Ds (k := 0) (cs := [c0, m, c2]) rfl (Nat.le_of_ble_eq_true rfl) (Nat.le_of_ble_eq_true rfl) hok V_t) rfl (lenOf own_pd5 rfl) rfl rfl own_d24_12 (by decide) (by decide) (by decide) (by decide) rfl
  replace R := R.mono (ce' := 0) (sl' := 0) (by decide) (by decide)
  replace R := R.stk (S' := [(.int c0)]) rfl
  replace R := R.istoreN (pc' := 16) (l' := #[.val (.ref t), .val (.int (3 : Int32)), .val (.int (0 : Int32)), .val (.int c0)]) own_d24_15 rfl rfl
  replace R := R.iloadN (pc' := 17) (v := c0) own_d24_16 rfl rfl
  replace R := R.bipush (pc' := 19) (z := (32 : Int32)) own_d24_17 rfl rfl
  by_cases hc1 : c0 = (32 : Int32)
  · replace R := R.icmpY (pc' := 41) own_d24_19 (teq hc1).1 (by decide) rfl
    replace R := R.iinc (pc' := 44) (l' := #[.val (.ref t), .val (.int (3 : Int32)), .val (.int (1 : Int32)), .val (.int c0)]) own_d24_41 rfl rfl rfl
    replace R := R.goto (pc' := 5) own_d24_44 (by decide) rfl
    replace R := R.iloadN (pc' := 6) (v := (1 : Int32)) own_d24_5 rfl rfl
    replace R := R.iloadN (pc' := 7) (v := (3 : Int32)) own_d24_6 rfl rfl
    replace R := R.icmpN (pc' := 10) own_d24_7 (tlt (by decide : (1 : Int32) < (3 : Int32))).2.1 rfl
    replace R := R.aloadN (pc' := 11) (v := (.ref t)) own_d24_10 rfl rfl rfl
    replace R := R.iloadN (pc' := 12) (v := (1 : Int32)) own_d24_11 rfl rfl
    obtain ⟨_, _, _, ⟨rfl, rfl, rfl⟩, R⟩ := R.callS (pc' := 15) (argsL := [(.ref t), (.int (1 : Int32))]) (rest := []) (W := 0) (own_w127 hw) (own_w128 hw) (own_w100 hw) (own_w129 hw) (by decide) (rm_getChar C.l Z a0 hw t (1 : Int32) h n0 Ds (k := 1) (cs := [c0, m, c2]) rfl (Nat.le_of_ble_eq_true rfl) (Nat.le_of_ble_eq_true rfl) hok V_t) rfl (lenOf own_pd5 rfl) rfl rfl own_d24_12 (by decide) (by decide) (by decide) (by decide) rfl
    replace R := R.mono (ce' := 0) (sl' := 0) (by decide) (by decide)
    replace R := R.stk (S' := [(.int m)]) rfl
    replace R := R.istoreN (pc' := 16) (l' := #[.val (.ref t), .val (.int (3 : Int32)), .val (.int (1 : Int32)), .val (.int m)]) own_d24_15 rfl rfl
    replace R := R.iloadN (pc' := 17) (v := m) own_d24_16 rfl rfl
    replace R := R.bipush (pc' := 19) (z := (32 : Int32)) own_d24_17 rfl rfl
    replace R := R.icmpN (pc' := 22) own_d24_19 (feq (om_ne hm (by decide))).1 rfl
    replace R := R.iloadN (pc' := 23) (v := m) own_d24_22 rfl rfl
    replace R := R.bipush (pc' := 25) (z := (9 : Int32)) own_d24_23 rfl rfl
    replace R := R.icmpN (pc' := 28) own_d24_25 (feq (om_ne hm (by decide))).1 rfl
    replace R := R.getS (pc' := 31) (host := "") (Or.inl (own_w130 hw)) Via.refl S_i own_d24_28 rfl
    replace R := R.iloadN (pc' := 32) (v := m) own_d24_31 rfl rfl
    have K2 := (Keep.refl Z.heap []).ext R.old.2
    have F3 := X_i.keep K2
    obtain ⟨_, _, _, ⟨rfl, rfl, rfl⟩, R⟩ := R.callV (pc' := 35) (y := (⟨"java/lang/CharacterDataLatin1", "isWhitespace", "(I)Z"⟩ : MethodName)) (z := (⟨"java/lang/CharacterDataLatin1", "isWhitespace", "(I)Z"⟩ : MethodName)) (argsL := [(.int m)]) (rest := []) (W := 0) (own_w132 hw) (own_w133 hw) (fun s' hZ' => notFace_of_selects (args := #[]) (mvT hZ' (own_w135 hw))) (own_w135 hw) (own_w134 hw) (own_w131 hw) (own_w136 hw) (by decide) F3 (rm_isWs C.l Z a0 hw m h n0 Ds (hok m (List.mem_of_getElem? (i := 1) rfl)) S_i X_i S_A V_A) rfl (lenOf own_pd6 rfl) rfl rfl own_d24_32 (by decide) (by decide) (by decide) (by decide) rfl
    replace R := R.mono (ce' := 0) (sl' := 0) (by decide) (by decide)
    replace R := R.stk (S' := [(.int (s_ws m))]) rfl
    replace R := R.ifN (pc' := 38) own_d24_35 (teq (ws_m hm)).2 rfl
    replace R := R.goto (pc' := 47) own_d24_38 (by decide) rfl
    replace R := R.iloadN (pc' := 48) (v := (1 : Int32)) own_d24_47 rfl rfl
    exact R.retI (Ds' := Ds) hret own_d24_48 (by decide) (by decide) (fun _ q => q) ⟨_, rfl, (by decide : ¬ (1 : Int32) = Int32.ofNat 3), rfl, rfl⟩
  · replace R := R.icmpN (pc' := 22) own_d24_19 (feq hc1).1 rfl
    replace R := R.iloadN (pc' := 23) (v := c0) own_d24_22 rfl rfl
    replace R := R.bipush (pc' := 25) (z := (9 : Int32)) own_d24_23 rfl rfl
    by_cases hc4 : c0 = (9 : Int32)
    · replace R := R.icmpY (pc' := 41) own_d24_25 (teq hc4).1 (by decide) rfl
      replace R := R.iinc (pc' := 44) (l' := #[.val (.ref t), .val (.int (3 : Int32)), .val (.int (1 : Int32)), .val (.int c0)]) own_d24_41 rfl rfl rfl
      replace R := R.goto (pc' := 5) own_d24_44 (by decide) rfl
      replace R := R.iloadN (pc' := 6) (v := (1 : Int32)) own_d24_5 rfl rfl
      replace R := R.iloadN (pc' := 7) (v := (3 : Int32)) own_d24_6 rfl rfl
      replace R := R.icmpN (pc' := 10) own_d24_7 (tlt (by decide : (1 : Int32) < (3 : Int32))).2.1 rfl
      replace R := R.aloadN (pc' := 11) (v := (.ref t)) own_d24_10 rfl rfl rfl
      replace R := R.iloadN (pc' := 12) (v := (1 : Int32)) own_d24_11 rfl rfl
      obtain ⟨_, _, _, ⟨rfl, rfl, rfl⟩, R⟩ := R.callS (pc' := 15) (argsL := [(.ref t), (.int (1 : Int32))]) (rest := []) (W := 0) (own_w127 hw) (own_w128 hw) (own_w100 hw) (own_w129 hw) (by decide) (rm_getChar C.l Z a0 hw t (1 : Int32) h n0 Ds (k := 1) (cs := [c0, m, c2]) rfl (Nat.le_of_ble_eq_true rfl) (Nat.le_of_ble_eq_true rfl) hok V_t) rfl (lenOf own_pd5 rfl) rfl rfl own_d24_12 (by decide) (by decide) (by decide) (by decide) rfl
      replace R := R.mono (ce' := 0) (sl' := 0) (by decide) (by decide)
      replace R := R.stk (S' := [(.int m)]) rfl
      replace R := R.istoreN (pc' := 16) (l' := #[.val (.ref t), .val (.int (3 : Int32)), .val (.int (1 : Int32)), .val (.int m)]) own_d24_15 rfl rfl
      replace R := R.iloadN (pc' := 17) (v := m) own_d24_16 rfl rfl
      replace R := R.bipush (pc' := 19) (z := (32 : Int32)) own_d24_17 rfl rfl
      replace R := R.icmpN (pc' := 22) own_d24_19 (feq (om_ne hm (by decide))).1 rfl
      replace R := R.iloadN (pc' := 23) (v := m) own_d24_22 rfl rfl
      replace R := R.bipush (pc' := 25) (z := (9 : Int32)) own_d24_23 rfl rfl
      replace R := R.icmpN (pc' := 28) own_d24_25 (feq (om_ne hm (by decide))).1 rfl
      replace R := R.getS (pc' := 31) (host := "") (Or.inl (own_w130 hw)) Via.refl S_i own_d24_28 rfl
      replace R := R.iloadN (pc' := 32) (v := m) own_d24_31 rfl rfl
      have K5 := (Keep.refl Z.heap []).ext R.old.2
      have F6 := X_i.keep K5
      obtain ⟨_, _, _, ⟨rfl, rfl, rfl⟩, R⟩ := R.callV (pc' := 35) (y := (⟨"java/lang/CharacterDataLatin1", "isWhitespace", "(I)Z"⟩ : MethodName)) (z := (⟨"java/lang/CharacterDataLatin1", "isWhitespace", "(I)Z"⟩ : MethodName)) (argsL := [(.int m)]) (rest := []) (W := 0) (own_w132 hw) (own_w133 hw) (fun s' hZ' => notFace_of_selects (args := #[]) (mvT hZ' (own_w135 hw))) (own_w135 hw) (own_w134 hw) (own_w131 hw) (own_w136 hw) (by decide) F6 (rm_isWs C.l Z a0 hw m h n0 Ds (hok m (List.mem_of_getElem? (i := 1) rfl)) S_i X_i S_A V_A) rfl (lenOf own_pd6 rfl) rfl rfl own_d24_32 (by decide) (by decide) (by decide) (by decide) rfl
      replace R := R.mono (ce' := 0) (sl' := 0) (by decide) (by decide)
      replace R := R.stk (S' := [(.int (s_ws m))]) rfl
      replace R := R.ifN (pc' := 38) own_d24_35 (teq (ws_m hm)).2 rfl
      replace R := R.goto (pc' := 47) own_d24_38 (by decide) rfl
      replace R := R.iloadN (pc' := 48) (v := (1 : Int32)) own_d24_47 rfl rfl
      exact R.retI (Ds' := Ds) hret own_d24_48 (by decide) (by decide) (fun _ q => q) ⟨_, rfl, (by decide : ¬ (1 : Int32) = Int32.ofNat 3), rfl, rfl⟩
    · replace R := R.icmpN (pc' := 28) own_d24_25 (feq hc4).1 rfl
      replace R := R.getS (pc' := 31) (host := "") (Or.inl (own_w130 hw)) Via.refl S_i own_d24_28 rfl
      replace R := R.iloadN (pc' := 32) (v := c0) own_d24_31 rfl rfl
      have K7 := (Keep.refl Z.heap []).ext R.old.2
      have F8 := X_i.keep K7
      obtain ⟨_, _, _, ⟨rfl, rfl, rfl⟩, R⟩ := R.callV (pc' := 35) (y := (⟨"java/lang/CharacterDataLatin1", "isWhitespace", "(I)Z"⟩ : MethodName)) (z := (⟨"java/lang/CharacterDataLatin1", "isWhitespace", "(I)Z"⟩ : MethodName)) (argsL := [(.int c0)]) (rest := []) (W := 0) (own_w132 hw) (own_w133 hw) (fun s' hZ' => notFace_of_selects (args := #[]) (mvT hZ' (own_w135 hw))) (own_w135 hw) (own_w134 hw) (own_w131 hw) (own_w136 hw) (by decide) F8 (rm_isWs C.l Z a0 hw c0 h n0 Ds (hok c0 (List.mem_of_getElem? (i := 0) rfl)) S_i X_i S_A V_A) rfl (lenOf own_pd6 rfl) rfl rfl own_d24_32 (by decide) (by decide) (by decide) (by decide) rfl
      replace R := R.mono (ce' := 0) (sl' := 0) (by decide) (by decide)
      replace R := R.stk (S' := [(.int (s_ws c0))]) rfl
      by_cases hc9 : (s_ws c0) = (0 : Int32)
      · replace R := R.ifN (pc' := 38) own_d24_35 (teq hc9).2 rfl
        replace R := R.goto (pc' := 47) own_d24_38 (by decide) rfl
        replace R := R.iloadN (pc' := 48) (v := (0 : Int32)) own_d24_47 rfl rfl
        exact R.retI (Ds' := Ds) hret own_d24_48 (by decide) (by decide) (fun _ q => q) ⟨_, rfl, (by decide : ¬ (0 : Int32) = Int32.ofNat 3), rfl, rfl⟩
      · replace R := R.ifY (pc' := 41) own_d24_35 (feq hc9).2 (by decide) rfl
        replace R := R.iinc (pc' := 44) (l' := #[.val (.ref t), .val (.int (3 : Int32)), .val (.int (1 : Int32)), .val (.int c0)]) own_d24_41 rfl rfl rfl
        replace R := R.goto (pc' := 5) own_d24_44 (by decide) rfl
        replace R := R.iloadN (pc' := 6) (v := (1 : Int32)) own_d24_5 rfl rfl
        replace R := R.iloadN (pc' := 7) (v := (3 : Int32)) own_d24_6 rfl rfl
        replace R := R.icmpN (pc' := 10) own_d24_7 (tlt (by decide : (1 : Int32) < (3 : Int32))).2.1 rfl
        replace R := R.aloadN (pc' := 11) (v := (.ref t)) own_d24_10 rfl rfl rfl
        replace R := R.iloadN (pc' := 12) (v := (1 : Int32)) own_d24_11 rfl rfl
        obtain ⟨_, _, _, ⟨rfl, rfl, rfl⟩, R⟩ := R.callS (pc' := 15) (argsL := [(.ref t), (.int (1 : Int32))]) (rest := []) (W := 0) (own_w127 hw) (own_w128 hw) (own_w100 hw) (own_w129 hw) (by decide) (rm_getChar C.l Z a0 hw t (1 : Int32) h n0 Ds (k := 1) (cs := [c0, m, c2]) rfl (Nat.le_of_ble_eq_true rfl) (Nat.le_of_ble_eq_true rfl) hok V_t) rfl (lenOf own_pd5 rfl) rfl rfl own_d24_12 (by decide) (by decide) (by decide) (by decide) rfl
        replace R := R.mono (ce' := 0) (sl' := 0) (by decide) (by decide)
        replace R := R.stk (S' := [(.int m)]) rfl
        replace R := R.istoreN (pc' := 16) (l' := #[.val (.ref t), .val (.int (3 : Int32)), .val (.int (1 : Int32)), .val (.int m)]) own_d24_15 rfl rfl
        replace R := R.iloadN (pc' := 17) (v := m) own_d24_16 rfl rfl
        replace R := R.bipush (pc' := 19) (z := (32 : Int32)) own_d24_17 rfl rfl
        replace R := R.icmpN (pc' := 22) own_d24_19 (feq (om_ne hm (by decide))).1 rfl
        replace R := R.iloadN (pc' := 23) (v := m) own_d24_22 rfl rfl
        replace R := R.bipush (pc' := 25) (z := (9 : Int32)) own_d24_23 rfl rfl
        replace R := R.icmpN (pc' := 28) own_d24_25 (feq (om_ne hm (by decide))).1 rfl
        replace R := R.getS (pc' := 31) (host := "") (Or.inl (own_w130 hw)) Via.refl S_i own_d24_28 rfl
        replace R := R.iloadN (pc' := 32) (v := m) own_d24_31 rfl rfl
        obtain ⟨_, _, _, ⟨rfl, rfl, rfl⟩, R⟩ := R.callV (pc' := 35) (y := (⟨"java/lang/CharacterDataLatin1", "isWhitespace", "(I)Z"⟩ : MethodName)) (z := (⟨"java/lang/CharacterDataLatin1", "isWhitespace", "(I)Z"⟩ : MethodName)) (argsL := [(.int m)]) (rest := []) (W := 0) (own_w132 hw) (own_w133 hw) (fun s' hZ' => notFace_of_selects (args := #[]) (mvT hZ' (own_w135 hw))) (own_w135 hw) (own_w134 hw) (own_w131 hw) (own_w136 hw) (by decide) F8 (rm_isWs C.l Z a0 hw m h n0 Ds (hok m (List.mem_of_getElem? (i := 1) rfl)) S_i X_i S_A V_A) rfl (lenOf own_pd6 rfl) rfl rfl own_d24_32 (by decide) (by decide) (by decide) (by decide) rfl
        replace R := R.mono (ce' := 0) (sl' := 0) (by decide) (by decide)
        replace R := R.stk (S' := [(.int (s_ws m))]) rfl
        replace R := R.ifN (pc' := 38) own_d24_35 (teq (ws_m hm)).2 rfl
        replace R := R.goto (pc' := 47) own_d24_38 (by decide) rfl
        replace R := R.iloadN (pc' := 48) (v := (1 : Int32)) own_d24_47 rfl rfl
        exact R.retI (Ds' := Ds) hret own_d24_48 (by decide) (by decide) (fun _ q => q) ⟨_, rfl, (by decide : ¬ (1 : Int32) = Int32.ofNat 3), rfl, rfl⟩
set_option maxRecDepth 65536 in
set_option maxHeartbeats 4000000 in
theorem rm_ion3 (l : Launch) (Z : State) (a0 : Array Value) (hw : ∀ d ∈ tables_1, d.before a0 Z = true) (a : Addr) (h : Heap) (n0 : Nat) (Ds : List Addr) (own_cs : CompactOn Z) {c0 m c2 : Int32} (hm : Om m) (S_a : IsStr Z h a [c0, m, c2]) {a_i a_A : Addr} {k_A : ClassId} (S_i : Sta Z Z.heap "java/lang/CharacterDataLatin1" "instance" "Ljava/lang/CharacterDataLatin1;" (.ref a_i)) (X_i : Exa Z Z.heap a_i "java/lang/CharacterDataLatin1") (S_A : Sta Z Z.heap "java/lang/CharacterDataLatin1" "A" "[I" (.ref a_A)) (V_A : Arv Z Z.heap a_A k_A .int (256 : Int32) (tabI.map Value.int) (.int 0)) :
    Ctr l Z (⟨"java/lang/String", "indexOfNonWhitespace", "()I"⟩ : MethodName) jdk_42_method_120_code 1 (some .int) [] ({ frames := 3, cells := 0, slots := 0, locals := 44 } : Room) #[.ref a] h n0 Ds (fun v h' Ds' => ∃ r : Int32, v = some (.int r) ∧ ¬ r = Int32.ofNat ([c0, m, c2] : List Int32).length ∧ h = h' ∧ Ds = Ds') := by
  refine ctr_of (Ls := #[.val (.ref a)]) (plainFor_of_name own_pn0) (fun m => by first | (simp [entryFrame, mkF, argsToLocals, Value.category]; done) | rfl) ?_
  intro C hl hret hnm R
  subst hl
  obtain ⟨e1, e2, e3, e4, t, kb, e5, e6⟩ := S_a
  replace R := R.aloadN (pc' := 1) (v := (.ref a)) own_d22_0 rfl rfl rfl
  obtain ⟨_, _, _, ⟨rfl, rfl, rfl⟩, R⟩ := R.callV (pc' := 4) (y := (⟨"java/lang/String", "isLatin1", "()Z"⟩ : MethodName)) (z := (⟨"java/lang/String", "isLatin1", "()Z"⟩ : MethodName)) (argsL := []) (rest := []) (W := 0) (own_w119 hw) (own_w120 hw) (fun s' hZ' => notFace_of_selects (args := #[]) (mvT hZ' (own_w122 hw))) (own_w122 hw) (own_w121 hw) (own_w70 hw) (own_w123 hw) (by decide) e1 (rm_isLatin1 C.l Z a0 hw a h n0 Ds own_cs e2) rfl (lenOf own_pd7 rfl) rfl rfl own_d22_1 (by decide) (by decide) (by decide) (by decide) rfl
  replace R := R.mono (ce' := 0) (sl' := 0) (by decide) (by decide)
  replace R := R.stk (S' := [(.int (1 : Int32))]) rfl
  replace R := R.ifN (pc' := 7) own_d22_4 (feq (by decide : ¬ ((1 : Int32) = (0 : Int32)))).1 rfl
  replace R := R.aloadN (pc' := 8) (v := (.ref a)) own_d22_7 rfl rfl rfl
  replace R := R.getF (pc' := 11) (host := "") (Or.inl (own_w93 hw)) Via.refl e5 own_d22_8 rfl
  obtain ⟨_, _, _, ⟨rr, rfl, hrr, rfl, rfl⟩, R⟩ := R.callS (pc' := 14) (argsL := [(.ref t)]) (rest := []) (W := 0) (own_w124 hw) (own_w125 hw) (own_w100 hw) (own_w126 hw) (by decide) (rm_ionL3 C.l Z a0 hw t h n0 Ds hm e3 e6 S_i X_i S_A V_A) rfl (lenOf own_pd8 rfl) rfl rfl own_d22_11 (by decide) (by decide) (by decide) (by decide) rfl
  replace R := R.mono (ce' := 0) (sl' := 0) (by decide) (by decide)
  replace R := R.stk (S' := [(.int rr)]) rfl
  replace R := R.goto (pc' := 24) own_d22_14 (by decide) rfl
  exact R.retI (Ds' := Ds) hret own_d22_24 (by decide) (by decide) (fun _ q => q) ⟨_, rfl, hrr, rfl, rfl⟩
set_option maxRecDepth 65536 in
set_option maxHeartbeats 4000000 in
theorem rm_isBlank3 (l : Launch) (Z : State) (a0 : Array Value) (hw : ∀ d ∈ tables_1, d.before a0 Z = true) (a : Addr) (h : Heap) (n0 : Nat) (Ds : List Addr) (own_cs : CompactOn Z) {c0 m c2 : Int32} (hm : Om m) (S_a : IsStr Z h a [c0, m, c2]) {a_i a_A : Addr} {k_A : ClassId} (S_i : Sta Z Z.heap "java/lang/CharacterDataLatin1" "instance" "Ljava/lang/CharacterDataLatin1;" (.ref a_i)) (X_i : Exa Z Z.heap a_i "java/lang/CharacterDataLatin1") (S_A : Sta Z Z.heap "java/lang/CharacterDataLatin1" "A" "[I" (.ref a_A)) (V_A : Arv Z Z.heap a_A k_A .int (256 : Int32) (tabI.map Value.int) (.int 0)) :
    Ctr l Z (⟨"java/lang/String", "isBlank", "()Z"⟩ : MethodName) jdk_42_method_117_code 1 (some .boolean) [] ({ frames := 4, cells := 0, slots := 0, locals := 56 } : Room) #[.ref a] h n0 Ds (fun v h' Ds' => v = some (.int 0) ∧ h = h' ∧ Ds = Ds') := by
  have own_hln : ∀ d ∈ StrChars.Road.wordsLen, d.before a0 Z = true := fun d hd => hw d ((by decide +kernel : ∀ d ∈ StrChars.Road.wordsLen, d ∈ tables_1) d hd)
  refine ctr_of (Ls := #[.val (.ref a)]) (plainFor_of_name own_pn0) (fun m => by first | (simp [entryFrame, mkF, argsToLocals, Value.category]; done) | rfl) ?_
  intro C hl hret hnm R
  subst hl
  replace R := R.aloadN (pc' := 1) (v := (.ref a)) own_d21_0 rfl rfl rfl
  obtain ⟨_, _, _, ⟨rr, rfl, hrr, rfl, rfl⟩, R⟩ := R.callP (pc' := 4) (y := (⟨"java/lang/String", "indexOfNonWhitespace", "()I"⟩ : MethodName)) (argsL := []) (rest := []) (W := 0) (own_w114 hw) (own_w116 hw) (own_w117 hw) (own_w115 hw) (own_w70 hw) (own_w118 hw) (by decide) S_a.1 (rm_ion3 C.l Z a0 hw a h n0 Ds own_cs hm S_a S_i X_i S_A V_A) rfl (lenOf own_pd9 rfl) rfl rfl own_d21_1 (by decide) (by decide) (by decide) (by decide) rfl
  replace R := R.mono (ce' := 0) (sl' := 0) (by decide) (by decide)
  replace R := R.stk (S' := [(.int rr)]) rfl
  replace R := R.aloadN (pc' := 5) (v := (.ref a)) own_d21_4 rfl rfl rfl
  replace R := R.str_len (pc' := 8) (W := 1) own_hln (own_w69 hw) (own_w143 hw) (own_w144 hw) (own_w146 hw) (own_w145 hw) own_cs S_a rfl rfl own_d21_5 (by decide) (by decide) (by decide) (by decide) rfl
  replace R := R.stk (S' := [(.int (Int32.ofNat ([c0, m, c2] : List Int32).length)), (.int rr)]) rfl
  replace R := R.icmpY (pc' := 15) own_d21_8 (feq hrr).2 (by decide) rfl
  replace R := R.iconst (pc' := 16) (z := (0 : Int32)) own_d21_15 rfl rfl
  exact R.retN (Ds' := Ds) hret (by simp) (show nar .boolean (0 : Int32) = (0 : Int32) from rfl) own_d21_16 (by decide) (by decide) (fun _ q => q) ⟨rfl, rfl, rfl⟩
theorem rm_recinit (l : Launch) (Z : State) (a0 : Array Value) (hw : ∀ d ∈ tables_1, d.before a0 Z = true) (a : Addr) (h : Heap) (n0 : Nat) (Ds : List Addr) :
    Ctr l Z (⟨"java/lang/Record", "<init>", "()V"⟩ : MethodName) jdk_30_method_1_code 1 none [] ({ frames := 1, cells := 0, slots := 0, locals := 12 } : Room) #[.ref a] h n0 Ds (fun v h' Ds' => v = none ∧ h = h' ∧ Ds = Ds') := by
  refine ctr_of (Ls := #[.val (.ref a)]) (plainFor_of_name own_pn4) (fun m => by first | (simp [entryFrame, mkF, argsToLocals, Value.category]; done) | rfl) ?_
  intro C hl hret hnm R
  subst hl
  replace R := R.aloadN (pc' := 1) (v := (.ref a)) own_d3_0 rfl rfl rfl
  replace R := R.initO (pc' := 4) (W := 0) (own_w16 hw) (own_w17 hw) (own_w18 hw) rfl own_d3_1 (by decide) rfl (by decide) rfl
  exact R.retV (Ds' := Ds) hret own_d3_4 (by decide) (by decide) (fun _ q => q) ⟨rfl, rfl, rfl⟩
set_option maxRecDepth 65536 in
set_option maxHeartbeats 8000000 in
theorem rm_opts (l : Launch) (Z : State) (a0 : Array Value) (hw : ∀ d ∈ tables_1, d.before a0 Z = true) (a : Addr) (m sc fl : Value) (p3 p4 : Int32) (h : Heap) (n0 : Nat) (Ds : List Addr) (own_cs : CompactOn Z) (ha : a ∈ Ds) (hm' : m.isRef = true) {a_M : Addr} (S_M : Sta Z Z.heap "com/example/slicewise/slicewise/plan/Method" "MOD" "Lcom/example/slicewise/slicewise/plan/Method;" (.ref a_M)) {a_i a_A : Addr} {k_A : ClassId} (S_i : Sta Z Z.heap "java/lang/CharacterDataLatin1" "instance" "Ljava/lang/CharacterDataLatin1;" (.ref a_i)) (X_i : Exa Z Z.heap a_i "java/lang/CharacterDataLatin1") (S_A : Sta Z Z.heap "java/lang/CharacterDataLatin1" "A" "[I" (.ref a_A)) (V_A : Arv Z Z.heap a_A k_A .int (256 : Int32) (tabI.map Value.int) (.int 0)) (hmsc : sc = .null ∨ ∃ b, sc = .ref b ∧ (m = .null ∨ m = .ref a_M)) (hfl : FS Z h fl) (ht1 : ¬ p3 < 1) (ht64 : ¬ (64 : Int32) < p3) (hz : nar .boolean p4 = p4) {u_method u_splitColumn u_filter u_threads u_oneConnectionPerThread : Value} (E_a : Exa Z h a "com/example/slicewise/slicewise/plan/Options") (F_method : Fld Z h a "com/example/slicewise/slicewise/plan/Options" "method" "Lcom/example/slicewise/slicewise/plan/Method;" u_method) (F_splitColumn : Fld Z h a "com/example/slicewise/slicewise/plan/Options" "splitColumn" "Ljava/lang/String;" u_splitColumn) (F_filter : Fld Z h a "com/example/slicewise/slicewise/plan/Options" "filter" "Ljava/lang/String;" u_filter) (F_threads : Fld Z h a "com/example/slicewise/slicewise/plan/Options" "threads" "I" u_threads) (F_oneConnectionPerThread : Fld Z h a "com/example/slicewise/slicewise/plan/Options" "oneConnectionPerThread" "Z" u_oneConnectionPerThread) :
    Ctr l Z (⟨"com/example/slicewise/slicewise/plan/Options", "<init>", "(Lcom/example/slicewise/slicewise/plan/Method;Ljava/lang/String;Ljava/lang/String;IZ)V"⟩ : MethodName) prog_5_method_1_code 6 none [] ({ frames := 5, cells := 0, slots := 0, locals := 68 } : Room) #[.ref a, m, sc, fl, .int p3, .int p4] h n0 Ds (fun v h' Ds' => v = none ∧ Ds = Ds' ∧ Keep h h' [a] ∧ Exa Z h' a "com/example/slicewise/slicewise/plan/Options" ∧ Fld Z h' a "com/example/slicewise/slicewise/plan/Options" "method" "Lcom/example/slicewise/slicewise/plan/Method;" m ∧ Fld Z h' a "com/example/slicewise/slicewise/plan/Options" "splitColumn" "Ljava/lang/String;" sc ∧ Fld Z h' a "com/example/slicewise/slicewise/plan/Options" "filter" "Ljava/lang/String;" fl ∧ Fld Z h' a "com/example/slicewise/slicewise/plan/Options" "threads" "I" (.int p3) ∧ Fld Z h' a "com/example/slicewise/slicewise/plan/Options" "oneConnectionPerThread" "Z" (.int p4)) := by
  rcases hmsc with rfl | ⟨b, rfl, rfl | rfl⟩
  · rcases hfl with rfl | ⟨r, cs, rfl, S_r, ⟨m0, rfl, hm⟩ | ⟨c0, m0, c2, rfl, hm⟩⟩
    · refine ctr_of (Ls := #[.val (.ref a), .val m, .val .null, .val .null, .val (.int p3), .val (.int p4)]) (plainFor_of_name own_pn5) (fun mm => by rcases ref_cases hm' with rfl | ⟨_, rfl⟩ <;> first | (simp [entryFrame, mkF, argsToLocals, Value.category]; done) | rfl) ?_
      intro C hl hret hnm R
      subst hl
      replace R := R.aloadN (pc' := 1) (v := (.ref a)) own_d2_0 rfl rfl rfl
      obtain ⟨_, _, _, ⟨rfl, rfl, rfl⟩, R⟩ := R.callI (pc' := 4) (a := a) (argsL := []) (rest := []) (W := 0) rfl (own_w11 hw) (own_w12 hw) (own_w14 hw) (own_w15 hw) (by decide) (rm_recinit C.l Z a0 hw a h n0 Ds) rfl (lenOf own_pd10 rfl) rfl rfl own_d2_1 (by decide) (by decide) (by decide) (by decide) rfl
      replace R := R.mono (ce' := 0) (sl' := 0) (by decide) (by decide)
      replace R := R.stk (S' := []) rfl
      replace R := R.iload (pc' := 6) (v := p3) own_d2_4 rfl rfl
      replace R := R.iconst (pc' := 7) (z := (1 : Int32)) own_d2_6 rfl rfl
      replace R := R.icmpN (pc' := 10) own_d2_7 (flt ht1).1 rfl
      replace R := R.iload (pc' := 12) (v := p3) own_d2_10 rfl rfl
      replace R := R.bipush (pc' := 14) (z := (64 : Int32)) own_d2_12 rfl rfl
      replace R := R.icmpY (pc' := 32) own_d2_14 (flt ht64).2.2.2 (by decide) rfl
      replace R := R.aloadN (pc' := 33) (v := .null) own_d2_32 rfl rfl rfl
      replace R := R.ifnullY (pc' := 66) own_d2_33 (by decide) rfl
      replace R := R.aloadN (pc' := 67) (v := .null) own_d2_66 rfl rfl rfl
      replace R := R.ifnullY (pc' := 87) own_d2_67 (by decide) rfl
      replace R := R.aloadN (pc' := 88) (v := (.ref a)) own_d2_87 rfl rfl rfl
      replace R := R.aloadN (pc' := 89) (v := m) own_d2_88 rfl hm' rfl
      obtain ⟨h1, W1, R⟩ := R.putF (pc' := 92) (ty := (.object "com/example/slicewise/slicewise/plan/Method")) (host := "") (Or.inl (own_w19 hw)) Via.refl F_method E_a (Or.inr ⟨(own_w20 hw), rfl, hnm⟩) (own_w6 hw) (by decide) (own_nr rfl hm') (own_fr rfl hm') ha own_d2_89 rfl
      have F1 := F_method.same W1
      have F2 := F_splitColumn.other W1 (Or.inr (slot_ne (Or.inr (own_w22 hw)) (Or.inr (own_w20 hw)) (by decide) (t := (.object "java/lang/String")) (t' := (.object "com/example/slicewise/slicewise/plan/Method")) (by decide) (by decide)))
      have F3 := F_filter.other W1 (Or.inr (slot_ne (Or.inr (own_w24 hw)) (Or.inr (own_w20 hw)) (by decide) (t := (.object "java/lang/String")) (t' := (.object "com/example/slicewise/slicewise/plan/Method")) (by decide) (by decide)))
      have F4 := F_threads.other W1 (Or.inr (slot_ne (Or.inr (own_w26 hw)) (Or.inr (own_w20 hw)) (by decide) (t := .int) (t' := (.object "com/example/slicewise/slicewise/plan/Method")) (by decide) (by decide)))
      have F5 := F_oneConnectionPerThread.other W1 (Or.inr (slot_ne (Or.inr (own_w28 hw)) (Or.inr (own_w20 hw)) (by decide) (t := .boolean) (t' := (.object "com/example/slicewise/slicewise/plan/Method")) (by decide) (by decide)))
      replace R := R.aloadN (pc' := 93) (v := (.ref a)) own_d2_92 rfl rfl rfl
      replace R := R.aloadN (pc' := 94) (v := .null) own_d2_93 rfl rfl rfl
      have K6 := ((Keep.refl h [a]).trans (Keep.of_wr W1) (allS (Or.inl (List.mem_of_getElem? (i := 0) rfl)) all0))
      have F7 := E_a.keep K6
      obtain ⟨h8, W8, R⟩ := R.putF (pc' := 97) (ty := (.object "java/lang/String")) (host := "") (Or.inl (own_w21 hw)) Via.refl F2 F7 (Or.inr ⟨(own_w22 hw), rfl, hnm⟩) (own_w6 hw) (by decide) rfl rfl ha own_d2_94 rfl
      have F8 := F2.same W8
      have F9 := F1.other W8 (Or.inr (slot_ne (Or.inr (own_w20 hw)) (Or.inr (own_w22 hw)) (by decide) (t := (.object "com/example/slicewise/slicewise/plan/Method")) (t' := (.object "java/lang/String")) (by decide) (by decide)))
      have F10 := F3.other W8 (Or.inr (slot_ne (Or.inr (own_w24 hw)) (Or.inr (own_w22 hw)) (by decide) (t := (.object "java/lang/String")) (t' := (.object "java/lang/String")) (by decide) (by decide)))
      have F11 := F4.other W8 (Or.inr (slot_ne (Or.inr (own_w26 hw)) (Or.inr (own_w22 hw)) (by decide) (t := .int) (t' := (.object "java/lang/String")) (by decide) (by decide)))
      have F12 := F5.other W8 (Or.inr (slot_ne (Or.inr (own_w28 hw)) (Or.inr (own_w22 hw)) (by decide) (t := .boolean) (t' := (.object "java/lang/String")) (by decide) (by decide)))
      replace R := R.aloadN (pc' := 98) (v := (.ref a)) own_d2_97 rfl rfl rfl
      replace R := R.aloadN (pc' := 99) (v := .null) own_d2_98 rfl rfl rfl
      have K13 := ((Keep.refl h1 [a]).trans (Keep.of_wr W8) (allS (Or.inl (List.mem_of_getElem? (i := 0) rfl)) all0))
      have F14 := F7.keep K13
      obtain ⟨h15, W15, R⟩ := R.putF (pc' := 102) (ty := (.object "java/lang/String")) (host := "") (Or.inl (own_w23 hw)) Via.refl F10 F14 (Or.inr ⟨(own_w24 hw), rfl, hnm⟩) (own_w6 hw) (by decide) rfl rfl ha own_d2_99 rfl
      have F15 := F10.same W15
      have F16 := F9.other W15 (Or.inr (slot_ne (Or.inr (own_w20 hw)) (Or.inr (own_w24 hw)) (by decide) (t := (.object "com/example/slicewise/slicewise/plan/Method")) (t' := (.object "java/lang/String")) (by decide) (by decide)))
      have F17 := F8.other W15 (Or.inr (slot_ne (Or.inr (own_w22 hw)) (Or.inr (own_w24 hw)) (by decide) (t := (.object "java/lang/String")) (t' := (.object "java/lang/String")) (by decide) (by decide)))
      have F18 := F11.other W15 (Or.inr (slot_ne (Or.inr (own_w26 hw)) (Or.inr (own_w24 hw)) (by decide) (t := .int) (t' := (.object "java/lang/String")) (by decide) (by decide)))
      have F19 := F12.other W15 (Or.inr (slot_ne (Or.inr (own_w28 hw)) (Or.inr (own_w24 hw)) (by decide) (t := .boolean) (t' := (.object "java/lang/String")) (by decide) (by decide)))
      replace R := R.aloadN (pc' := 103) (v := (.ref a)) own_d2_102 rfl rfl rfl
      replace R := R.iload (pc' := 105) (v := p3) own_d2_103 rfl rfl
      have K20 := ((Keep.refl h8 [a]).trans (Keep.of_wr W15) (allS (Or.inl (List.mem_of_getElem? (i := 0) rfl)) all0))
      have F21 := F14.keep K20
      obtain ⟨h22, W22, R⟩ := R.putF (pc' := 108) (ty := .int) (host := "") (Or.inl (own_w25 hw)) Via.refl F18 F21 (Or.inr ⟨(own_w26 hw), rfl, hnm⟩) (own_w6 hw) (by decide) rfl rfl ha own_d2_105 rfl
      have F22 := F18.same W22
      have F23 := F16.other W22 (Or.inr (slot_ne (Or.inr (own_w20 hw)) (Or.inr (own_w26 hw)) (by decide) (t := (.object "com/example/slicewise/slicewise/plan/Method")) (t' := .int) (by decide) (by decide)))
      have F24 := F17.other W22 (Or.inr (slot_ne (Or.inr (own_w22 hw)) (Or.inr (own_w26 hw)) (by decide) (t := (.object "java/lang/String")) (t' := .int) (by decide) (by decide)))
      have F25 := F15.other W22 (Or.inr (slot_ne (Or.inr (own_w24 hw)) (Or.inr (own_w26 hw)) (by decide) (t := (.object "java/lang/String")) (t' := .int) (by decide) (by decide)))
      have F26 := F19.other W22 (Or.inr (slot_ne (Or.inr (own_w28 hw)) (Or.inr (own_w26 hw)) (by decide) (t := .boolean) (t' := .int) (by decide) (by decide)))
      replace R := R.aloadN (pc' := 109) (v := (.ref a)) own_d2_108 rfl rfl rfl
      replace R := R.iload (pc' := 111) (v := p4) own_d2_109 rfl rfl
      have K27 := ((Keep.refl h15 [a]).trans (Keep.of_wr W22) (allS (Or.inl (List.mem_of_getElem? (i := 0) rfl)) all0))
      have F28 := F21.keep K27
      obtain ⟨h29, W29, R⟩ := R.putFN (pc' := 114) (ty := .boolean) (v' := (.int p4)) (own_w27 hw) Via.refl F26 F28 (Or.inr ⟨(own_w28 hw), rfl, hnm⟩) (own_w6 hw) (by decide) (congrArg Value.int (hz)) (by rw [← hz]; exact fits_nar_bool _) ha own_d2_111 rfl
      have F29 := F26.same W29
      have F30 := F23.other W29 (Or.inr (slot_ne (Or.inr (own_w20 hw)) (Or.inr (own_w28 hw)) (by decide) (t := (.object "com/example/slicewise/slicewise/plan/Method")) (t' := .boolean) (by decide) (by decide)))
      have F31 := F24.other W29 (Or.inr (slot_ne (Or.inr (own_w22 hw)) (Or.inr (own_w28 hw)) (by decide) (t := (.object "java/lang/String")) (t' := .boolean) (by decide) (by decide)))
      have F32 := F25.other W29 (Or.inr (slot_ne (Or.inr (own_w24 hw)) (Or.inr (own_w28 hw)) (by decide) (t := (.object "java/lang/String")) (t' := .boolean) (by decide) (by decide)))
      have F33 := F22.other W29 (Or.inr (slot_ne (Or.inr (own_w26 hw)) (Or.inr (own_w28 hw)) (by decide) (t := .int) (t' := .boolean) (by decide) (by decide)))
      have hK := ((((((Keep.refl h [a]).trans (Keep.of_wr W1) (allS (Or.inl (List.mem_of_getElem? (i := 0) rfl)) all0)).trans (Keep.of_wr W8) (allS (Or.inl (List.mem_of_getElem? (i := 0) rfl)) all0)).trans (Keep.of_wr W15) (allS (Or.inl (List.mem_of_getElem? (i := 0) rfl)) all0)).trans (Keep.of_wr W22) (allS (Or.inl (List.mem_of_getElem? (i := 0) rfl)) all0)).trans (Keep.of_wr W29) (allS (Or.inl (List.mem_of_getElem? (i := 0) rfl)) all0))
      have K34 := ((Keep.refl h22 [a]).trans (Keep.of_wr W29) (allS (Or.inl (List.mem_of_getElem? (i := 0) rfl)) all0))
      have F35 := F28.keep K34
      exact R.retV (Ds' := Ds) hret own_d2_114 (by decide) (by decide) (fun _ q => q) ⟨rfl, rfl, hK, F35, F30, F31, F32, F33, F29⟩
    · refine ctr_of (Ls := #[.val (.ref a), .val m, .val .null, .val (.ref r), .val (.int p3), .val (.int p4)]) (plainFor_of_name own_pn5) (fun mm => by rcases ref_cases hm' with rfl | ⟨_, rfl⟩ <;> first | (simp [entryFrame, mkF, argsToLocals, Value.category]; done) | rfl) ?_
      intro C hl hret hnm R
      subst hl
      replace R := R.aloadN (pc' := 1) (v := (.ref a)) own_d2_0 rfl rfl rfl
      obtain ⟨_, _, _, ⟨rfl, rfl, rfl⟩, R⟩ := R.callI (pc' := 4) (a := a) (argsL := []) (rest := []) (W := 0) rfl (own_w11 hw) (own_w12 hw) (own_w14 hw) (own_w15 hw) (by decide) (rm_recinit C.l Z a0 hw a h n0 Ds) rfl (lenOf own_pd10 rfl) rfl rfl own_d2_1 (by decide) (by decide) (by decide) (by decide) rfl
      replace R := R.mono (ce' := 0) (sl' := 0) (by decide) (by decide)
      replace R := R.stk (S' := []) rfl
      replace R := R.iload (pc' := 6) (v := p3) own_d2_4 rfl rfl
      replace R := R.iconst (pc' := 7) (z := (1 : Int32)) own_d2_6 rfl rfl
      replace R := R.icmpN (pc' := 10) own_d2_7 (flt ht1).1 rfl
      replace R := R.iload (pc' := 12) (v := p3) own_d2_10 rfl rfl
      replace R := R.bipush (pc' := 14) (z := (64 : Int32)) own_d2_12 rfl rfl
      replace R := R.icmpY (pc' := 32) own_d2_14 (flt ht64).2.2.2 (by decide) rfl
      replace R := R.aloadN (pc' := 33) (v := .null) own_d2_32 rfl rfl rfl
      replace R := R.ifnullY (pc' := 66) own_d2_33 (by decide) rfl
      replace R := R.aloadN (pc' := 67) (v := (.ref r)) own_d2_66 rfl rfl rfl
      replace R := R.ifnullN (pc' := 70) own_d2_67 rfl
      replace R := R.aloadN (pc' := 71) (v := (.ref r)) own_d2_70 rfl rfl rfl
      obtain ⟨_, _, _, ⟨rfl, rfl, rfl⟩, R⟩ := R.callV (pc' := 74) (y := (⟨"java/lang/String", "isBlank", "()Z"⟩ : MethodName)) (z := (⟨"java/lang/String", "isBlank", "()Z"⟩ : MethodName)) (argsL := []) (rest := []) (W := 0) (own_w109 hw) (own_w110 hw) (fun s' hZ' => notFace_of_selects (args := #[]) (mvT hZ' (own_w112 hw))) (own_w112 hw) (own_w111 hw) (own_w70 hw) (own_w113 hw) (by decide) S_r.1 (rm_isBlank1 C.l Z a0 hw r h n0 Ds own_cs hm S_r S_i X_i S_A V_A) rfl (lenOf own_pd7 rfl) rfl rfl own_d2_71 (by decide) (by decide) (by decide) (by decide) rfl
      replace R := R.mono (ce' := 0) (sl' := 0) (by decide) (by decide)
      replace R := R.stk (S' := [(.int (0 : Int32))]) rfl
      replace R := R.ifY (pc' := 87) own_d2_74 (teq (by decide : (0 : Int32) = (0 : Int32))).1 (by decide) rfl
      replace R := R.aloadN (pc' := 88) (v := (.ref a)) own_d2_87 rfl rfl rfl
      replace R := R.aloadN (pc' := 89) (v := m) own_d2_88 rfl hm' rfl
      obtain ⟨h36, W36, R⟩ := R.putF (pc' := 92) (ty := (.object "com/example/slicewise/slicewise/plan/Method")) (host := "") (Or.inl (own_w19 hw)) Via.refl F_method E_a (Or.inr ⟨(own_w20 hw), rfl, hnm⟩) (own_w6 hw) (by decide) (own_nr rfl hm') (own_fr rfl hm') ha own_d2_89 rfl
      have F36 := F_method.same W36
      have F37 := F_splitColumn.other W36 (Or.inr (slot_ne (Or.inr (own_w22 hw)) (Or.inr (own_w20 hw)) (by decide) (t := (.object "java/lang/String")) (t' := (.object "com/example/slicewise/slicewise/plan/Method")) (by decide) (by decide)))
      have F38 := F_filter.other W36 (Or.inr (slot_ne (Or.inr (own_w24 hw)) (Or.inr (own_w20 hw)) (by decide) (t := (.object "java/lang/String")) (t' := (.object "com/example/slicewise/slicewise/plan/Method")) (by decide) (by decide)))
      have F39 := F_threads.other W36 (Or.inr (slot_ne (Or.inr (own_w26 hw)) (Or.inr (own_w20 hw)) (by decide) (t := .int) (t' := (.object "com/example/slicewise/slicewise/plan/Method")) (by decide) (by decide)))
      have F40 := F_oneConnectionPerThread.other W36 (Or.inr (slot_ne (Or.inr (own_w28 hw)) (Or.inr (own_w20 hw)) (by decide) (t := .boolean) (t' := (.object "com/example/slicewise/slicewise/plan/Method")) (by decide) (by decide)))
      replace R := R.aloadN (pc' := 93) (v := (.ref a)) own_d2_92 rfl rfl rfl
      replace R := R.aloadN (pc' := 94) (v := .null) own_d2_93 rfl rfl rfl
      have K41 := ((Keep.refl h [a]).trans (Keep.of_wr W36) (allS (Or.inl (List.mem_of_getElem? (i := 0) rfl)) all0))
      have F42 := E_a.keep K41
      obtain ⟨h43, W43, R⟩ := R.putF (pc' := 97) (ty := (.object "java/lang/String")) (host := "") (Or.inl (own_w21 hw)) Via.refl F37 F42 (Or.inr ⟨(own_w22 hw), rfl, hnm⟩) (own_w6 hw) (by decide) rfl rfl ha own_d2_94 rfl
      have F43 := F37.same W43
      have F44 := F36.other W43 (Or.inr (slot_ne (Or.inr (own_w20 hw)) (Or.inr (own_w22 hw)) (by decide) (t := (.object "com/example/slicewise/slicewise/plan/Method")) (t' := (.object "java/lang/String")) (by decide) (by decide)))
      have F45 := F38.other W43 (Or.inr (slot_ne (Or.inr (own_w24 hw)) (Or.inr (own_w22 hw)) (by decide) (t := (.object "java/lang/String")) (t' := (.object "java/lang/String")) (by decide) (by decide)))
      have F46 := F39.other W43 (Or.inr (slot_ne (Or.inr (own_w26 hw)) (Or.inr (own_w22 hw)) (by decide) (t := .int) (t' := (.object "java/lang/String")) (by decide) (by decide)))
      have F47 := F40.other W43 (Or.inr (slot_ne (Or.inr (own_w28 hw)) (Or.inr (own_w22 hw)) (by decide) (t := .boolean) (t' := (.object "java/lang/String")) (by decide) (by decide)))
      replace R := R.aloadN (pc' := 98) (v := (.ref a)) own_d2_97 rfl rfl rfl
      replace R := R.aloadN (pc' := 99) (v := (.ref r)) own_d2_98 rfl rfl rfl
      have K48 := ((Keep.refl h36 [a]).trans (Keep.of_wr W43) (allS (Or.inl (List.mem_of_getElem? (i := 0) rfl)) all0))
      have F49 := F42.keep K48
      obtain ⟨h50, W50, R⟩ := R.putF (pc' := 102) (ty := (.object "java/lang/String")) (host := "") (Or.inl (own_w23 hw)) Via.refl F45 F49 (Or.inr ⟨(own_w24 hw), rfl, hnm⟩) (own_w6 hw) (by decide) rfl rfl ha own_d2_99 rfl
      have F50 := F45.same W50
      have F51 := F44.other W50 (Or.inr (slot_ne (Or.inr (own_w20 hw)) (Or.inr (own_w24 hw)) (by decide) (t := (.object "com/example/slicewise/slicewise/plan/Method")) (t' := (.object "java/lang/String")) (by decide) (by decide)))
      have F52 := F43.other W50 (Or.inr (slot_ne (Or.inr (own_w22 hw)) (Or.inr (own_w24 hw)) (by decide) (t := (.object "java/lang/String")) (t' := (.object "java/lang/String")) (by decide) (by decide)))
      have F53 := F46.other W50 (Or.inr (slot_ne (Or.inr (own_w26 hw)) (Or.inr (own_w24 hw)) (by decide) (t := .int) (t' := (.object "java/lang/String")) (by decide) (by decide)))
      have F54 := F47.other W50 (Or.inr (slot_ne (Or.inr (own_w28 hw)) (Or.inr (own_w24 hw)) (by decide) (t := .boolean) (t' := (.object "java/lang/String")) (by decide) (by decide)))
      replace R := R.aloadN (pc' := 103) (v := (.ref a)) own_d2_102 rfl rfl rfl
      replace R := R.iload (pc' := 105) (v := p3) own_d2_103 rfl rfl
      have K55 := ((Keep.refl h43 [a]).trans (Keep.of_wr W50) (allS (Or.inl (List.mem_of_getElem? (i := 0) rfl)) all0))
      have F56 := F49.keep K55
      obtain ⟨h57, W57, R⟩ := R.putF (pc' := 108) (ty := .int) (host := "") (Or.inl (own_w25 hw)) Via.refl F53 F56 (Or.inr ⟨(own_w26 hw), rfl, hnm⟩) (own_w6 hw) (by decide) rfl rfl ha own_d2_105 rfl
      have F57 := F53.same W57
      have F58 := F51.other W57 (Or.inr (slot_ne (Or.inr (own_w20 hw)) (Or.inr (own_w26 hw)) (by decide) (t := (.object "com/example/slicewise/slicewise/plan/Method")) (t' := .int) (by decide) (by decide)))
      have F59 := F52.other W57 (Or.inr (slot_ne (Or.inr (own_w22 hw)) (Or.inr (own_w26 hw)) (by decide) (t := (.object "java/lang/String")) (t' := .int) (by decide) (by decide)))
      have F60 := F50.other W57 (Or.inr (slot_ne (Or.inr (own_w24 hw)) (Or.inr (own_w26 hw)) (by decide) (t := (.object "java/lang/String")) (t' := .int) (by decide) (by decide)))
      have F61 := F54.other W57 (Or.inr (slot_ne (Or.inr (own_w28 hw)) (Or.inr (own_w26 hw)) (by decide) (t := .boolean) (t' := .int) (by decide) (by decide)))
      replace R := R.aloadN (pc' := 109) (v := (.ref a)) own_d2_108 rfl rfl rfl
      replace R := R.iload (pc' := 111) (v := p4) own_d2_109 rfl rfl
      have K62 := ((Keep.refl h50 [a]).trans (Keep.of_wr W57) (allS (Or.inl (List.mem_of_getElem? (i := 0) rfl)) all0))
      have F63 := F56.keep K62
      obtain ⟨h64, W64, R⟩ := R.putFN (pc' := 114) (ty := .boolean) (v' := (.int p4)) (own_w27 hw) Via.refl F61 F63 (Or.inr ⟨(own_w28 hw), rfl, hnm⟩) (own_w6 hw) (by decide) (congrArg Value.int (hz)) (by rw [← hz]; exact fits_nar_bool _) ha own_d2_111 rfl
      have F64 := F61.same W64
      have F65 := F58.other W64 (Or.inr (slot_ne (Or.inr (own_w20 hw)) (Or.inr (own_w28 hw)) (by decide) (t := (.object "com/example/slicewise/slicewise/plan/Method")) (t' := .boolean) (by decide) (by decide)))
      have F66 := F59.other W64 (Or.inr (slot_ne (Or.inr (own_w22 hw)) (Or.inr (own_w28 hw)) (by decide) (t := (.object "java/lang/String")) (t' := .boolean) (by decide) (by decide)))
      have F67 := F60.other W64 (Or.inr (slot_ne (Or.inr (own_w24 hw)) (Or.inr (own_w28 hw)) (by decide) (t := (.object "java/lang/String")) (t' := .boolean) (by decide) (by decide)))
      have F68 := F57.other W64 (Or.inr (slot_ne (Or.inr (own_w26 hw)) (Or.inr (own_w28 hw)) (by decide) (t := .int) (t' := .boolean) (by decide) (by decide)))
      have hK := ((((((Keep.refl h [a]).trans (Keep.of_wr W36) (allS (Or.inl (List.mem_of_getElem? (i := 0) rfl)) all0)).trans (Keep.of_wr W43) (allS (Or.inl (List.mem_of_getElem? (i := 0) rfl)) all0)).trans (Keep.of_wr W50) (allS (Or.inl (List.mem_of_getElem? (i := 0) rfl)) all0)).trans (Keep.of_wr W57) (allS (Or.inl (List.mem_of_getElem? (i := 0) rfl)) all0)).trans (Keep.of_wr W64) (allS (Or.inl (List.mem_of_getElem? (i := 0) rfl)) all0))
      have K69 := ((Keep.refl h57 [a]).trans (Keep.of_wr W64) (allS (Or.inl (List.mem_of_getElem? (i := 0) rfl)) all0))
      have F70 := F63.keep K69
      exact R.retV (Ds' := Ds) hret own_d2_114 (by decide) (by decide) (fun _ q => q) ⟨rfl, rfl, hK, F70, F65, F66, F67, F68, F64⟩
    · refine ctr_of (Ls := #[.val (.ref a), .val m, .val .null, .val (.ref r), .val (.int p3), .val (.int p4)]) (plainFor_of_name own_pn5) (fun mm => by rcases ref_cases hm' with rfl | ⟨_, rfl⟩ <;> first | (simp [entryFrame, mkF, argsToLocals, Value.category]; done) | rfl) ?_
      intro C hl hret hnm R
      subst hl
      replace R := R.aloadN (pc' := 1) (v := (.ref a)) own_d2_0 rfl rfl rfl
      obtain ⟨_, _, _, ⟨rfl, rfl, rfl⟩, R⟩ := R.callI (pc' := 4) (a := a) (argsL := []) (rest := []) (W := 0) rfl (own_w11 hw) (own_w12 hw) (own_w14 hw) (own_w15 hw) (by decide) (rm_recinit C.l Z a0 hw a h n0 Ds) rfl (lenOf own_pd10 rfl) rfl rfl own_d2_1 (by decide) (by decide) (by decide) (by decide) rfl
      replace R := R.mono (ce' := 0) (sl' := 0) (by decide) (by decide)
      replace R := R.stk (S' := []) rfl
      replace R := R.iload (pc' := 6) (v := p3) own_d2_4 rfl rfl
      replace R := R.iconst (pc' := 7) (z := (1 : Int32)) own_d2_6 rfl rfl
      replace R := R.icmpN (pc' := 10) own_d2_7 (flt ht1).1 rfl
      replace R := R.iload (pc' := 12) (v := p3) own_d2_10 rfl rfl
      replace R := R.bipush (pc' := 14) (z := (64 : Int32)) own_d2_12 rfl rfl
      replace R := R.icmpY (pc' := 32) own_d2_14 (flt ht64).2.2.2 (by decide) rfl
      replace R := R.aloadN (pc' := 33) (v := .null) own_d2_32 rfl rfl rfl
      replace R := R.ifnullY (pc' := 66) own_d2_33 (by decide) rfl
      replace R := R.aloadN (pc' := 67) (v := (.ref r)) own_d2_66 rfl rfl rfl
      replace R := R.ifnullN (pc' := 70) own_d2_67 rfl
      replace R := R.aloadN (pc' := 71) (v := (.ref r)) own_d2_70 rfl rfl rfl
      obtain ⟨_, _, _, ⟨rfl, rfl, rfl⟩, R⟩ := R.callV (pc' := 74) (y := (⟨"java/lang/String", "isBlank", "()Z"⟩ : MethodName)) (z := (⟨"java/lang/String", "isBlank", "()Z"⟩ : MethodName)) (argsL := []) (rest := []) (W := 0) (own_w109 hw) (own_w110 hw) (fun s' hZ' => notFace_of_selects (args := #[]) (mvT hZ' (own_w112 hw))) (own_w112 hw) (own_w111 hw) (own_w70 hw) (own_w113 hw) (by decide) S_r.1 (rm_isBlank3 C.l Z a0 hw r h n0 Ds own_cs hm S_r S_i X_i S_A V_A) rfl (lenOf own_pd7 rfl) rfl rfl own_d2_71 (by decide) (by decide) (by decide) (by decide) rfl
      replace R := R.mono (ce' := 0) (sl' := 0) (by decide) (by decide)
      replace R := R.stk (S' := [(.int (0 : Int32))]) rfl
      replace R := R.ifY (pc' := 87) own_d2_74 (teq (by decide : (0 : Int32) = (0 : Int32))).1 (by decide) rfl
      replace R := R.aloadN (pc' := 88) (v := (.ref a)) own_d2_87 rfl rfl rfl
      replace R := R.aloadN (pc' := 89) (v := m) own_d2_88 rfl hm' rfl
      obtain ⟨h71, W71, R⟩ := R.putF (pc' := 92) (ty := (.object "com/example/slicewise/slicewise/plan/Method")) (host := "") (Or.inl (own_w19 hw)) Via.refl F_method E_a (Or.inr ⟨(own_w20 hw), rfl, hnm⟩) (own_w6 hw) (by decide) (own_nr rfl hm') (own_fr rfl hm') ha own_d2_89 rfl
      have F71 := F_method.same W71
      have F72 := F_splitColumn.other W71 (Or.inr (slot_ne (Or.inr (own_w22 hw)) (Or.inr (own_w20 hw)) (by decide) (t := (.object "java/lang/String")) (t' := (.object "com/example/slicewise/slicewise/plan/Method")) (by decide) (by decide)))
      have F73 := F_filter.other W71 (Or.inr (slot_ne (Or.inr (own_w24 hw)) (Or.inr (own_w20 hw)) (by decide) (t := (.object "java/lang/String")) (t' := (.object "com/example/slicewise/slicewise/plan/Method")) (by decide) (by decide)))
      have F74 := F_threads.other W71 (Or.inr (slot_ne (Or.inr (own_w26 hw)) (Or.inr (own_w20 hw)) (by decide) (t := .int) (t' := (.object "com/example/slicewise/slicewise/plan/Method")) (by decide) (by decide)))
      have F75 := F_oneConnectionPerThread.other W71 (Or.inr (slot_ne (Or.inr (own_w28 hw)) (Or.inr (own_w20 hw)) (by decide) (t := .boolean) (t' := (.object "com/example/slicewise/slicewise/plan/Method")) (by decide) (by decide)))
      replace R := R.aloadN (pc' := 93) (v := (.ref a)) own_d2_92 rfl rfl rfl
      replace R := R.aloadN (pc' := 94) (v := .null) own_d2_93 rfl rfl rfl
      have K76 := ((Keep.refl h [a]).trans (Keep.of_wr W71) (allS (Or.inl (List.mem_of_getElem? (i := 0) rfl)) all0))
      have F77 := E_a.keep K76
      obtain ⟨h78, W78, R⟩ := R.putF (pc' := 97) (ty := (.object "java/lang/String")) (host := "") (Or.inl (own_w21 hw)) Via.refl F72 F77 (Or.inr ⟨(own_w22 hw), rfl, hnm⟩) (own_w6 hw) (by decide) rfl rfl ha own_d2_94 rfl
      have F78 := F72.same W78
      have F79 := F71.other W78 (Or.inr (slot_ne (Or.inr (own_w20 hw)) (Or.inr (own_w22 hw)) (by decide) (t := (.object "com/example/slicewise/slicewise/plan/Method")) (t' := (.object "java/lang/String")) (by decide) (by decide)))
      have F80 := F73.other W78 (Or.inr (slot_ne (Or.inr (own_w24 hw)) (Or.inr (own_w22 hw)) (by decide) (t := (.object "java/lang/String")) (t' := (.object "java/lang/String")) (by decide) (by decide)))
      have F81 := F74.other W78 (Or.inr (slot_ne (Or.inr (own_w26 hw)) (Or.inr (own_w22 hw)) (by decide) (t := .int) (t' := (.object "java/lang/String")) (by decide) (by decide)))
      have F82 := F75.other W78 (Or.inr (slot_ne (Or.inr (own_w28 hw)) (Or.inr (own_w22 hw)) (by decide) (t := .boolean) (t' := (.object "java/lang/String")) (by decide) (by decide)))
      replace R := R.aloadN (pc' := 98) (v := (.ref a)) own_d2_97 rfl rfl rfl
      replace R := R.aloadN (pc' := 99) (v := (.ref r)) own_d2_98 rfl rfl rfl
      have K83 := ((Keep.refl h71 [a]).trans (Keep.of_wr W78) (allS (Or.inl (List.mem_of_getElem? (i := 0) rfl)) all0))
      have F84 := F77.keep K83
      obtain ⟨h85, W85, R⟩ := R.putF (pc' := 102) (ty := (.object "java/lang/String")) (host := "") (Or.inl (own_w23 hw)) Via.refl F80 F84 (Or.inr ⟨(own_w24 hw), rfl, hnm⟩) (own_w6 hw) (by decide) rfl rfl ha own_d2_99 rfl
      have F85 := F80.same W85
      have F86 := F79.other W85 (Or.inr (slot_ne (Or.inr (own_w20 hw)) (Or.inr (own_w24 hw)) (by decide) (t := (.object "com/example/slicewise/slicewise/plan/Method")) (t' := (.object "java/lang/String")) (by decide) (by decide)))
      have F87 := F78.other W85 (Or.inr (slot_ne (Or.inr (own_w22 hw)) (Or.inr (own_w24 hw)) (by decide) (t := (.object "java/lang/String")) (t' := (.object "java/lang/String")) (by decide) (by decide)))
      have F88 := F81.other W85 (Or.inr (slot_ne (Or.inr (own_w26 hw)) (Or.inr (own_w24 hw)) (by decide) (t := .int) (t' := (.object "java/lang/String")) (by decide) (by decide)))
      have F89 := F82.other W85 (Or.inr (slot_ne (Or.inr (own_w28 hw)) (Or.inr (own_w24 hw)) (by decide) (t := .boolean) (t' := (.object "java/lang/String")) (by decide) (by decide)))
      replace R := R.aloadN (pc' := 103) (v := (.ref a)) own_d2_102 rfl rfl rfl
      replace R := R.iload (pc' := 105) (v := p3) own_d2_103 rfl rfl
      have K90 := ((Keep.refl h78 [a]).trans (Keep.of_wr W85) (allS (Or.inl (List.mem_of_getElem? (i := 0) rfl)) all0))
      have F91 := F84.keep K90
      obtain ⟨h92, W92, R⟩ := R.putF (pc' := 108) (ty := .int) (host := "") (Or.inl (own_w25 hw)) Via.refl F88 F91 (Or.inr ⟨(own_w26 hw), rfl, hnm⟩) (own_w6 hw) (by decide) rfl rfl ha own_d2_105 rfl
      have F92 := F88.same W92
      have F93 := F86.other W92 (Or.inr (slot_ne (Or.inr (own_w20 hw)) (Or.inr (own_w26 hw)) (by decide) (t := (.object "com/example/slicewise/slicewise/plan/Method")) (t' := .int) (by decide) (by decide)))
      have F94 := F87.other W92 (Or.inr (slot_ne (Or.inr (own_w22 hw)) (Or.inr (own_w26 hw)) (by decide) (t := (.object "java/lang/String")) (t' := .int) (by decide) (by decide)))
      have F95 := F85.other W92 (Or.inr (slot_ne (Or.inr (own_w24 hw)) (Or.inr (own_w26 hw)) (by decide) (t := (.object "java/lang/String")) (t' := .int) (by decide) (by decide)))
      have F96 := F89.other W92 (Or.inr (slot_ne (Or.inr (own_w28 hw)) (Or.inr (own_w26 hw)) (by decide) (t := .boolean) (t' := .int) (by decide) (by decide)))
      replace R := R.aloadN (pc' := 109) (v := (.ref a)) own_d2_108 rfl rfl rfl
      replace R := R.iload (pc' := 111) (v := p4) own_d2_109 rfl rfl
      have K97 := ((Keep.refl h85 [a]).trans (Keep.of_wr W92) (allS (Or.inl (List.mem_of_getElem? (i := 0) rfl)) all0))
      have F98 := F91.keep K97
      obtain ⟨h99, W99, R⟩ := R.putFN (pc' := 114) (ty := .boolean) (v' := (.int p4)) (own_w27 hw) Via.refl F96 F98 (Or.inr ⟨(own_w28 hw), rfl, hnm⟩) (own_w6 hw) (by decide) (congrArg Value.int (hz)) (by rw [← hz]; exact fits_nar_bool _) ha own_d2_111 rfl
      have F99 := F96.same W99
      have F100 := F93.other W99 (Or.inr (slot_ne (Or.inr (own_w20 hw)) (Or.inr (own_w28 hw)) (by decide) (t := (.object "com/example/slicewise/slicewise/plan/Method")) (t' := .boolean) (by decide) (by decide)))
      have F101 := F94.other W99 (Or.inr (slot_ne (Or.inr (own_w22 hw)) (Or.inr (own_w28 hw)) (by decide) (t := (.object "java/lang/String")) (t' := .boolean) (by decide) (by decide)))
      have F102 := F95.other W99 (Or.inr (slot_ne (Or.inr (own_w24 hw)) (Or.inr (own_w28 hw)) (by decide) (t := (.object "java/lang/String")) (t' := .boolean) (by decide) (by decide)))
      have F103 := F92.other W99 (Or.inr (slot_ne (Or.inr (own_w26 hw)) (Or.inr (own_w28 hw)) (by decide) (t := .int) (t' := .boolean) (by decide) (by decide)))
      have hK := ((((((Keep.refl h [a]).trans (Keep.of_wr W71) (allS (Or.inl (List.mem_of_getElem? (i := 0) rfl)) all0)).trans (Keep.of_wr W78) (allS (Or.inl (List.mem_of_getElem? (i := 0) rfl)) all0)).trans (Keep.of_wr W85) (allS (Or.inl (List.mem_of_getElem? (i := 0) rfl)) all0)).trans (Keep.of_wr W92) (allS (Or.inl (List.mem_of_getElem? (i := 0) rfl)) all0)).trans (Keep.of_wr W99) (allS (Or.inl (List.mem_of_getElem? (i := 0) rfl)) all0))
      have K104 := ((Keep.refl h92 [a]).trans (Keep.of_wr W99) (allS (Or.inl (List.mem_of_getElem? (i := 0) rfl)) all0))
      have F105 := F98.keep K104
      exact R.retV (Ds' := Ds) hret own_d2_114 (by decide) (by decide) (fun _ q => q) ⟨rfl, rfl, hK, F105, F100, F101, F102, F103, F99⟩
  · rcases hfl with rfl | ⟨r, cs, rfl, S_r, ⟨m0, rfl, hm⟩ | ⟨c0, m0, c2, rfl, hm⟩⟩
    · refine ctr_of (Ls := #[.val (.ref a), .val .null, .val (.ref b), .val .null, .val (.int p3), .val (.int p4)]) (plainFor_of_name own_pn5) (fun mm => by first | (simp [entryFrame, mkF, argsToLocals, Value.category]; done) | rfl) ?_
      intro C hl hret hnm R
      subst hl
      replace R := R.aloadN (pc' := 1) (v := (.ref a)) own_d2_0 rfl rfl rfl
      obtain ⟨_, _, _, ⟨rfl, rfl, rfl⟩, R⟩ := R.callI (pc' := 4) (a := a) (argsL := []) (rest := []) (W := 0) rfl (own_w11 hw) (own_w12 hw) (own_w14 hw) (own_w15 hw) (by decide) (rm_recinit C.l Z a0 hw a h n0 Ds) rfl (lenOf own_pd10 rfl) rfl rfl own_d2_1 (by decide) (by decide) (by decide) (by decide) rfl
      replace R := R.mono (ce' := 0) (sl' := 0) (by decide) (by decide)
      replace R := R.stk (S' := []) rfl
      replace R := R.iload (pc' := 6) (v := p3) own_d2_4 rfl rfl
      replace R := R.iconst (pc' := 7) (z := (1 : Int32)) own_d2_6 rfl rfl
      replace R := R.icmpN (pc' := 10) own_d2_7 (flt ht1).1 rfl
      replace R := R.iload (pc' := 12) (v := p3) own_d2_10 rfl rfl
      replace R := R.bipush (pc' := 14) (z := (64 : Int32)) own_d2_12 rfl rfl
      replace R := R.icmpY (pc' := 32) own_d2_14 (flt ht64).2.2.2 (by decide) rfl
      replace R := R.aloadN (pc' := 33) (v := (.ref b)) own_d2_32 rfl rfl rfl
      replace R := R.ifnullN (pc' := 36) own_d2_33 rfl
      replace R := R.aloadN (pc' := 37) (v := .null) own_d2_36 rfl rfl rfl
      replace R := R.ifnullY (pc' := 66) own_d2_37 (by decide) rfl
      replace R := R.aloadN (pc' := 67) (v := .null) own_d2_66 rfl rfl rfl
      replace R := R.ifnullY (pc' := 87) own_d2_67 (by decide) rfl
      replace R := R.aloadN (pc' := 88) (v := (.ref a)) own_d2_87 rfl rfl rfl
      replace R := R.aloadN (pc' := 89) (v := .null) own_d2_88 rfl rfl rfl
      obtain ⟨h106, W106, R⟩ := R.putF (pc' := 92) (ty := (.object "com/example/slicewise/slicewise/plan/Method")) (host := "") (Or.inl (own_w19 hw)) Via.refl F_method E_a (Or.inr ⟨(own_w20 hw), rfl, hnm⟩) (own_w6 hw) (by decide) rfl rfl ha own_d2_89 rfl
      have F106 := F_method.same W106
      have F107 := F_splitColumn.other W106 (Or.inr (slot_ne (Or.inr (own_w22 hw)) (Or.inr (own_w20 hw)) (by decide) (t := (.object "java/lang/String")) (t' := (.object "com/example/slicewise/slicewise/plan/Method")) (by decide) (by decide)))
      have F108 := F_filter.other W106 (Or.inr (slot_ne (Or.inr (own_w24 hw)) (Or.inr (own_w20 hw)) (by decide) (t := (.object "java/lang/String")) (t' := (.object "com/example/slicewise/slicewise/plan/Method")) (by decide) (by decide)))
      have F109 := F_threads.other W106 (Or.inr (slot_ne (Or.inr (own_w26 hw)) (Or.inr (own_w20 hw)) (by decide) (t := .int) (t' := (.object "com/example/slicewise/slicewise/plan/Method")) (by decide) (by decide)))
      have F110 := F_oneConnectionPerThread.other W106 (Or.inr (slot_ne (Or.inr (own_w28 hw)) (Or.inr (own_w20 hw)) (by decide) (t := .boolean) (t' := (.object "com/example/slicewise/slicewise/plan/Method")) (by decide) (by decide)))
      replace R := R.aloadN (pc' := 93) (v := (.ref a)) own_d2_92 rfl rfl rfl
      replace R := R.aloadN (pc' := 94) (v := (.ref b)) own_d2_93 rfl rfl rfl
      have K111 := ((Keep.refl h [a]).trans (Keep.of_wr W106) (allS (Or.inl (List.mem_of_getElem? (i := 0) rfl)) all0))
      have F112 := E_a.keep K111
      obtain ⟨h113, W113, R⟩ := R.putF (pc' := 97) (ty := (.object "java/lang/String")) (host := "") (Or.inl (own_w21 hw)) Via.refl F107 F112 (Or.inr ⟨(own_w22 hw), rfl, hnm⟩) (own_w6 hw) (by decide) rfl rfl ha own_d2_94 rfl
      have F113 := F107.same W113
      have F114 := F106.other W113 (Or.inr (slot_ne (Or.inr (own_w20 hw)) (Or.inr (own_w22 hw)) (by decide) (t := (.object "com/example/slicewise/slicewise/plan/Method")) (t' := (.object "java/lang/String")) (by decide) (by decide)))
      have F115 := F108.other W113 (Or.inr (slot_ne (Or.inr (own_w24 hw)) (Or.inr (own_w22 hw)) (by decide) (t := (.object "java/lang/String")) (t' := (.object "java/lang/String")) (by decide) (by decide)))
      have F116 := F109.other W113 (Or.inr (slot_ne (Or.inr (own_w26 hw)) (Or.inr (own_w22 hw)) (by decide) (t := .int) (t' := (.object "java/lang/String")) (by decide) (by decide)))
      have F117 := F110.other W113 (Or.inr (slot_ne (Or.inr (own_w28 hw)) (Or.inr (own_w22 hw)) (by decide) (t := .boolean) (t' := (.object "java/lang/String")) (by decide) (by decide)))
      replace R := R.aloadN (pc' := 98) (v := (.ref a)) own_d2_97 rfl rfl rfl
      replace R := R.aloadN (pc' := 99) (v := .null) own_d2_98 rfl rfl rfl
      have K118 := ((Keep.refl h106 [a]).trans (Keep.of_wr W113) (allS (Or.inl (List.mem_of_getElem? (i := 0) rfl)) all0))
      have F119 := F112.keep K118
      obtain ⟨h120, W120, R⟩ := R.putF (pc' := 102) (ty := (.object "java/lang/String")) (host := "") (Or.inl (own_w23 hw)) Via.refl F115 F119 (Or.inr ⟨(own_w24 hw), rfl, hnm⟩) (own_w6 hw) (by decide) rfl rfl ha own_d2_99 rfl
      have F120 := F115.same W120
      have F121 := F114.other W120 (Or.inr (slot_ne (Or.inr (own_w20 hw)) (Or.inr (own_w24 hw)) (by decide) (t := (.object "com/example/slicewise/slicewise/plan/Method")) (t' := (.object "java/lang/String")) (by decide) (by decide)))
      have F122 := F113.other W120 (Or.inr (slot_ne (Or.inr (own_w22 hw)) (Or.inr (own_w24 hw)) (by decide) (t := (.object "java/lang/String")) (t' := (.object "java/lang/String")) (by decide) (by decide)))
      have F123 := F116.other W120 (Or.inr (slot_ne (Or.inr (own_w26 hw)) (Or.inr (own_w24 hw)) (by decide) (t := .int) (t' := (.object "java/lang/String")) (by decide) (by decide)))
      have F124 := F117.other W120 (Or.inr (slot_ne (Or.inr (own_w28 hw)) (Or.inr (own_w24 hw)) (by decide) (t := .boolean) (t' := (.object "java/lang/String")) (by decide) (by decide)))
      replace R := R.aloadN (pc' := 103) (v := (.ref a)) own_d2_102 rfl rfl rfl
      replace R := R.iload (pc' := 105) (v := p3) own_d2_103 rfl rfl
      have K125 := ((Keep.refl h113 [a]).trans (Keep.of_wr W120) (allS (Or.inl (List.mem_of_getElem? (i := 0) rfl)) all0))
      have F126 := F119.keep K125
      obtain ⟨h127, W127, R⟩ := R.putF (pc' := 108) (ty := .int) (host := "") (Or.inl (own_w25 hw)) Via.refl F123 F126 (Or.inr ⟨(own_w26 hw), rfl, hnm⟩) (own_w6 hw) (by decide) rfl rfl ha own_d2_105 rfl
      have F127 := F123.same W127
      have F128 := F121.other W127 (Or.inr (slot_ne (Or.inr (own_w20 hw)) (Or.inr (own_w26 hw)) (by decide) (t := (.object "com/example/slicewise/slicewise/plan/Method")) (t' := .int) (by decide) (by decide)))
      have F129 := F122.other W127 (Or.inr (slot_ne (Or.inr (own_w22 hw)) (Or.inr (own_w26 hw)) (by decide) (t := (.object "java/lang/String")) (t' := .int) (by decide) (by decide)))
      have F130 := F120.other W127 (Or.inr (slot_ne (Or.inr (own_w24 hw)) (Or.inr (own_w26 hw)) (by decide) (t := (.object "java/lang/String")) (t' := .int) (by decide) (by decide)))
      have F131 := F124.other W127 (Or.inr (slot_ne (Or.inr (own_w28 hw)) (Or.inr (own_w26 hw)) (by decide) (t := .boolean) (t' := .int) (by decide) (by decide)))
      replace R := R.aloadN (pc' := 109) (v := (.ref a)) own_d2_108 rfl rfl rfl
      replace R := R.iload (pc' := 111) (v := p4) own_d2_109 rfl rfl
      have K132 := ((Keep.refl h120 [a]).trans (Keep.of_wr W127) (allS (Or.inl (List.mem_of_getElem? (i := 0) rfl)) all0))
      have F133 := F126.keep K132
      obtain ⟨h134, W134, R⟩ := R.putFN (pc' := 114) (ty := .boolean) (v' := (.int p4)) (own_w27 hw) Via.refl F131 F133 (Or.inr ⟨(own_w28 hw), rfl, hnm⟩) (own_w6 hw) (by decide) (congrArg Value.int (hz)) (by rw [← hz]; exact fits_nar_bool _) ha own_d2_111 rfl
      have F134 := F131.same W134
      have F135 := F128.other W134 (Or.inr (slot_ne (Or.inr (own_w20 hw)) (Or.inr (own_w28 hw)) (by decide) (t := (.object "com/example/slicewise/slicewise/plan/Method")) (t' := .boolean) (by decide) (by decide)))
      have F136 := F129.other W134 (Or.inr (slot_ne (Or.inr (own_w22 hw)) (Or.inr (own_w28 hw)) (by decide) (t := (.object "java/lang/String")) (t' := .boolean) (by decide) (by decide)))
      have F137 := F130.other W134 (Or.inr (slot_ne (Or.inr (own_w24 hw)) (Or.inr (own_w28 hw)) (by decide) (t := (.object "java/lang/String")) (t' := .boolean) (by decide) (by decide)))
      have F138 := F127.other W134 (Or.inr (slot_ne (Or.inr (own_w26 hw)) (Or.inr (own_w28 hw)) (by decide) (t := .int) (t' := .boolean) (by decide) (by decide)))
      have hK := ((((((Keep.refl h [a]).trans (Keep.of_wr W106) (allS (Or.inl (List.mem_of_getElem? (i := 0) rfl)) all0)).trans (Keep.of_wr W113) (allS (Or.inl (List.mem_of_getElem? (i := 0) rfl)) all0)).trans (Keep.of_wr W120) (allS (Or.inl (List.mem_of_getElem? (i := 0) rfl)) all0)).trans (Keep.of_wr W127) (allS (Or.inl (List.mem_of_getElem? (i := 0) rfl)) all0)).trans (Keep.of_wr W134) (allS (Or.inl (List.mem_of_getElem? (i := 0) rfl)) all0))
      have K139 := ((Keep.refl h127 [a]).trans (Keep.of_wr W134) (allS (Or.inl (List.mem_of_getElem? (i := 0) rfl)) all0))
      have F140 := F133.keep K139
      exact R.retV (Ds' := Ds) hret own_d2_114 (by decide) (by decide) (fun _ q => q) ⟨rfl, rfl, hK, F140, F135, F136, F137, F138, F134⟩
    · refine ctr_of (Ls := #[.val (.ref a), .val .null, .val (.ref b), .val (.ref r), .val (.int p3), .val (.int p4)]) (plainFor_of_name own_pn5) (fun mm => by first | (simp [entryFrame, mkF, argsToLocals, Value.category]; done) | rfl) ?_
      intro C hl hret hnm R
      subst hl
      replace R := R.aloadN (pc' := 1) (v := (.ref a)) own_d2_0 rfl rfl rfl
      obtain ⟨_, _, _, ⟨rfl, rfl, rfl⟩, R⟩ := R.callI (pc' := 4) (a := a) (argsL := []) (rest := []) (W := 0) rfl (own_w11 hw) (own_w12 hw) (own_w14 hw) (own_w15 hw) (by decide) (rm_recinit C.l Z a0 hw a h n0 Ds) rfl (lenOf own_pd10 rfl) rfl rfl own_d2_1 (by decide) (by decide) (by decide) (by decide) rfl
      replace R := R.mono (ce' := 0) (sl' := 0) (by decide) (by decide)
      replace R := R.stk (S' := []) rfl
      replace R := R.iload (pc' := 6) (v := p3) own_d2_4 rfl rfl
      replace R := R.iconst (pc' := 7) (z := (1 : Int32)) own_d2_6 rfl rfl
      replace R := R.icmpN (pc' := 10) own_d2_7 (flt ht1).1 rfl
      replace R := R.iload (pc' := 12) (v := p3) own_d2_10 rfl rfl
      replace R := R.bipush (pc' := 14) (z := (64 : Int32)) own_d2_12 rfl rfl
      replace R := R.icmpY (pc' := 32) own_d2_14 (flt ht64).2.2.2 (by decide) rfl
      replace R := R.aloadN (pc' := 33) (v := (.ref b)) own_d2_32 rfl rfl rfl
      replace R := R.ifnullN (pc' := 36) own_d2_33 rfl
      replace R := R.aloadN (pc' := 37) (v := .null) own_d2_36 rfl rfl rfl
      replace R := R.ifnullY (pc' := 66) own_d2_37 (by decide) rfl
      replace R := R.aloadN (pc' := 67) (v := (.ref r)) own_d2_66 rfl rfl rfl
      replace R := R.ifnullN (pc' := 70) own_d2_67 rfl
      replace R := R.aloadN (pc' := 71) (v := (.ref r)) own_d2_70 rfl rfl rfl
      obtain ⟨_, _, _, ⟨rfl, rfl, rfl⟩, R⟩ := R.callV (pc' := 74) (y := (⟨"java/lang/String", "isBlank", "()Z"⟩ : MethodName)) (z := (⟨"java/lang/String", "isBlank", "()Z"⟩ : MethodName)) (argsL := []) (rest := []) (W := 0) (own_w109 hw) (own_w110 hw) (fun s' hZ' => notFace_of_selects (args := #[]) (mvT hZ' (own_w112 hw))) (own_w112 hw) (own_w111 hw) (own_w70 hw) (own_w113 hw) (by decide) S_r.1 (rm_isBlank1 C.l Z a0 hw r h n0 Ds own_cs hm S_r S_i X_i S_A V_A) rfl (lenOf own_pd7 rfl) rfl rfl own_d2_71 (by decide) (by decide) (by decide) (by decide) rfl
      replace R := R.mono (ce' := 0) (sl' := 0) (by decide) (by decide)
      replace R := R.stk (S' := [(.int (0 : Int32))]) rfl
      replace R := R.ifY (pc' := 87) own_d2_74 (teq (by decide : (0 : Int32) = (0 : Int32))).1 (by decide) rfl
      replace R := R.aloadN (pc' := 88) (v := (.ref a)) own_d2_87 rfl rfl rfl
      replace R := R.aloadN (pc' := 89) (v := .null) own_d2_88 rfl rfl rfl
      obtain ⟨h141, W141, R⟩ := R.putF (pc' := 92) (ty := (.object "com/example/slicewise/slicewise/plan/Method")) (host := "") (Or.inl (own_w19 hw)) Via.refl F_method E_a (Or.inr ⟨(own_w20 hw), rfl, hnm⟩) (own_w6 hw) (by decide) rfl rfl ha own_d2_89 rfl
      have F141 := F_method.same W141
      have F142 := F_splitColumn.other W141 (Or.inr (slot_ne (Or.inr (own_w22 hw)) (Or.inr (own_w20 hw)) (by decide) (t := (.object "java/lang/String")) (t' := (.object "com/example/slicewise/slicewise/plan/Method")) (by decide) (by decide)))
      have F143 := F_filter.other W141 (Or.inr (slot_ne (Or.inr (own_w24 hw)) (Or.inr (own_w20 hw)) (by decide) (t := (.object "java/lang/String")) (t' := (.object "com/example/slicewise/slicewise/plan/Method")) (by decide) (by decide)))
      have F144 := F_threads.other W141 (Or.inr (slot_ne (Or.inr (own_w26 hw)) (Or.inr (own_w20 hw)) (by decide) (t := .int) (t' := (.object "com/example/slicewise/slicewise/plan/Method")) (by decide) (by decide)))
      have F145 := F_oneConnectionPerThread.other W141 (Or.inr (slot_ne (Or.inr (own_w28 hw)) (Or.inr (own_w20 hw)) (by decide) (t := .boolean) (t' := (.object "com/example/slicewise/slicewise/plan/Method")) (by decide) (by decide)))
      replace R := R.aloadN (pc' := 93) (v := (.ref a)) own_d2_92 rfl rfl rfl
      replace R := R.aloadN (pc' := 94) (v := (.ref b)) own_d2_93 rfl rfl rfl
      have K146 := ((Keep.refl h [a]).trans (Keep.of_wr W141) (allS (Or.inl (List.mem_of_getElem? (i := 0) rfl)) all0))
      have F147 := E_a.keep K146
      obtain ⟨h148, W148, R⟩ := R.putF (pc' := 97) (ty := (.object "java/lang/String")) (host := "") (Or.inl (own_w21 hw)) Via.refl F142 F147 (Or.inr ⟨(own_w22 hw), rfl, hnm⟩) (own_w6 hw) (by decide) rfl rfl ha own_d2_94 rfl
      have F148 := F142.same W148
      have F149 := F141.other W148 (Or.inr (slot_ne (Or.inr (own_w20 hw)) (Or.inr (own_w22 hw)) (by decide) (t := (.object "com/example/slicewise/slicewise/plan/Method")) (t' := (.object "java/lang/String")) (by decide) (by decide)))
      have F150 := F143.other W148 (Or.inr (slot_ne (Or.inr (own_w24 hw)) (Or.inr (own_w22 hw)) (by decide) (t := (.object "java/lang/String")) (t' := (.object "java/lang/String")) (by decide) (by decide)))
      have F151 := F144.other W148 (Or.inr (slot_ne (Or.inr (own_w26 hw)) (Or.inr (own_w22 hw)) (by decide) (t := .int) (t' := (.object "java/lang/String")) (by decide) (by decide)))
      have F152 := F145.other W148 (Or.inr (slot_ne (Or.inr (own_w28 hw)) (Or.inr (own_w22 hw)) (by decide) (t := .boolean) (t' := (.object "java/lang/String")) (by decide) (by decide)))
      replace R := R.aloadN (pc' := 98) (v := (.ref a)) own_d2_97 rfl rfl rfl
      replace R := R.aloadN (pc' := 99) (v := (.ref r)) own_d2_98 rfl rfl rfl
      have K153 := ((Keep.refl h141 [a]).trans (Keep.of_wr W148) (allS (Or.inl (List.mem_of_getElem? (i := 0) rfl)) all0))
      have F154 := F147.keep K153
      obtain ⟨h155, W155, R⟩ := R.putF (pc' := 102) (ty := (.object "java/lang/String")) (host := "") (Or.inl (own_w23 hw)) Via.refl F150 F154 (Or.inr ⟨(own_w24 hw), rfl, hnm⟩) (own_w6 hw) (by decide) rfl rfl ha own_d2_99 rfl
      have F155 := F150.same W155
      have F156 := F149.other W155 (Or.inr (slot_ne (Or.inr (own_w20 hw)) (Or.inr (own_w24 hw)) (by decide) (t := (.object "com/example/slicewise/slicewise/plan/Method")) (t' := (.object "java/lang/String")) (by decide) (by decide)))
      have F157 := F148.other W155 (Or.inr (slot_ne (Or.inr (own_w22 hw)) (Or.inr (own_w24 hw)) (by decide) (t := (.object "java/lang/String")) (t' := (.object "java/lang/String")) (by decide) (by decide)))
      have F158 := F151.other W155 (Or.inr (slot_ne (Or.inr (own_w26 hw)) (Or.inr (own_w24 hw)) (by decide) (t := .int) (t' := (.object "java/lang/String")) (by decide) (by decide)))
      have F159 := F152.other W155 (Or.inr (slot_ne (Or.inr (own_w28 hw)) (Or.inr (own_w24 hw)) (by decide) (t := .boolean) (t' := (.object "java/lang/String")) (by decide) (by decide)))
      replace R := R.aloadN (pc' := 103) (v := (.ref a)) own_d2_102 rfl rfl rfl
      replace R := R.iload (pc' := 105) (v := p3) own_d2_103 rfl rfl
      have K160 := ((Keep.refl h148 [a]).trans (Keep.of_wr W155) (allS (Or.inl (List.mem_of_getElem? (i := 0) rfl)) all0))
      have F161 := F154.keep K160
      obtain ⟨h162, W162, R⟩ := R.putF (pc' := 108) (ty := .int) (host := "") (Or.inl (own_w25 hw)) Via.refl F158 F161 (Or.inr ⟨(own_w26 hw), rfl, hnm⟩) (own_w6 hw) (by decide) rfl rfl ha own_d2_105 rfl
      have F162 := F158.same W162
      have F163 := F156.other W162 (Or.inr (slot_ne (Or.inr (own_w20 hw)) (Or.inr (own_w26 hw)) (by decide) (t := (.object "com/example/slicewise/slicewise/plan/Method")) (t' := .int) (by decide) (by decide)))
      have F164 := F157.other W162 (Or.inr (slot_ne (Or.inr (own_w22 hw)) (Or.inr (own_w26 hw)) (by decide) (t := (.object "java/lang/String")) (t' := .int) (by decide) (by decide)))
      have F165 := F155.other W162 (Or.inr (slot_ne (Or.inr (own_w24 hw)) (Or.inr (own_w26 hw)) (by decide) (t := (.object "java/lang/String")) (t' := .int) (by decide) (by decide)))
      have F166 := F159.other W162 (Or.inr (slot_ne (Or.inr (own_w28 hw)) (Or.inr (own_w26 hw)) (by decide) (t := .boolean) (t' := .int) (by decide) (by decide)))
      replace R := R.aloadN (pc' := 109) (v := (.ref a)) own_d2_108 rfl rfl rfl
      replace R := R.iload (pc' := 111) (v := p4) own_d2_109 rfl rfl
      have K167 := ((Keep.refl h155 [a]).trans (Keep.of_wr W162) (allS (Or.inl (List.mem_of_getElem? (i := 0) rfl)) all0))
      have F168 := F161.keep K167
      obtain ⟨h169, W169, R⟩ := R.putFN (pc' := 114) (ty := .boolean) (v' := (.int p4)) (own_w27 hw) Via.refl F166 F168 (Or.inr ⟨(own_w28 hw), rfl, hnm⟩) (own_w6 hw) (by decide) (congrArg Value.int (hz)) (by rw [← hz]; exact fits_nar_bool _) ha own_d2_111 rfl
      have F169 := F166.same W169
      have F170 := F163.other W169 (Or.inr (slot_ne (Or.inr (own_w20 hw)) (Or.inr (own_w28 hw)) (by decide) (t := (.object "com/example/slicewise/slicewise/plan/Method")) (t' := .boolean) (by decide) (by decide)))
      have F171 := F164.other W169 (Or.inr (slot_ne (Or.inr (own_w22 hw)) (Or.inr (own_w28 hw)) (by decide) (t := (.object "java/lang/String")) (t' := .boolean) (by decide) (by decide)))
      have F172 := F165.other W169 (Or.inr (slot_ne (Or.inr (own_w24 hw)) (Or.inr (own_w28 hw)) (by decide) (t := (.object "java/lang/String")) (t' := .boolean) (by decide) (by decide)))
      have F173 := F162.other W169 (Or.inr (slot_ne (Or.inr (own_w26 hw)) (Or.inr (own_w28 hw)) (by decide) (t := .int) (t' := .boolean) (by decide) (by decide)))
      have hK := ((((((Keep.refl h [a]).trans (Keep.of_wr W141) (allS (Or.inl (List.mem_of_getElem? (i := 0) rfl)) all0)).trans (Keep.of_wr W148) (allS (Or.inl (List.mem_of_getElem? (i := 0) rfl)) all0)).trans (Keep.of_wr W155) (allS (Or.inl (List.mem_of_getElem? (i := 0) rfl)) all0)).trans (Keep.of_wr W162) (allS (Or.inl (List.mem_of_getElem? (i := 0) rfl)) all0)).trans (Keep.of_wr W169) (allS (Or.inl (List.mem_of_getElem? (i := 0) rfl)) all0))
      have K174 := ((Keep.refl h162 [a]).trans (Keep.of_wr W169) (allS (Or.inl (List.mem_of_getElem? (i := 0) rfl)) all0))
      have F175 := F168.keep K174
      exact R.retV (Ds' := Ds) hret own_d2_114 (by decide) (by decide) (fun _ q => q) ⟨rfl, rfl, hK, F175, F170, F171, F172, F173, F169⟩
    · refine ctr_of (Ls := #[.val (.ref a), .val .null, .val (.ref b), .val (.ref r), .val (.int p3), .val (.int p4)]) (plainFor_of_name own_pn5) (fun mm => by first | (simp [entryFrame, mkF, argsToLocals, Value.category]; done) | rfl) ?_
      intro C hl hret hnm R
      subst hl
      replace R := R.aloadN (pc' := 1) (v := (.ref a)) own_d2_0 rfl rfl rfl
      obtain ⟨_, _, _, ⟨rfl, rfl, rfl⟩, R⟩ := R.callI (pc' := 4) (a := a) (argsL := []) (rest := []) (W := 0) rfl (own_w11 hw) (own_w12 hw) (own_w14 hw) (own_w15 hw) (by decide) (rm_recinit C.l Z a0 hw a h n0 Ds) rfl (lenOf own_pd10 rfl) rfl rfl own_d2_1 (by decide) (by decide) (by decide) (by decide) rfl
      replace R := R.mono (ce' := 0) (sl' := 0) (by decide) (by decide)
      replace R := R.stk (S' := []) rfl
      replace R := R.iload (pc' := 6) (v := p3) own_d2_4 rfl rfl
      replace R := R.iconst (pc' := 7) (z := (1 : Int32)) own_d2_6 rfl rfl
      replace R := R.icmpN (pc' := 10) own_d2_7 (flt ht1).1 rfl
      replace R := R.iload (pc' := 12) (v := p3) own_d2_10 rfl rfl
      replace R := R.bipush (pc' := 14) (z := (64 : Int32)) own_d2_12 rfl rfl
      replace R := R.icmpY (pc' := 32) own_d2_14 (flt ht64).2.2.2 (by decide) rfl
      replace R := R.aloadN (pc' := 33) (v := (.ref b)) own_d2_32 rfl rfl rfl
      replace R := R.ifnullN (pc' := 36) own_d2_33 rfl
      replace R := R.aloadN (pc' := 37) (v := .null) own_d2_36 rfl rfl rfl
      replace R := R.ifnullY (pc' := 66) own_d2_37 (by decide) rfl
      replace R := R.aloadN (pc' := 67) (v := (.ref r)) own_d2_66 rfl rfl rfl
      replace R := R.ifnullN (pc' := 70) own_d2_67 rfl
      replace R := R.aloadN (pc' := 71) (v := (.ref r)) own_d2_70 rfl rfl rfl
      obtain ⟨_, _, _, ⟨rfl, rfl, rfl⟩, R⟩ := R.callV (pc' := 74) (y := (⟨"java/lang/String", "isBlank", "()Z"⟩ : MethodName)) (z := (⟨"java/lang/String", "isBlank", "()Z"⟩ : MethodName)) (argsL := []) (rest := []) (W := 0) (own_w109 hw) (own_w110 hw) (fun s' hZ' => notFace_of_selects (args := #[]) (mvT hZ' (own_w112 hw))) (own_w112 hw) (own_w111 hw) (own_w70 hw) (own_w113 hw) (by decide) S_r.1 (rm_isBlank3 C.l Z a0 hw r h n0 Ds own_cs hm S_r S_i X_i S_A V_A) rfl (lenOf own_pd7 rfl) rfl rfl own_d2_71 (by decide) (by decide) (by decide) (by decide) rfl
      replace R := R.mono (ce' := 0) (sl' := 0) (by decide) (by decide)
      replace R := R.stk (S' := [(.int (0 : Int32))]) rfl
      replace R := R.ifY (pc' := 87) own_d2_74 (teq (by decide : (0 : Int32) = (0 : Int32))).1 (by decide) rfl
      replace R := R.aloadN (pc' := 88) (v := (.ref a)) own_d2_87 rfl rfl rfl
      replace R := R.aloadN (pc' := 89) (v := .null) own_d2_88 rfl rfl rfl
      obtain ⟨h176, W176, R⟩ := R.putF (pc' := 92) (ty := (.object "com/example/slicewise/slicewise/plan/Method")) (host := "") (Or.inl (own_w19 hw)) Via.refl F_method E_a (Or.inr ⟨(own_w20 hw), rfl, hnm⟩) (own_w6 hw) (by decide) rfl rfl ha own_d2_89 rfl
      have F176 := F_method.same W176
      have F177 := F_splitColumn.other W176 (Or.inr (slot_ne (Or.inr (own_w22 hw)) (Or.inr (own_w20 hw)) (by decide) (t := (.object "java/lang/String")) (t' := (.object "com/example/slicewise/slicewise/plan/Method")) (by decide) (by decide)))
      have F178 := F_filter.other W176 (Or.inr (slot_ne (Or.inr (own_w24 hw)) (Or.inr (own_w20 hw)) (by decide) (t := (.object "java/lang/String")) (t' := (.object "com/example/slicewise/slicewise/plan/Method")) (by decide) (by decide)))
      have F179 := F_threads.other W176 (Or.inr (slot_ne (Or.inr (own_w26 hw)) (Or.inr (own_w20 hw)) (by decide) (t := .int) (t' := (.object "com/example/slicewise/slicewise/plan/Method")) (by decide) (by decide)))
      have F180 := F_oneConnectionPerThread.other W176 (Or.inr (slot_ne (Or.inr (own_w28 hw)) (Or.inr (own_w20 hw)) (by decide) (t := .boolean) (t' := (.object "com/example/slicewise/slicewise/plan/Method")) (by decide) (by decide)))
      replace R := R.aloadN (pc' := 93) (v := (.ref a)) own_d2_92 rfl rfl rfl
      replace R := R.aloadN (pc' := 94) (v := (.ref b)) own_d2_93 rfl rfl rfl
      have K181 := ((Keep.refl h [a]).trans (Keep.of_wr W176) (allS (Or.inl (List.mem_of_getElem? (i := 0) rfl)) all0))
      have F182 := E_a.keep K181
      obtain ⟨h183, W183, R⟩ := R.putF (pc' := 97) (ty := (.object "java/lang/String")) (host := "") (Or.inl (own_w21 hw)) Via.refl F177 F182 (Or.inr ⟨(own_w22 hw), rfl, hnm⟩) (own_w6 hw) (by decide) rfl rfl ha own_d2_94 rfl
      have F183 := F177.same W183
      have F184 := F176.other W183 (Or.inr (slot_ne (Or.inr (own_w20 hw)) (Or.inr (own_w22 hw)) (by decide) (t := (.object "com/example/slicewise/slicewise/plan/Method")) (t' := (.object "java/lang/String")) (by decide) (by decide)))
      have F185 := F178.other W183 (Or.inr (slot_ne (Or.inr (own_w24 hw)) (Or.inr (own_w22 hw)) (by decide) (t := (.object "java/lang/String")) (t' := (.object "java/lang/String")) (by decide) (by decide)))
      have F186 := F179.other W183 (Or.inr (slot_ne (Or.inr (own_w26 hw)) (Or.inr (own_w22 hw)) (by decide) (t := .int) (t' := (.object "java/lang/String")) (by decide) (by decide)))
      have F187 := F180.other W183 (Or.inr (slot_ne (Or.inr (own_w28 hw)) (Or.inr (own_w22 hw)) (by decide) (t := .boolean) (t' := (.object "java/lang/String")) (by decide) (by decide)))
      replace R := R.aloadN (pc' := 98) (v := (.ref a)) own_d2_97 rfl rfl rfl
      replace R := R.aloadN (pc' := 99) (v := (.ref r)) own_d2_98 rfl rfl rfl
      have K188 := ((Keep.refl h176 [a]).trans (Keep.of_wr W183) (allS (Or.inl (List.mem_of_getElem? (i := 0) rfl)) all0))
      have F189 := F182.keep K188
      obtain ⟨h190, W190, R⟩ := R.putF (pc' := 102) (ty := (.object "java/lang/String")) (host := "") (Or.inl (own_w23 hw)) Via.refl F185 F189 (Or.inr ⟨(own_w24 hw), rfl, hnm⟩) (own_w6 hw) (by decide) rfl rfl ha own_d2_99 rfl
      have F190 := F185.same W190
      have F191 := F184.other W190 (Or.inr (slot_ne (Or.inr (own_w20 hw)) (Or.inr (own_w24 hw)) (by decide) (t := (.object "com/example/slicewise/slicewise/plan/Method")) (t' := (.object "java/lang/String")) (by decide) (by decide)))
      have F192 := F183.other W190 (Or.inr (slot_ne (Or.inr (own_w22 hw)) (Or.inr (own_w24 hw)) (by decide) (t := (.object "java/lang/String")) (t' := (.object "java/lang/String")) (by decide) (by decide)))
      have F193 := F186.other W190 (Or.inr (slot_ne (Or.inr (own_w26 hw)) (Or.inr (own_w24 hw)) (by decide) (t := .int) (t' := (.object "java/lang/String")) (by decide) (by decide)))
      have F194 := F187.other W190 (Or.inr (slot_ne (Or.inr (own_w28 hw)) (Or.inr (own_w24 hw)) (by decide) (t := .boolean) (t' := (.object "java/lang/String")) (by decide) (by decide)))
      replace R := R.aloadN (pc' := 103) (v := (.ref a)) own_d2_102 rfl rfl rfl
      replace R := R.iload (pc' := 105) (v := p3) own_d2_103 rfl rfl
      have K195 := ((Keep.refl h183 [a]).trans (Keep.of_wr W190) (allS (Or.inl (List.mem_of_getElem? (i := 0) rfl)) all0))
      have F196 := F189.keep K195
      obtain ⟨h197, W197, R⟩ := R.putF (pc' := 108) (ty := .int) (host := "") (Or.inl (own_w25 hw)) Via.refl F193 F196 (Or.inr ⟨(own_w26 hw), rfl, hnm⟩) (own_w6 hw) (by decide) rfl rfl ha own_d2_105 rfl
      have F197 := F193.same W197
      have F198 := F191.other W197 (Or.inr (slot_ne (Or.inr (own_w20 hw)) (Or.inr (own_w26 hw)) (by decide) (t := (.object "com/example/slicewise/slicewise/plan/Method")) (t' := .int) (by decide) (by decide)))
      have F199 := F192.other W197 (Or.inr (slot_ne (Or.inr (own_w22 hw)) (Or.inr (own_w26 hw)) (by decide) (t := (.object "java/lang/String")) (t' := .int) (by decide) (by decide)))
      have F200 := F190.other W197 (Or.inr (slot_ne (Or.inr (own_w24 hw)) (Or.inr (own_w26 hw)) (by decide) (t := (.object "java/lang/String")) (t' := .int) (by decide) (by decide)))
      have F201 := F194.other W197 (Or.inr (slot_ne (Or.inr (own_w28 hw)) (Or.inr (own_w26 hw)) (by decide) (t := .boolean) (t' := .int) (by decide) (by decide)))
      replace R := R.aloadN (pc' := 109) (v := (.ref a)) own_d2_108 rfl rfl rfl
      replace R := R.iload (pc' := 111) (v := p4) own_d2_109 rfl rfl
      have K202 := ((Keep.refl h190 [a]).trans (Keep.of_wr W197) (allS (Or.inl (List.mem_of_getElem? (i := 0) rfl)) all0))
      have F203 := F196.keep K202
      obtain ⟨h204, W204, R⟩ := R.putFN (pc' := 114) (ty := .boolean) (v' := (.int p4)) (own_w27 hw) Via.refl F201 F203 (Or.inr ⟨(own_w28 hw), rfl, hnm⟩) (own_w6 hw) (by decide) (congrArg Value.int (hz)) (by rw [← hz]; exact fits_nar_bool _) ha own_d2_111 rfl
      have F204 := F201.same W204
      have F205 := F198.other W204 (Or.inr (slot_ne (Or.inr (own_w20 hw)) (Or.inr (own_w28 hw)) (by decide) (t := (.object "com/example/slicewise/slicewise/plan/Method")) (t' := .boolean) (by decide) (by decide)))
      have F206 := F199.other W204 (Or.inr (slot_ne (Or.inr (own_w22 hw)) (Or.inr (own_w28 hw)) (by decide) (t := (.object "java/lang/String")) (t' := .boolean) (by decide) (by decide)))
      have F207 := F200.other W204 (Or.inr (slot_ne (Or.inr (own_w24 hw)) (Or.inr (own_w28 hw)) (by decide) (t := (.object "java/lang/String")) (t' := .boolean) (by decide) (by decide)))
      have F208 := F197.other W204 (Or.inr (slot_ne (Or.inr (own_w26 hw)) (Or.inr (own_w28 hw)) (by decide) (t := .int) (t' := .boolean) (by decide) (by decide)))
      have hK := ((((((Keep.refl h [a]).trans (Keep.of_wr W176) (allS (Or.inl (List.mem_of_getElem? (i := 0) rfl)) all0)).trans (Keep.of_wr W183) (allS (Or.inl (List.mem_of_getElem? (i := 0) rfl)) all0)).trans (Keep.of_wr W190) (allS (Or.inl (List.mem_of_getElem? (i := 0) rfl)) all0)).trans (Keep.of_wr W197) (allS (Or.inl (List.mem_of_getElem? (i := 0) rfl)) all0)).trans (Keep.of_wr W204) (allS (Or.inl (List.mem_of_getElem? (i := 0) rfl)) all0))
      have K209 := ((Keep.refl h197 [a]).trans (Keep.of_wr W204) (allS (Or.inl (List.mem_of_getElem? (i := 0) rfl)) all0))
      have F210 := F203.keep K209
      exact R.retV (Ds' := Ds) hret own_d2_114 (by decide) (by decide) (fun _ q => q) ⟨rfl, rfl, hK, F210, F205, F206, F207, F208, F204⟩
  · rcases hfl with rfl | ⟨r, cs, rfl, S_r, ⟨m0, rfl, hm⟩ | ⟨c0, m0, c2, rfl, hm⟩⟩
    · refine ctr_of (Ls := #[.val (.ref a), .val (.ref a_M), .val (.ref b), .val .null, .val (.int p3), .val (.int p4)]) (plainFor_of_name own_pn5) (fun mm => by first | (simp [entryFrame, mkF, argsToLocals, Value.category]; done) | rfl) ?_
      intro C hl hret hnm R
      subst hl
      replace R := R.aloadN (pc' := 1) (v := (.ref a)) own_d2_0 rfl rfl rfl
      obtain ⟨_, _, _, ⟨rfl, rfl, rfl⟩, R⟩ := R.callI (pc' := 4) (a := a) (argsL := []) (rest := []) (W := 0) rfl (own_w11 hw) (own_w12 hw) (own_w14 hw) (own_w15 hw) (by decide) (rm_recinit C.l Z a0 hw a h n0 Ds) rfl (lenOf own_pd10 rfl) rfl rfl own_d2_1 (by decide) (by decide) (by decide) (by decide) rfl
      replace R := R.mono (ce' := 0) (sl' := 0) (by decide) (by decide)
      replace R := R.stk (S' := []) rfl
      replace R := R.iload (pc' := 6) (v := p3) own_d2_4 rfl rfl
      replace R := R.iconst (pc' := 7) (z := (1 : Int32)) own_d2_6 rfl rfl
      replace R := R.icmpN (pc' := 10) own_d2_7 (flt ht1).1 rfl
      replace R := R.iload (pc' := 12) (v := p3) own_d2_10 rfl rfl
      replace R := R.bipush (pc' := 14) (z := (64 : Int32)) own_d2_12 rfl rfl
      replace R := R.icmpY (pc' := 32) own_d2_14 (flt ht64).2.2.2 (by decide) rfl
      replace R := R.aloadN (pc' := 33) (v := (.ref b)) own_d2_32 rfl rfl rfl
      replace R := R.ifnullN (pc' := 36) own_d2_33 rfl
      replace R := R.aloadN (pc' := 37) (v := (.ref a_M)) own_d2_36 rfl rfl rfl
      replace R := R.ifnullN (pc' := 40) own_d2_37 rfl
      replace R := R.aloadN (pc' := 41) (v := (.ref a_M)) own_d2_40 rfl rfl rfl
      replace R := R.getS (pc' := 44) (host := "") (Or.inl (own_w162 hw)) Via.refl S_M own_d2_41 rfl
      replace R := R.acmp (pc' := 66) (same := true) own_d2_44 rfl rfl (decide_eq_true rfl) (by decide) (by decide)
      replace R := R.aloadN (pc' := 67) (v := .null) own_d2_66 rfl rfl rfl
      replace R := R.ifnullY (pc' := 87) own_d2_67 (by decide) rfl
      replace R := R.aloadN (pc' := 88) (v := (.ref a)) own_d2_87 rfl rfl rfl
      replace R := R.aloadN (pc' := 89) (v := (.ref a_M)) own_d2_88 rfl rfl rfl
      obtain ⟨h211, W211, R⟩ := R.putF (pc' := 92) (ty := (.object "com/example/slicewise/slicewise/plan/Method")) (host := "") (Or.inl (own_w19 hw)) Via.refl F_method E_a (Or.inr ⟨(own_w20 hw), rfl, hnm⟩) (own_w6 hw) (by decide) rfl rfl ha own_d2_89 rfl
      have F211 := F_method.same W211
      have F212 := F_splitColumn.other W211 (Or.inr (slot_ne (Or.inr (own_w22 hw)) (Or.inr (own_w20 hw)) (by decide) (t := (.object "java/lang/String")) (t' := (.object "com/example/slicewise/slicewise/plan/Method")) (by decide) (by decide)))
      have F213 := F_filter.other W211 (Or.inr (slot_ne (Or.inr (own_w24 hw)) (Or.inr (own_w20 hw)) (by decide) (t := (.object "java/lang/String")) (t' := (.object "com/example/slicewise/slicewise/plan/Method")) (by decide) (by decide)))
      have F214 := F_threads.other W211 (Or.inr (slot_ne (Or.inr (own_w26 hw)) (Or.inr (own_w20 hw)) (by decide) (t := .int) (t' := (.object "com/example/slicewise/slicewise/plan/Method")) (by decide) (by decide)))
      have F215 := F_oneConnectionPerThread.other W211 (Or.inr (slot_ne (Or.inr (own_w28 hw)) (Or.inr (own_w20 hw)) (by decide) (t := .boolean) (t' := (.object "com/example/slicewise/slicewise/plan/Method")) (by decide) (by decide)))
      replace R := R.aloadN (pc' := 93) (v := (.ref a)) own_d2_92 rfl rfl rfl
      replace R := R.aloadN (pc' := 94) (v := (.ref b)) own_d2_93 rfl rfl rfl
      have K216 := ((Keep.refl h [a]).trans (Keep.of_wr W211) (allS (Or.inl (List.mem_of_getElem? (i := 0) rfl)) all0))
      have F217 := E_a.keep K216
      obtain ⟨h218, W218, R⟩ := R.putF (pc' := 97) (ty := (.object "java/lang/String")) (host := "") (Or.inl (own_w21 hw)) Via.refl F212 F217 (Or.inr ⟨(own_w22 hw), rfl, hnm⟩) (own_w6 hw) (by decide) rfl rfl ha own_d2_94 rfl
      have F218 := F212.same W218
      have F219 := F211.other W218 (Or.inr (slot_ne (Or.inr (own_w20 hw)) (Or.inr (own_w22 hw)) (by decide) (t := (.object "com/example/slicewise/slicewise/plan/Method")) (t' := (.object "java/lang/String")) (by decide) (by decide)))
      have F220 := F213.other W218 (Or.inr (slot_ne (Or.inr (own_w24 hw)) (Or.inr (own_w22 hw)) (by decide) (t := (.object "java/lang/String")) (t' := (.object "java/lang/String")) (by decide) (by decide)))
      have F221 := F214.other W218 (Or.inr (slot_ne (Or.inr (own_w26 hw)) (Or.inr (own_w22 hw)) (by decide) (t := .int) (t' := (.object "java/lang/String")) (by decide) (by decide)))
      have F222 := F215.other W218 (Or.inr (slot_ne (Or.inr (own_w28 hw)) (Or.inr (own_w22 hw)) (by decide) (t := .boolean) (t' := (.object "java/lang/String")) (by decide) (by decide)))
      replace R := R.aloadN (pc' := 98) (v := (.ref a)) own_d2_97 rfl rfl rfl
      replace R := R.aloadN (pc' := 99) (v := .null) own_d2_98 rfl rfl rfl
      have K223 := ((Keep.refl h211 [a]).trans (Keep.of_wr W218) (allS (Or.inl (List.mem_of_getElem? (i := 0) rfl)) all0))
      have F224 := F217.keep K223
      obtain ⟨h225, W225, R⟩ := R.putF (pc' := 102) (ty := (.object "java/lang/String")) (host := "") (Or.inl (own_w23 hw)) Via.refl F220 F224 (Or.inr ⟨(own_w24 hw), rfl, hnm⟩) (own_w6 hw) (by decide) rfl rfl ha own_d2_99 rfl
      have F225 := F220.same W225
      have F226 := F219.other W225 (Or.inr (slot_ne (Or.inr (own_w20 hw)) (Or.inr (own_w24 hw)) (by decide) (t := (.object "com/example/slicewise/slicewise/plan/Method")) (t' := (.object "java/lang/String")) (by decide) (by decide)))
      have F227 := F218.other W225 (Or.inr (slot_ne (Or.inr (own_w22 hw)) (Or.inr (own_w24 hw)) (by decide) (t := (.object "java/lang/String")) (t' := (.object "java/lang/String")) (by decide) (by decide)))
      have F228 := F221.other W225 (Or.inr (slot_ne (Or.inr (own_w26 hw)) (Or.inr (own_w24 hw)) (by decide) (t := .int) (t' := (.object "java/lang/String")) (by decide) (by decide)))
      have F229 := F222.other W225 (Or.inr (slot_ne (Or.inr (own_w28 hw)) (Or.inr (own_w24 hw)) (by decide) (t := .boolean) (t' := (.object "java/lang/String")) (by decide) (by decide)))
      replace R := R.aloadN (pc' := 103) (v := (.ref a)) own_d2_102 rfl rfl rfl
      replace R := R.iload (pc' := 105) (v := p3) own_d2_103 rfl rfl
      have K230 := ((Keep.refl h218 [a]).trans (Keep.of_wr W225) (allS (Or.inl (List.mem_of_getElem? (i := 0) rfl)) all0))
      have F231 := F224.keep K230
      obtain ⟨h232, W232, R⟩ := R.putF (pc' := 108) (ty := .int) (host := "") (Or.inl (own_w25 hw)) Via.refl F228 F231 (Or.inr ⟨(own_w26 hw), rfl, hnm⟩) (own_w6 hw) (by decide) rfl rfl ha own_d2_105 rfl
      have F232 := F228.same W232
      have F233 := F226.other W232 (Or.inr (slot_ne (Or.inr (own_w20 hw)) (Or.inr (own_w26 hw)) (by decide) (t := (.object "com/example/slicewise/slicewise/plan/Method")) (t' := .int) (by decide) (by decide)))
      have F234 := F227.other W232 (Or.inr (slot_ne (Or.inr (own_w22 hw)) (Or.inr (own_w26 hw)) (by decide) (t := (.object "java/lang/String")) (t' := .int) (by decide) (by decide)))
      have F235 := F225.other W232 (Or.inr (slot_ne (Or.inr (own_w24 hw)) (Or.inr (own_w26 hw)) (by decide) (t := (.object "java/lang/String")) (t' := .int) (by decide) (by decide)))
      have F236 := F229.other W232 (Or.inr (slot_ne (Or.inr (own_w28 hw)) (Or.inr (own_w26 hw)) (by decide) (t := .boolean) (t' := .int) (by decide) (by decide)))
      replace R := R.aloadN (pc' := 109) (v := (.ref a)) own_d2_108 rfl rfl rfl
      replace R := R.iload (pc' := 111) (v := p4) own_d2_109 rfl rfl
      have K237 := ((Keep.refl h225 [a]).trans (Keep.of_wr W232) (allS (Or.inl (List.mem_of_getElem? (i := 0) rfl)) all0))
      have F238 := F231.keep K237
      obtain ⟨h239, W239, R⟩ := R.putFN (pc' := 114) (ty := .boolean) (v' := (.int p4)) (own_w27 hw) Via.refl F236 F238 (Or.inr ⟨(own_w28 hw), rfl, hnm⟩) (own_w6 hw) (by decide) (congrArg Value.int (hz)) (by rw [← hz]; exact fits_nar_bool _) ha own_d2_111 rfl
      have F239 := F236.same W239
      have F240 := F233.other W239 (Or.inr (slot_ne (Or.inr (own_w20 hw)) (Or.inr (own_w28 hw)) (by decide) (t := (.object "com/example/slicewise/slicewise/plan/Method")) (t' := .boolean) (by decide) (by decide)))
      have F241 := F234.other W239 (Or.inr (slot_ne (Or.inr (own_w22 hw)) (Or.inr (own_w28 hw)) (by decide) (t := (.object "java/lang/String")) (t' := .boolean) (by decide) (by decide)))
      have F242 := F235.other W239 (Or.inr (slot_ne (Or.inr (own_w24 hw)) (Or.inr (own_w28 hw)) (by decide) (t := (.object "java/lang/String")) (t' := .boolean) (by decide) (by decide)))
      have F243 := F232.other W239 (Or.inr (slot_ne (Or.inr (own_w26 hw)) (Or.inr (own_w28 hw)) (by decide) (t := .int) (t' := .boolean) (by decide) (by decide)))
      have hK := ((((((Keep.refl h [a]).trans (Keep.of_wr W211) (allS (Or.inl (List.mem_of_getElem? (i := 0) rfl)) all0)).trans (Keep.of_wr W218) (allS (Or.inl (List.mem_of_getElem? (i := 0) rfl)) all0)).trans (Keep.of_wr W225) (allS (Or.inl (List.mem_of_getElem? (i := 0) rfl)) all0)).trans (Keep.of_wr W232) (allS (Or.inl (List.mem_of_getElem? (i := 0) rfl)) all0)).trans (Keep.of_wr W239) (allS (Or.inl (List.mem_of_getElem? (i := 0) rfl)) all0))
      have K244 := ((Keep.refl h232 [a]).trans (Keep.of_wr W239) (allS (Or.inl (List.mem_of_getElem? (i := 0) rfl)) all0))
      have F245 := F238.keep K244
      exact R.retV (Ds' := Ds) hret own_d2_114 (by decide) (by decide) (fun _ q => q) ⟨rfl, rfl, hK, F245, F240, F241, F242, F243, F239⟩
    · refine ctr_of (Ls := #[.val (.ref a), .val (.ref a_M), .val (.ref b), .val (.ref r), .val (.int p3), .val (.int p4)]) (plainFor_of_name own_pn5) (fun mm => by first | (simp [entryFrame, mkF, argsToLocals, Value.category]; done) | rfl) ?_
      intro C hl hret hnm R
      subst hl
      replace R := R.aloadN (pc' := 1) (v := (.ref a)) own_d2_0 rfl rfl rfl
      obtain ⟨_, _, _, ⟨rfl, rfl, rfl⟩, R⟩ := R.callI (pc' := 4) (a := a) (argsL := []) (rest := []) (W := 0) rfl (own_w11 hw) (own_w12 hw) (own_w14 hw) (own_w15 hw) (by decide) (rm_recinit C.l Z a0 hw a h n0 Ds) rfl (lenOf own_pd10 rfl) rfl rfl own_d2_1 (by decide) (by decide) (by decide) (by decide) rfl
      replace R := R.mono (ce' := 0) (sl' := 0) (by decide) (by decide)
      replace R := R.stk (S' := []) rfl
      replace R := R.iload (pc' := 6) (v := p3) own_d2_4 rfl rfl
      replace R := R.iconst (pc' := 7) (z := (1 : Int32)) own_d2_6 rfl rfl
      replace R := R.icmpN (pc' := 10) own_d2_7 (flt ht1).1 rfl
      replace R := R.iload (pc' := 12) (v := p3) own_d2_10 rfl rfl
      replace R := R.bipush (pc' := 14) (z := (64 : Int32)) own_d2_12 rfl rfl
      replace R := R.icmpY (pc' := 32) own_d2_14 (flt ht64).2.2.2 (by decide) rfl
      replace R := R.aloadN (pc' := 33) (v := (.ref b)) own_d2_32 rfl rfl rfl
      replace R := R.ifnullN (pc' := 36) own_d2_33 rfl
      replace R := R.aloadN (pc' := 37) (v := (.ref a_M)) own_d2_36 rfl rfl rfl
      replace R := R.ifnullN (pc' := 40) own_d2_37 rfl
      replace R := R.aloadN (pc' := 41) (v := (.ref a_M)) own_d2_40 rfl rfl rfl
      replace R := R.getS (pc' := 44) (host := "") (Or.inl (own_w162 hw)) Via.refl S_M own_d2_41 rfl
      replace R := R.acmp (pc' := 66) (same := true) own_d2_44 rfl rfl (decide_eq_true rfl) (by decide) (by decide)
      replace R := R.aloadN (pc' := 67) (v := (.ref r)) own_d2_66 rfl rfl rfl
      replace R := R.ifnullN (pc' := 70) own_d2_67 rfl
      replace R := R.aloadN (pc' := 71) (v := (.ref r)) own_d2_70 rfl rfl rfl
      obtain ⟨_, _, _, ⟨rfl, rfl, rfl⟩, R⟩ := R.callV (pc' := 74) (y := (⟨"java/lang/String", "isBlank", "()Z"⟩ : MethodName)) (z := (⟨"java/lang/String", "isBlank", "()Z"⟩ : MethodName)) (argsL := []) (rest := []) (W := 0) (own_w109 hw) (own_w110 hw) (fun s' hZ' => notFace_of_selects (args := #[]) (mvT hZ' (own_w112 hw))) (own_w112 hw) (own_w111 hw) (own_w70 hw) (own_w113 hw) (by decide) S_r.1 (rm_isBlank1 C.l Z a0 hw r h n0 Ds own_cs hm S_r S_i X_i S_A V_A) rfl (lenOf own_pd7 rfl) rfl rfl own_d2_71 (by decide) (by decide) (by decide) (by decide) rfl
      replace R := R.mono (ce' := 0) (sl' := 0) (by decide) (by decide)
      replace R := R.stk (S' := [(.int (0 : Int32))]) rfl
      replace R := R.ifY (pc' := 87) own_d2_74 (teq (by decide : (0 : Int32) = (0 : Int32))).1 (by decide) rfl
      replace R := R.aloadN (pc' := 88) (v := (.ref a)) own_d2_87 rfl rfl rfl
      replace R := R.aloadN (pc' := 89) (v := (.ref a_M)) own_d2_88 rfl rfl rfl
      obtain ⟨h246, W246, R⟩ := R.putF (pc' := 92) (ty := (.object "com/example/slicewise/slicewise/plan/Method")) (host := "") (Or.inl (own_w19 hw)) Via.refl F_method E_a (Or.inr ⟨(own_w20 hw), rfl, hnm⟩) (own_w6 hw) (by decide) rfl rfl ha own_d2_89 rfl
      have F246 := F_method.same W246
      have F247 := F_splitColumn.other W246 (Or.inr (slot_ne (Or.inr (own_w22 hw)) (Or.inr (own_w20 hw)) (by decide) (t := (.object "java/lang/String")) (t' := (.object "com/example/slicewise/slicewise/plan/Method")) (by decide) (by decide)))
      have F248 := F_filter.other W246 (Or.inr (slot_ne (Or.inr (own_w24 hw)) (Or.inr (own_w20 hw)) (by decide) (t := (.object "java/lang/String")) (t' := (.object "com/example/slicewise/slicewise/plan/Method")) (by decide) (by decide)))
      have F249 := F_threads.other W246 (Or.inr (slot_ne (Or.inr (own_w26 hw)) (Or.inr (own_w20 hw)) (by decide) (t := .int) (t' := (.object "com/example/slicewise/slicewise/plan/Method")) (by decide) (by decide)))
      have F250 := F_oneConnectionPerThread.other W246 (Or.inr (slot_ne (Or.inr (own_w28 hw)) (Or.inr (own_w20 hw)) (by decide) (t := .boolean) (t' := (.object "com/example/slicewise/slicewise/plan/Method")) (by decide) (by decide)))
      replace R := R.aloadN (pc' := 93) (v := (.ref a)) own_d2_92 rfl rfl rfl
      replace R := R.aloadN (pc' := 94) (v := (.ref b)) own_d2_93 rfl rfl rfl
      have K251 := ((Keep.refl h [a]).trans (Keep.of_wr W246) (allS (Or.inl (List.mem_of_getElem? (i := 0) rfl)) all0))
      have F252 := E_a.keep K251
      obtain ⟨h253, W253, R⟩ := R.putF (pc' := 97) (ty := (.object "java/lang/String")) (host := "") (Or.inl (own_w21 hw)) Via.refl F247 F252 (Or.inr ⟨(own_w22 hw), rfl, hnm⟩) (own_w6 hw) (by decide) rfl rfl ha own_d2_94 rfl
      have F253 := F247.same W253
      have F254 := F246.other W253 (Or.inr (slot_ne (Or.inr (own_w20 hw)) (Or.inr (own_w22 hw)) (by decide) (t := (.object "com/example/slicewise/slicewise/plan/Method")) (t' := (.object "java/lang/String")) (by decide) (by decide)))
      have F255 := F248.other W253 (Or.inr (slot_ne (Or.inr (own_w24 hw)) (Or.inr (own_w22 hw)) (by decide) (t := (.object "java/lang/String")) (t' := (.object "java/lang/String")) (by decide) (by decide)))
      have F256 := F249.other W253 (Or.inr (slot_ne (Or.inr (own_w26 hw)) (Or.inr (own_w22 hw)) (by decide) (t := .int) (t' := (.object "java/lang/String")) (by decide) (by decide)))
      have F257 := F250.other W253 (Or.inr (slot_ne (Or.inr (own_w28 hw)) (Or.inr (own_w22 hw)) (by decide) (t := .boolean) (t' := (.object "java/lang/String")) (by decide) (by decide)))
      replace R := R.aloadN (pc' := 98) (v := (.ref a)) own_d2_97 rfl rfl rfl
      replace R := R.aloadN (pc' := 99) (v := (.ref r)) own_d2_98 rfl rfl rfl
      have K258 := ((Keep.refl h246 [a]).trans (Keep.of_wr W253) (allS (Or.inl (List.mem_of_getElem? (i := 0) rfl)) all0))
      have F259 := F252.keep K258
      obtain ⟨h260, W260, R⟩ := R.putF (pc' := 102) (ty := (.object "java/lang/String")) (host := "") (Or.inl (own_w23 hw)) Via.refl F255 F259 (Or.inr ⟨(own_w24 hw), rfl, hnm⟩) (own_w6 hw) (by decide) rfl rfl ha own_d2_99 rfl
      have F260 := F255.same W260
      have F261 := F254.other W260 (Or.inr (slot_ne (Or.inr (own_w20 hw)) (Or.inr (own_w24 hw)) (by decide) (t := (.object "com/example/slicewise/slicewise/plan/Method")) (t' := (.object "java/lang/String")) (by decide) (by decide)))
      have F262 := F253.other W260 (Or.inr (slot_ne (Or.inr (own_w22 hw)) (Or.inr (own_w24 hw)) (by decide) (t := (.object "java/lang/String")) (t' := (.object "java/lang/String")) (by decide) (by decide)))
      have F263 := F256.other W260 (Or.inr (slot_ne (Or.inr (own_w26 hw)) (Or.inr (own_w24 hw)) (by decide) (t := .int) (t' := (.object "java/lang/String")) (by decide) (by decide)))
      have F264 := F257.other W260 (Or.inr (slot_ne (Or.inr (own_w28 hw)) (Or.inr (own_w24 hw)) (by decide) (t := .boolean) (t' := (.object "java/lang/String")) (by decide) (by decide)))
      replace R := R.aloadN (pc' := 103) (v := (.ref a)) own_d2_102 rfl rfl rfl
      replace R := R.iload (pc' := 105) (v := p3) own_d2_103 rfl rfl
      have K265 := ((Keep.refl h253 [a]).trans (Keep.of_wr W260) (allS (Or.inl (List.mem_of_getElem? (i := 0) rfl)) all0))
      have F266 := F259.keep K265
      obtain ⟨h267, W267, R⟩ := R.putF (pc' := 108) (ty := .int) (host := "") (Or.inl (own_w25 hw)) Via.refl F263 F266 (Or.inr ⟨(own_w26 hw), rfl, hnm⟩) (own_w6 hw) (by decide) rfl rfl ha own_d2_105 rfl
      have F267 := F263.same W267
      have F268 := F261.other W267 (Or.inr (slot_ne (Or.inr (own_w20 hw)) (Or.inr (own_w26 hw)) (by decide) (t := (.object "com/example/slicewise/slicewise/plan/Method")) (t' := .int) (by decide) (by decide)))
      have F269 := F262.other W267 (Or.inr (slot_ne (Or.inr (own_w22 hw)) (Or.inr (own_w26 hw)) (by decide) (t := (.object "java/lang/String")) (t' := .int) (by decide) (by decide)))
      have F270 := F260.other W267 (Or.inr (slot_ne (Or.inr (own_w24 hw)) (Or.inr (own_w26 hw)) (by decide) (t := (.object "java/lang/String")) (t' := .int) (by decide) (by decide)))
      have F271 := F264.other W267 (Or.inr (slot_ne (Or.inr (own_w28 hw)) (Or.inr (own_w26 hw)) (by decide) (t := .boolean) (t' := .int) (by decide) (by decide)))
      replace R := R.aloadN (pc' := 109) (v := (.ref a)) own_d2_108 rfl rfl rfl
      replace R := R.iload (pc' := 111) (v := p4) own_d2_109 rfl rfl
      have K272 := ((Keep.refl h260 [a]).trans (Keep.of_wr W267) (allS (Or.inl (List.mem_of_getElem? (i := 0) rfl)) all0))
      have F273 := F266.keep K272
      obtain ⟨h274, W274, R⟩ := R.putFN (pc' := 114) (ty := .boolean) (v' := (.int p4)) (own_w27 hw) Via.refl F271 F273 (Or.inr ⟨(own_w28 hw), rfl, hnm⟩) (own_w6 hw) (by decide) (congrArg Value.int (hz)) (by rw [← hz]; exact fits_nar_bool _) ha own_d2_111 rfl
      have F274 := F271.same W274
      have F275 := F268.other W274 (Or.inr (slot_ne (Or.inr (own_w20 hw)) (Or.inr (own_w28 hw)) (by decide) (t := (.object "com/example/slicewise/slicewise/plan/Method")) (t' := .boolean) (by decide) (by decide)))
      have F276 := F269.other W274 (Or.inr (slot_ne (Or.inr (own_w22 hw)) (Or.inr (own_w28 hw)) (by decide) (t := (.object "java/lang/String")) (t' := .boolean) (by decide) (by decide)))
      have F277 := F270.other W274 (Or.inr (slot_ne (Or.inr (own_w24 hw)) (Or.inr (own_w28 hw)) (by decide) (t := (.object "java/lang/String")) (t' := .boolean) (by decide) (by decide)))
      have F278 := F267.other W274 (Or.inr (slot_ne (Or.inr (own_w26 hw)) (Or.inr (own_w28 hw)) (by decide) (t := .int) (t' := .boolean) (by decide) (by decide)))
      have hK := ((((((Keep.refl h [a]).trans (Keep.of_wr W246) (allS (Or.inl (List.mem_of_getElem? (i := 0) rfl)) all0)).trans (Keep.of_wr W253) (allS (Or.inl (List.mem_of_getElem? (i := 0) rfl)) all0)).trans (Keep.of_wr W260) (allS (Or.inl (List.mem_of_getElem? (i := 0) rfl)) all0)).trans (Keep.of_wr W267) (allS (Or.inl (List.mem_of_getElem? (i := 0) rfl)) all0)).trans (Keep.of_wr W274) (allS (Or.inl (List.mem_of_getElem? (i := 0) rfl)) all0))
      have K279 := ((Keep.refl h267 [a]).trans (Keep.of_wr W274) (allS (Or.inl (List.mem_of_getElem? (i := 0) rfl)) all0))
      have F280 := F273.keep K279
      exact R.retV (Ds' := Ds) hret own_d2_114 (by decide) (by decide) (fun _ q => q) ⟨rfl, rfl, hK, F280, F275, F276, F277, F278, F274⟩
    · refine ctr_of (Ls := #[.val (.ref a), .val (.ref a_M), .val (.ref b), .val (.ref r), .val (.int p3), .val (.int p4)]) (plainFor_of_name own_pn5) (fun mm => by first | (simp [entryFrame, mkF, argsToLocals, Value.category]; done) | rfl) ?_
      intro C hl hret hnm R
      subst hl
      replace R := R.aloadN (pc' := 1) (v := (.ref a)) own_d2_0 rfl rfl rfl
      obtain ⟨_, _, _, ⟨rfl, rfl, rfl⟩, R⟩ := R.callI (pc' := 4) (a := a) (argsL := []) (rest := []) (W := 0) rfl (own_w11 hw) (own_w12 hw) (own_w14 hw) (own_w15 hw) (by decide) (rm_recinit C.l Z a0 hw a h n0 Ds) rfl (lenOf own_pd10 rfl) rfl rfl own_d2_1 (by decide) (by decide) (by decide) (by decide) rfl
      replace R := R.mono (ce' := 0) (sl' := 0) (by decide) (by decide)
      replace R := R.stk (S' := []) rfl
      replace R := R.iload (pc' := 6) (v := p3) own_d2_4 rfl rfl
      replace R := R.iconst (pc' := 7) (z := (1 : Int32)) own_d2_6 rfl rfl
      replace R := R.icmpN (pc' := 10) own_d2_7 (flt ht1).1 rfl
      replace R := R.iload (pc' := 12) (v := p3) own_d2_10 rfl rfl
      replace R := R.bipush (pc' := 14) (z := (64 : Int32)) own_d2_12 rfl rfl
      replace R := R.icmpY (pc' := 32) own_d2_14 (flt ht64).2.2.2 (by decide) rfl
      replace R := R.aloadN (pc' := 33) (v := (.ref b)) own_d2_32 rfl rfl rfl
      replace R := R.ifnullN (pc' := 36) own_d2_33 rfl
      replace R := R.aloadN (pc' := 37) (v := (.ref a_M)) own_d2_36 rfl rfl rfl
      replace R := R.ifnullN (pc' := 40) own_d2_37 rfl
      replace R := R.aloadN (pc' := 41) (v := (.ref a_M)) own_d2_40 rfl rfl rfl
      replace R := R.getS (pc' := 44) (host := "") (Or.inl (own_w162 hw)) Via.refl S_M own_d2_41 rfl
      replace R := R.acmp (pc' := 66) (same := true) own_d2_44 rfl rfl (decide_eq_true rfl) (by decide) (by decide)
      replace R := R.aloadN (pc' := 67) (v := (.ref r)) own_d2_66 rfl rfl rfl
      replace R := R.ifnullN (pc' := 70) own_d2_67 rfl
      replace R := R.aloadN (pc' := 71) (v := (.ref r)) own_d2_70 rfl rfl rfl
      obtain ⟨_, _, _, ⟨rfl, rfl, rfl⟩, R⟩ := R.callV (pc' := 74) (y := (⟨"java/lang/String", "isBlank", "()Z"⟩ : MethodName)) (z := (⟨"java/lang/String", "isBlank", "()Z"⟩ : MethodName)) (argsL := []) (rest := []) (W := 0) (own_w109 hw) (own_w110 hw) (fun s' hZ' => notFace_of_selects (args := #[]) (mvT hZ' (own_w112 hw))) (own_w112 hw) (own_w111 hw) (own_w70 hw) (own_w113 hw) (by decide) S_r.1 (rm_isBlank3 C.l Z a0 hw r h n0 Ds own_cs hm S_r S_i X_i S_A V_A) rfl (lenOf own_pd7 rfl) rfl rfl own_d2_71 (by decide) (by decide) (by decide) (by decide) rfl
      replace R := R.mono (ce' := 0) (sl' := 0) (by decide) (by decide)
      replace R := R.stk (S' := [(.int (0 : Int32))]) rfl
      replace R := R.ifY (pc' := 87) own_d2_74 (teq (by decide : (0 : Int32) = (0 : Int32))).1 (by decide) rfl
      replace R := R.aloadN (pc' := 88) (v := (.ref a)) own_d2_87 rfl rfl rfl
      replace R := R.aloadN (pc' := 89) (v := (.ref a_M)) own_d2_88 rfl rfl rfl
      obtain ⟨h281, W281, R⟩ := R.putF (pc' := 92) (ty := (.object "com/example/slicewise/slicewise/plan/Method")) (host := "") (Or.inl (own_w19 hw)) Via.refl F_method E_a (Or.inr ⟨(own_w20 hw), rfl, hnm⟩) (own_w6 hw) (by decide) rfl rfl ha own_d2_89 rfl
      have F281 := F_method.same W281
      have F282 := F_splitColumn.other W281 (Or.inr (slot_ne (Or.inr (own_w22 hw)) (Or.inr (own_w20 hw)) (by decide) (t := (.object "java/lang/String")) (t' := (.object "com/example/slicewise/slicewise/plan/Method")) (by decide) (by decide)))
      have F283 := F_filter.other W281 (Or.inr (slot_ne (Or.inr (own_w24 hw)) (Or.inr (own_w20 hw)) (by decide) (t := (.object "java/lang/String")) (t' := (.object "com/example/slicewise/slicewise/plan/Method")) (by decide) (by decide)))
      have F284 := F_threads.other W281 (Or.inr (slot_ne (Or.inr (own_w26 hw)) (Or.inr (own_w20 hw)) (by decide) (t := .int) (t' := (.object "com/example/slicewise/slicewise/plan/Method")) (by decide) (by decide)))
      have F285 := F_oneConnectionPerThread.other W281 (Or.inr (slot_ne (Or.inr (own_w28 hw)) (Or.inr (own_w20 hw)) (by decide) (t := .boolean) (t' := (.object "com/example/slicewise/slicewise/plan/Method")) (by decide) (by decide)))
      replace R := R.aloadN (pc' := 93) (v := (.ref a)) own_d2_92 rfl rfl rfl
      replace R := R.aloadN (pc' := 94) (v := (.ref b)) own_d2_93 rfl rfl rfl
      have K286 := ((Keep.refl h [a]).trans (Keep.of_wr W281) (allS (Or.inl (List.mem_of_getElem? (i := 0) rfl)) all0))
      have F287 := E_a.keep K286
      obtain ⟨h288, W288, R⟩ := R.putF (pc' := 97) (ty := (.object "java/lang/String")) (host := "") (Or.inl (own_w21 hw)) Via.refl F282 F287 (Or.inr ⟨(own_w22 hw), rfl, hnm⟩) (own_w6 hw) (by decide) rfl rfl ha own_d2_94 rfl
      have F288 := F282.same W288
      have F289 := F281.other W288 (Or.inr (slot_ne (Or.inr (own_w20 hw)) (Or.inr (own_w22 hw)) (by decide) (t := (.object "com/example/slicewise/slicewise/plan/Method")) (t' := (.object "java/lang/String")) (by decide) (by decide)))
      have F290 := F283.other W288 (Or.inr (slot_ne (Or.inr (own_w24 hw)) (Or.inr (own_w22 hw)) (by decide) (t := (.object "java/lang/String")) (t' := (.object "java/lang/String")) (by decide) (by decide)))
      have F291 := F284.other W288 (Or.inr (slot_ne (Or.inr (own_w26 hw)) (Or.inr (own_w22 hw)) (by decide) (t := .int) (t' := (.object "java/lang/String")) (by decide) (by decide)))
      have F292 := F285.other W288 (Or.inr (slot_ne (Or.inr (own_w28 hw)) (Or.inr (own_w22 hw)) (by decide) (t := .boolean) (t' := (.object "java/lang/String")) (by decide) (by decide)))
      replace R := R.aloadN (pc' := 98) (v := (.ref a)) own_d2_97 rfl rfl rfl
      replace R := R.aloadN (pc' := 99) (v := (.ref r)) own_d2_98 rfl rfl rfl
      have K293 := ((Keep.refl h281 [a]).trans (Keep.of_wr W288) (allS (Or.inl (List.mem_of_getElem? (i := 0) rfl)) all0))
      have F294 := F287.keep K293
      obtain ⟨h295, W295, R⟩ := R.putF (pc' := 102) (ty := (.object "java/lang/String")) (host := "") (Or.inl (own_w23 hw)) Via.refl F290 F294 (Or.inr ⟨(own_w24 hw), rfl, hnm⟩) (own_w6 hw) (by decide) rfl rfl ha own_d2_99 rfl
      have F295 := F290.same W295
      have F296 := F289.other W295 (Or.inr (slot_ne (Or.inr (own_w20 hw)) (Or.inr (own_w24 hw)) (by decide) (t := (.object "com/example/slicewise/slicewise/plan/Method")) (t' := (.object "java/lang/String")) (by decide) (by decide)))
      have F297 := F288.other W295 (Or.inr (slot_ne (Or.inr (own_w22 hw)) (Or.inr (own_w24 hw)) (by decide) (t := (.object "java/lang/String")) (t' := (.object "java/lang/String")) (by decide) (by decide)))
      have F298 := F291.other W295 (Or.inr (slot_ne (Or.inr (own_w26 hw)) (Or.inr (own_w24 hw)) (by decide) (t := .int) (t' := (.object "java/lang/String")) (by decide) (by decide)))
      have F299 := F292.other W295 (Or.inr (slot_ne (Or.inr (own_w28 hw)) (Or.inr (own_w24 hw)) (by decide) (t := .boolean) (t' := (.object "java/lang/String")) (by decide) (by decide)))
      replace R := R.aloadN (pc' := 103) (v := (.ref a)) own_d2_102 rfl rfl rfl
      replace R := R.iload (pc' := 105) (v := p3) own_d2_103 rfl rfl
      have K300 := ((Keep.refl h288 [a]).trans (Keep.of_wr W295) (allS (Or.inl (List.mem_of_getElem? (i := 0) rfl)) all0))
      have F301 := F294.keep K300
      obtain ⟨h302, W302, R⟩ := R.putF (pc' := 108) (ty := .int) (host := "") (Or.inl (own_w25 hw)) Via.refl F298 F301 (Or.inr ⟨(own_w26 hw), rfl, hnm⟩) (own_w6 hw) (by decide) rfl rfl ha own_d2_105 rfl
      have F302 := F298.same W302
      have F303 := F296.other W302 (Or.inr (slot_ne (Or.inr (own_w20 hw)) (Or.inr (own_w26 hw)) (by decide) (t := (.object "com/example/slicewise/slicewise/plan/Method")) (t' := .int) (by decide) (by decide)))
      have F304 := F297.other W302 (Or.inr (slot_ne (Or.inr (own_w22 hw)) (Or.inr (own_w26 hw)) (by decide) (t := (.object "java/lang/String")) (t' := .int) (by decide) (by decide)))
      have F305 := F295.other W302 (Or.inr (slot_ne (Or.inr (own_w24 hw)) (Or.inr (own_w26 hw)) (by decide) (t := (.object "java/lang/String")) (t' := .int) (by decide) (by decide)))
      have F306 := F299.other W302 (Or.inr (slot_ne (Or.inr (own_w28 hw)) (Or.inr (own_w26 hw)) (by decide) (t := .boolean) (t' := .int) (by decide) (by decide)))
      replace R := R.aloadN (pc' := 109) (v := (.ref a)) own_d2_108 rfl rfl rfl
      replace R := R.iload (pc' := 111) (v := p4) own_d2_109 rfl rfl
      have K307 := ((Keep.refl h295 [a]).trans (Keep.of_wr W302) (allS (Or.inl (List.mem_of_getElem? (i := 0) rfl)) all0))
      have F308 := F301.keep K307
      obtain ⟨h309, W309, R⟩ := R.putFN (pc' := 114) (ty := .boolean) (v' := (.int p4)) (own_w27 hw) Via.refl F306 F308 (Or.inr ⟨(own_w28 hw), rfl, hnm⟩) (own_w6 hw) (by decide) (congrArg Value.int (hz)) (by rw [← hz]; exact fits_nar_bool _) ha own_d2_111 rfl
      have F309 := F306.same W309
      have F310 := F303.other W309 (Or.inr (slot_ne (Or.inr (own_w20 hw)) (Or.inr (own_w28 hw)) (by decide) (t := (.object "com/example/slicewise/slicewise/plan/Method")) (t' := .boolean) (by decide) (by decide)))
      have F311 := F304.other W309 (Or.inr (slot_ne (Or.inr (own_w22 hw)) (Or.inr (own_w28 hw)) (by decide) (t := (.object "java/lang/String")) (t' := .boolean) (by decide) (by decide)))
      have F312 := F305.other W309 (Or.inr (slot_ne (Or.inr (own_w24 hw)) (Or.inr (own_w28 hw)) (by decide) (t := (.object "java/lang/String")) (t' := .boolean) (by decide) (by decide)))
      have F313 := F302.other W309 (Or.inr (slot_ne (Or.inr (own_w26 hw)) (Or.inr (own_w28 hw)) (by decide) (t := .int) (t' := .boolean) (by decide) (by decide)))
      have hK := ((((((Keep.refl h [a]).trans (Keep.of_wr W281) (allS (Or.inl (List.mem_of_getElem? (i := 0) rfl)) all0)).trans (Keep.of_wr W288) (allS (Or.inl (List.mem_of_getElem? (i := 0) rfl)) all0)).trans (Keep.of_wr W295) (allS (Or.inl (List.mem_of_getElem? (i := 0) rfl)) all0)).trans (Keep.of_wr W302) (allS (Or.inl (List.mem_of_getElem? (i := 0) rfl)) all0)).trans (Keep.of_wr W309) (allS (Or.inl (List.mem_of_getElem? (i := 0) rfl)) all0))
      have K314 := ((Keep.refl h302 [a]).trans (Keep.of_wr W309) (allS (Or.inl (List.mem_of_getElem? (i := 0) rfl)) all0))
      have F315 := F308.keep K314
      exact R.retV (Ds' := Ds) hret own_d2_114 (by decide) (by decide) (fun _ q => q) ⟨rfl, rfl, hK, F315, F310, F311, F312, F313, F309⟩
set_option maxRecDepth 65536 in
set_option maxHeartbeats 4000000 in
theorem rm_withFilter (l : Launch) (Z : State) (a0 : Array Value) (hw : ∀ d ∈ tables_1, d.before a0 Z = true) (a : Addr) (m sc fl : Value) (p3 p4 : Int32) (h : Heap) (n0 : Nat) (Ds : List Addr) (own_cs : CompactOn Z) (hm' : m.isRef = true) (hsc : sc.isRef = true) {a_M : Addr} (S_M : Sta Z Z.heap "com/example/slicewise/slicewise/plan/Method" "MOD" "Lcom/example/slicewise/slicewise/plan/Method;" (.ref a_M)) {a_i a_A : Addr} {k_A : ClassId} (S_i : Sta Z Z.heap "java/lang/CharacterDataLatin1" "instance" "Ljava/lang/CharacterDataLatin1;" (.ref a_i)) (X_i : Exa Z Z.heap a_i "java/lang/CharacterDataLatin1") (S_A : Sta Z Z.heap "java/lang/CharacterDataLatin1" "A" "[I" (.ref a_A)) (V_A : Arv Z Z.heap a_A k_A .int (256 : Int32) (tabI.map Value.int) (.int 0)) (hmsc : sc = .null ∨ ∃ b, sc = .ref b ∧ (m = .null ∨ m = .ref a_M)) (hfl : FS Z h fl) (ht1 : ¬ p3 < 1) (ht64 : ¬ (64 : Int32) < p3) (hz : nar .boolean p4 = p4) (E_a : Exa Z h a "com/example/slicewise/slicewise/plan/Options") (F_method : Fld Z h a "com/example/slicewise/slicewise/plan/Options" "method" "Lcom/example/slicewise/slicewise/plan/Method;" m) (F_splitColumn : Fld Z h a "com/example/slicewise/slicewise/plan/Options" "splitColumn" "Ljava/lang/String;" sc) (F_threads : Fld Z h a "com/example/slicewise/slicewise/plan/Options" "threads" "I" (.int p3)) (F_oneConnectionPerThread : Fld Z h a "com/example/slicewise/slicewise/plan/Options" "oneConnectionPerThread" "Z" (.int p4)) :
    Ctr l Z (⟨"com/example/slicewise/slicewise/plan/Options", "withFilter", "(Ljava/lang/String;)Lcom/example/slicewise/slicewise/plan/Options;"⟩ : MethodName) prog_5_method_4_code 2 (some (.object "com/example/slicewise/slicewise/plan/Options")) [] ({ frames := 6, cells := 1, slots := 5, locals := 86 } : Room) #[.ref a, fl] h n0 Ds (fun v h' Ds' => ∃ r : Addr, v = some (.ref r) ∧ Keep h h' [] ∧ Exa Z h' r "com/example/slicewise/slicewise/plan/Options" ∧ Fld Z h' r "com/example/slicewise/slicewise/plan/Options" "method" "Lcom/example/slicewise/slicewise/plan/Method;" m ∧ Fld Z h' r "com/example/slicewise/slicewise/plan/Options" "splitColumn" "Ljava/lang/String;" sc ∧ Fld Z h' r "com/example/slicewise/slicewise/plan/Options" "filter" "Ljava/lang/String;" fl ∧ Fld Z h' r "com/example/slicewise/slicewise/plan/Options" "threads" "I" (.int p3) ∧ Fld Z h' r "com/example/slicewise/slicewise/plan/Options" "oneConnectionPerThread" "Z" (.int p4) ∧ Ds = Ds') := by
  refine ctr_of (Ls := #[.val (.ref a), .val fl]) (plainFor_of_name own_pn5) (fun mm => by rcases ref_cases hfl.isRef with rfl | ⟨_, rfl⟩ <;> first | (simp [entryFrame, mkF, argsToLocals, Value.category]; done) | rfl) ?_
  intro C hl hret hnm R
  subst hl
  obtain ⟨h1, b1, g1, E1, X1, D1, R⟩ := R.newO (pc' := 3) (own_w34 hw) (own_w6 hw) (own_w7 hw) own_d5_0 (by decide) (by decide) rfl
  have F1_method : Fld Z h1 b1 "com/example/slicewise/slicewise/plan/Options" "method" "Lcom/example/slicewise/slicewise/plan/Method;" .null := D1 (Or.inr (own_w20 hw)) (ty := (.object "com/example/slicewise/slicewise/plan/Method")) (by decide)
  have F1_splitColumn : Fld Z h1 b1 "com/example/slicewise/slicewise/plan/Options" "splitColumn" "Ljava/lang/String;" .null := D1 (Or.inr (own_w22 hw)) (ty := (.object "java/lang/String")) (by decide)
  have F1_filter : Fld Z h1 b1 "com/example/slicewise/slicewise/plan/Options" "filter" "Ljava/lang/String;" .null := D1 (Or.inr (own_w24 hw)) (ty := (.object "java/lang/String")) (by decide)
  have F1_threads : Fld Z h1 b1 "com/example/slicewise/slicewise/plan/Options" "threads" "I" (.int (0 : Int32)) := D1 (Or.inr (own_w26 hw)) (ty := .int) (by decide)
  have F1_oneConnectionPerThread : Fld Z h1 b1 "com/example/slicewise/slicewise/plan/Options" "oneConnectionPerThread" "Z" (.int (0 : Int32)) := D1 (Or.inr (own_w28 hw)) (ty := .boolean) (by decide)
  replace R := R.dup (pc' := 4) own_d5_3 rfl rfl
  replace R := R.aloadN (pc' := 5) (v := (.ref a)) own_d5_4 rfl rfl rfl
  have K2 := ((Keep.refl h []).trans ((Keep.refl h []).ext E1) all0)
  have F3 := F_method.keep K2 nin0
  replace R := R.getF (pc' := 8) (host := "") (Or.inl (own_w19 hw)) Via.refl F3 own_d5_5 rfl
  replace R := R.aloadN (pc' := 9) (v := (.ref a)) own_d5_8 rfl rfl rfl
  have K4 := ((Keep.refl h []).trans ((Keep.refl h []).ext E1) all0)
  have F5 := F_splitColumn.keep K4 nin0
  replace R := R.getF (pc' := 12) (host := "") (Or.inl (own_w21 hw)) Via.refl F5 own_d5_9 rfl
  replace R := R.aloadN (pc' := 13) (v := fl) own_d5_12 rfl hfl.isRef rfl
  replace R := R.aloadN (pc' := 14) (v := (.ref a)) own_d5_13 rfl rfl rfl
  have K6 := ((Keep.refl h []).trans ((Keep.refl h []).ext E1) all0)
  have F7 := F_threads.keep K6 nin0
  replace R := R.getF (pc' := 17) (host := "") (Or.inl (own_w25 hw)) Via.refl F7 own_d5_14 rfl
  replace R := R.aloadN (pc' := 18) (v := (.ref a)) own_d5_17 rfl rfl rfl
  have K8 := ((Keep.refl h []).trans ((Keep.refl h []).ext E1) all0)
  have F9 := F_oneConnectionPerThread.keep K8 nin0
  replace R := R.getF (pc' := 21) (host := "") (Or.inl (own_w27 hw)) Via.refl F9 own_d5_18 rfl
  have K11 := ((Keep.refl h []).trans ((Keep.refl h []).ext E1) all0)
  have F12 := hfl.keep0 K11
  obtain ⟨_, h10, _, ⟨rfl, rfl, K10, X10, F10_method, F10_splitColumn, F10_filter, F10_threads, F10_oneConnectionPerThread⟩, R⟩ := R.callI (pc' := 24) (a := b1) (argsL := [m, sc, fl, (.int p3), (.int p4)]) (rest := [(.ref b1)]) (W := 1) rfl (own_w35 hw) (own_w9 hw) (own_w7 hw) (own_w10 hw) (by decide) (rm_opts C.l Z a0 hw b1 m sc fl p3 p4 h1 n0 (b1 :: Ds) own_cs (List.mem_of_getElem? (i := 0) rfl) hm' S_M S_i X_i S_A V_A hmsc F12 ht1 ht64 hz X1 F1_method F1_splitColumn F1_filter F1_threads F1_oneConnectionPerThread) rfl (lenOf own_pd11 rfl) rfl rfl own_d5_21 (by decide) (by decide) (by decide) (by decide) rfl
  replace R := R.mono (ce' := 1) (sl' := 5) (by decide) (by decide)
  replace R := R.stk (S' := [(.ref b1)]) rfl
  have hK := (((Keep.refl h []).trans ((Keep.refl h []).ext E1) all0).trans K10 (allS (Or.inr (by rw [g1]; exact (Nat.le_refl _))) all0))
  exact R.retA (Ds' := Ds) hret rfl rfl rfl own_d5_24 (by decide) (by decide) (fun _ q => (fun q => (List.mem_cons_of_mem _ q)) q) ⟨b1, rfl, hK, X10, F10_method, F10_splitColumn, F10_filter, F10_threads, F10_oneConnectionPerThread, rfl⟩
set_option maxRecDepth 65536 in
set_option maxHeartbeats 4000000 in
theorem rm_get_method (l : Launch) (Z : State) (a0 : Array Value) (hw : ∀ d ∈ tables_1, d.before a0 Z = true) (a : Addr) (x : Value) (h : Heap) (n0 : Nat) (Ds : List Addr) (hx : x.isRef = true) (F_g : Fld Z h a "com/example/slicewise/slicewise/plan/Options" "method" "Lcom/example/slicewise/slicewise/plan/Method;" x) :
    Ctr l Z (⟨"com/example/slicewise/slicewise/plan/Options", "method", "()Lcom/example/slicewise/slicewise/plan/Method;"⟩ : MethodName) prog_5_method_10_code 1 (some (.object "com/example/slicewise/slicewise/plan/Method")) [] ({ frames := 0, cells := 0, slots := 0, locals := 0 } : Room) #[.ref a] h n0 Ds (fun v h' Ds' => v = some x ∧ h = h' ∧ Ds = Ds') := by
  refine ctr_of (Ls := #[.val (.ref a)]) (plainFor_of_name own_pn5) (fun m => by first | (simp [entryFrame, mkF, argsToLocals, Value.category]; done) | rfl) ?_
  intro C hl hret hnm R
  subst hl
  replace R := R.aloadN (pc' := 1) (v := (.ref a)) own_d6_0 rfl rfl rfl
  replace R := R.getF (pc' := 4) (host := "") (Or.inl (own_w19 hw)) Via.refl F_g own_d6_1 rfl
  exact R.retA (Ds' := Ds) hret rfl (own_nr rfl hx) hx own_d6_4 (by decide) (by decide) (fun _ q => q) ⟨rfl, rfl, rfl⟩
set_option maxRecDepth 65536 in
set_option maxHeartbeats 4000000 in
theorem rm_get_splitColumn (l : Launch) (Z : State) (a0 : Array Value) (hw : ∀ d ∈ tables_1, d.before a0 Z = true) (a : Addr) (x : Value) (h : Heap) (n0 : Nat) (Ds : List Addr) (hx : x.isRef = true) (F_g : Fld Z h a "com/example/slicewise/slicewise/plan/Options" "splitColumn" "Ljava/lang/String;" x) :
    Ctr l Z (⟨"com/example/slicewise/slicewise/plan/Options", "splitColumn", "()Ljava/lang/String;"⟩ : MethodName) prog_5_method_11_code 1 (some (.object "java/lang/String")) [] ({ frames := 0, cells := 0, slots := 0, locals := 0 } : Room) #[.ref a] h n0 Ds (fun v h' Ds' => v = some x ∧ h = h' ∧ Ds = Ds') := by
  refine ctr_of (Ls := #[.val (.ref a)]) (plainFor_of_name own_pn5) (fun m => by first | (simp [entryFrame, mkF, argsToLocals, Value.category]; done) | rfl) ?_
  intro C hl hret hnm R
  subst hl
  replace R := R.aloadN (pc' := 1) (v := (.ref a)) own_d7_0 rfl rfl rfl
  replace R := R.getF (pc' := 4) (host := "") (Or.inl (own_w21 hw)) Via.refl F_g own_d7_1 rfl
  exact R.retA (Ds' := Ds) hret rfl (own_nr rfl hx) hx own_d7_4 (by decide) (by decide) (fun _ q => q) ⟨rfl, rfl, rfl⟩
set_option maxRecDepth 65536 in
set_option maxHeartbeats 4000000 in
theorem rm_get_filter (l : Launch) (Z : State) (a0 : Array Value) (hw : ∀ d ∈ tables_1, d.before a0 Z = true) (a : Addr) (x : Value) (h : Heap) (n0 : Nat) (Ds : List Addr) (hx : x.isRef = true) (F_g : Fld Z h a "com/example/slicewise/slicewise/plan/Options" "filter" "Ljava/lang/String;" x) :
    Ctr l Z (⟨"com/example/slicewise/slicewise/plan/Options", "filter", "()Ljava/lang/String;"⟩ : MethodName) prog_5_method_12_code 1 (some (.object "java/lang/String")) [] ({ frames := 0, cells := 0, slots := 0, locals := 0 } : Room) #[.ref a] h n0 Ds (fun v h' Ds' => v = some x ∧ h = h' ∧ Ds = Ds') := by
  refine ctr_of (Ls := #[.val (.ref a)]) (plainFor_of_name own_pn5) (fun m => by first | (simp [entryFrame, mkF, argsToLocals, Value.category]; done) | rfl) ?_
  intro C hl hret hnm R
  subst hl
  replace R := R.aloadN (pc' := 1) (v := (.ref a)) own_d9_0 rfl rfl rfl
  replace R := R.getF (pc' := 4) (host := "") (Or.inl (own_w23 hw)) Via.refl F_g own_d9_1 rfl
  exact R.retA (Ds' := Ds) hret rfl (own_nr rfl hx) hx own_d9_4 (by decide) (by decide) (fun _ q => q) ⟨rfl, rfl, rfl⟩
set_option maxRecDepth 65536 in
set_option maxHeartbeats 4000000 in
theorem rm_get_threads (l : Launch) (Z : State) (a0 : Array Value) (hw : ∀ d ∈ tables_1, d.before a0 Z = true) (a : Addr) (x : Int32) (h : Heap) (n0 : Nat) (Ds : List Addr) (F_g : Fld Z h a "com/example/slicewise/slicewise/plan/Options" "threads" "I" (.int x)) :
    Ctr l Z (⟨"com/example/slicewise/slicewise/plan/Options", "threads", "()I"⟩ : MethodName) prog_5_method_13_code 1 (some .int) [] ({ frames := 0, cells := 0, slots := 0, locals := 0 } : Room) #[.ref a] h n0 Ds (fun v h' Ds' => v = some (.int x) ∧ h = h' ∧ Ds = Ds') := by
  refine ctr_of (Ls := #[.val (.ref a)]) (plainFor_of_name own_pn5) (fun m => by first | (simp [entryFrame, mkF, argsToLocals, Value.category]; done) | rfl) ?_
  intro C hl hret hnm R
  subst hl
  replace R := R.aloadN (pc' := 1) (v := (.ref a)) own_d10_0 rfl rfl rfl
  replace R := R.getF (pc' := 4) (host := "") (Or.inl (own_w25 hw)) Via.refl F_g own_d10_1 rfl
  exact R.retI (Ds' := Ds) hret own_d10_4 (by decide) (by decide) (fun _ q => q) ⟨rfl, rfl, rfl⟩
set_option maxRecDepth 65536 in
set_option maxHeartbeats 4000000 in
theorem rm_get_oneConnectionPerThread (l : Launch) (Z : State) (a0 : Array Value) (hw : ∀ d ∈ tables_1, d.before a0 Z = true) (a : Addr) (x : Int32) (h : Heap) (n0 : Nat) (Ds : List Addr) (hx : nar .boolean x = x) (F_g : Fld Z h a "com/example/slicewise/slicewise/plan/Options" "oneConnectionPerThread" "Z" (.int x)) :
    Ctr l Z (⟨"com/example/slicewise/slicewise/plan/Options", "oneConnectionPerThread", "()Z"⟩ : MethodName) prog_5_method_14_code 1 (some .boolean) [] ({ frames := 0, cells := 0, slots := 0, locals := 0 } : Room) #[.ref a] h n0 Ds (fun v h' Ds' => v = some (.int x) ∧ h = h' ∧ Ds = Ds') := by
  refine ctr_of (Ls := #[.val (.ref a)]) (plainFor_of_name own_pn5) (fun m => by first | (simp [entryFrame, mkF, argsToLocals, Value.category]; done) | rfl) ?_
  intro C hl hret hnm R
  subst hl
  replace R := R.aloadN (pc' := 1) (v := (.ref a)) own_d11_0 rfl rfl rfl
  replace R := R.getF (pc' := 4) (host := "") (Or.inl (own_w27 hw)) Via.refl F_g own_d11_1 rfl
  exact R.retN (Ds' := Ds) hret (by simp) (show nar .boolean x = x from hx) own_d11_4 (by decide) (by decide) (fun _ q => q) ⟨rfl, rfl, rfl⟩
theorem rm_same (l : Launch) (Z : State) (a0 : Array Value) (hw : ∀ d ∈ tables_1, d.before a0 Z = true) (x : Value) (h : Heap) (n0 : Nat) (Ds : List Addr) (hx : FS Z h x) :
    Ctr l Z (⟨"com/example/slicewise/slicewise/plan/OptionsWithFilterPinLaw", "same", "(Ljava/lang/String;Ljava/lang/String;)Z"⟩ : MethodName) method_3_code 2 (some .boolean) [] ({ frames := 1, cells := 0, slots := 0, locals := 14 } : Room) #[x, x] h n0 Ds (fun v h' Ds' => v = some (.int 1) ∧ h = h' ∧ Ds = Ds') := by
  rcases hx with rfl | ⟨r, cs, rfl, S_r, -⟩
  · refine ctr_of (Ls := #[.val .null, .val .null]) (plainFor_of_name own_pn2) (fun mm => by first | (simp [entryFrame, mkF, argsToLocals, Value.category]; done) | rfl) ?_
    intro C hl hret hnm R
    subst hl
    replace R := R.aloadN (pc' := 1) (v := .null) own_d8_0 rfl rfl rfl
    replace R := R.ifnonnullN (pc' := 4) own_d8_1 rfl
    replace R := R.aloadN (pc' := 5) (v := .null) own_d8_4 rfl rfl rfl
    replace R := R.ifnonnullN (pc' := 8) own_d8_5 rfl
    replace R := R.iconst (pc' := 9) (z := (1 : Int32)) own_d8_8 rfl rfl
    replace R := R.goto (pc' := 13) own_d8_9 (by decide) rfl
    exact R.retN (Ds' := Ds) hret (by simp) (show nar .boolean (1 : Int32) = (1 : Int32) from rfl) own_d8_13 (by decide) (by decide) (fun _ q => q) ⟨rfl, rfl, rfl⟩
  · refine ctr_of (Ls := #[.val (.ref r), .val (.ref r)]) (plainFor_of_name own_pn2) (fun mm => by first | (simp [entryFrame, mkF, argsToLocals, Value.category]; done) | rfl) ?_
    intro C hl hret hnm R
    subst hl
    replace R := R.aloadN (pc' := 1) (v := (.ref r)) own_d8_0 rfl rfl rfl
    replace R := R.ifnonnullY (pc' := 14) own_d8_1 (by decide) rfl
    replace R := R.aloadN (pc' := 15) (v := (.ref r)) own_d8_14 rfl rfl rfl
    replace R := R.aloadN (pc' := 16) (v := (.ref r)) own_d8_15 rfl rfl rfl
    obtain ⟨_, _, _, ⟨rfl, rfl, rfl⟩, R⟩ := R.callV (pc' := 19) (y := (⟨"java/lang/String", "equals", "(Ljava/lang/Object;)Z"⟩ : MethodName)) (z := (⟨"java/lang/String", "equals", "(Ljava/lang/Object;)Z"⟩ : MethodName)) (argsL := [(.ref r)]) (rest := []) (W := 0) (own_w153 hw) (own_w154 hw) (fun s' hZ' => notFace_of_selects (args := #[]) (mvT hZ' (own_w156 hw))) (own_w156 hw) (own_w155 hw) (own_w70 hw) (own_w157 hw) (by decide) S_r.1 (rm_eqsame C.l Z a0 hw r h n0 Ds) rfl (lenOf own_pd12 rfl) rfl rfl own_d8_16 (by decide) (by decide) (by decide) (by decide) rfl
    replace R := R.mono (ce' := 0) (sl' := 0) (by decide) (by decide)
    replace R := R.stk (S' := [(.int (1 : Int32))]) rfl
    exact R.retN (Ds' := Ds) hret (by simp) (show nar .boolean (1 : Int32) = (1 : Int32) from rfl) own_d8_19 (by decide) (by decide) (fun _ q => q) ⟨rfl, rfl, rfl⟩
def s_flag (i0 : Int32) : Int32 := if (((i0.toUInt32 >>> ((8 : Int32) &&& 31).toUInt32).toInt32) &&& (1 : Int32)) = (0 : Int32) then (0 : Int32) else (1 : Int32)
set_option maxRecDepth 65536 in
set_option maxHeartbeats 40000000 in
theorem rm_law (l : Launch) (Z : State) (a0 : Array Value) (hw : ∀ d ∈ tables_1, d.before a0 Z = true) (i0 : Int32) (i1 : Int32) (i2 : Int32) (i3 : Int32) (i4 : Int32) (h : Heap) (n0 : Nat) (Ds : List Addr) (own_cs : CompactOn Z) {a_M a_P a_B : Addr} (S_M : Sta Z Z.heap "com/example/slicewise/slicewise/plan/Method" "MOD" "Lcom/example/slicewise/slicewise/plan/Method;" (.ref a_M)) (S_P : Sta Z Z.heap "com/example/slicewise/slicewise/plan/Method" "PARTITIONS" "Lcom/example/slicewise/slicewise/plan/Method;" (.ref a_P)) (S_B : Sta Z Z.heap "com/example/slicewise/slicewise/plan/Method" "BLOCKS" "Lcom/example/slicewise/slicewise/plan/Method;" (.ref a_B)) {a_i a_A : Addr} {k_A : ClassId} (S_i : Sta Z Z.heap "java/lang/CharacterDataLatin1" "instance" "Ljava/lang/CharacterDataLatin1;" (.ref a_i)) (X_i : Exa Z Z.heap a_i "java/lang/CharacterDataLatin1") (S_A : Sta Z Z.heap "java/lang/CharacterDataLatin1" "A" "[I" (.ref a_A)) (V_A : Arv Z Z.heap a_A k_A .int (256 : Int32) (tabI.map Value.int) (.int 0)) :
    Ctr l Z x code maxLocals ret tables_1 room_1 #[(.int i0), (.int i1), (.int i2), (.int i3), (.int i4)] h n0 Ds (fun v h' Ds' => v = some (.int 1)) := by
  have own_hws : ∀ d ∈ StrChars.Road.words, d.before a0 Z = true := fun d hd => hw d ((by decide +kernel : ∀ d ∈ StrChars.Road.words, d ∈ tables_1) d hd)
  refine ctr_of (Ls := #[.val (.int i0), .val (.int i1), .val (.int i2), .val (.int i3), .val (.int i4), .unset, .unset, .unset, .unset, .unset, .unset, .unset, .unset, .unset]) (plainFor_of_name own_pn2) (fun m => by first | (simp [entryFrame, mkF, argsToLocals, Value.category, maxLocals]; done) | rfl) ?_
  intro C hl hret hnm R
  subst hl
  have hK0 := (Keep.refl Z.heap []).ext R.old.2
  obtain ⟨m, sc, h1, hm', hmsc, hsc0, K1, R⟩ : ∃ (m sc : Value) (h1 : Heap), m.isRef = true ∧ (sc = .null ∨ ∃ b, sc = .ref b ∧ (m = .null ∨ m = .ref a_M)) ∧ FS Z h1 sc ∧ Keep h h1 [] ∧ Rc C room_1 "com/example/slicewise/slicewise/plan/OptionsWithFilterPinLaw" code maxLocals Z n0 3 10 65 #[.val (.int i0), .val (.int i1), .val (.int i2), .val (.int i3), .val (.int i4), .val (.int (i0 &&& (3 : Int32))), .val m, .val sc, .unset, .unset, .unset, .unset, .unset, .unset] [] h1 Ds := by
    replace R := R.iloadN (pc' := 1) (v := i0) at_0 rfl rfl
    replace R := R.iconst (pc' := 2) (z := (3 : Int32)) at_1 rfl rfl
    replace R := R.iand (pc' := 3) at_2 rfl
    replace R := R.istore (pc' := 5) (l' := #[.val (.int i0), .val (.int i1), .val (.int i2), .val (.int i3), .val (.int i4), .val (.int (i0 &&& (3 : Int32))), .unset, .unset, .unset, .unset, .unset, .unset, .unset, .unset]) at_3 rfl rfl
    replace R := R.anull (pc' := 6) at_5 rfl
    replace R := R.astore (pc' := 8) (l' := #[.val (.int i0), .val (.int i1), .val (.int i2), .val (.int i3), .val (.int i4), .val (.int (i0 &&& (3 : Int32))), .val .null, .unset, .unset, .unset, .unset, .unset, .unset, .unset]) at_6 rfl rfl rfl
    replace R := R.iload (pc' := 10) (v := (i0 &&& (3 : Int32))) at_8 rfl rfl
    replace R := R.iconst (pc' := 11) (z := (1 : Int32)) at_10 rfl rfl
    by_cases hc1 : (i0 &&& (3 : Int32)) = (1 : Int32)
    · replace R := R.icmpN (pc' := 14) at_11 (teq hc1).2 rfl
      replace R := R.getS (pc' := 17) (host := "") (Or.inl (own_w160 hw)) Via.refl S_M at_14 rfl
      replace R := R.astore (pc' := 19) (l' := #[.val (.int i0), .val (.int i1), .val (.int i2), .val (.int i3), .val (.int i4), .val (.int (i0 &&& (3 : Int32))), .val (.ref a_M), .unset, .unset, .unset, .unset, .unset, .unset, .unset]) at_17 rfl rfl rfl
      replace R := R.goto (pc' := 47) at_19 (by decide) rfl
      replace R := R.anull (pc' := 48) at_47 rfl
      replace R := R.astore (pc' := 50) (l' := #[.val (.int i0), .val (.int i1), .val (.int i2), .val (.int i3), .val (.int i4), .val (.int (i0 &&& (3 : Int32))), .val (.ref a_M), .val .null, .unset, .unset, .unset, .unset, .unset, .unset]) at_48 rfl rfl rfl
      replace R := R.iload (pc' := 52) (v := (i0 &&& (3 : Int32))) at_50 rfl rfl
      replace R := R.iconst (pc' := 53) (z := (1 : Int32)) at_52 rfl rfl
      replace R := R.icmpN (pc' := 56) at_53 (flt (by rw [hc1]; decide)).2.2.1 rfl
      replace R := R.iloadN (pc' := 57) (v := i0) at_56 rfl rfl
      replace R := R.iconst (pc' := 58) (z := (2 : Int32)) at_57 rfl rfl
      replace R := R.iushr (pc' := 59) at_58 rfl
      replace R := R.iloadN (pc' := 60) (v := i2) at_59 rfl rfl
      obtain ⟨_, h2, _, ⟨x2, rfl, S2, K2, rfl⟩, R⟩ := R.callS (pc' := 63) (argsL := [(.int ((i0.toUInt32 >>> ((2 : Int32) &&& 31).toUInt32).toInt32)), (.int i2)]) (rest := []) (W := 0) (own_w0 hw) (own_w1 hw) (own_w2 hw) (own_w3 hw) (by decide) (rm_str C.l Z a0 hw ((i0.toUInt32 >>> ((2 : Int32) &&& 31).toUInt32).toInt32) i2 h n0 Ds own_cs) rfl (lenOf own_pd13 rfl) rfl rfl at_60 (by decide) (by decide) (by decide) (by decide) rfl
      replace R := R.mono (ce' := 3) (sl' := 10) (by decide) (by decide)
      replace R := R.stk (S' := [x2]) rfl
      replace R := R.astore (pc' := 65) (l' := #[.val (.int i0), .val (.int i1), .val (.int i2), .val (.int i3), .val (.int i4), .val (.int (i0 &&& (3 : Int32))), .val (.ref a_M), .val x2, .unset, .unset, .unset, .unset, .unset, .unset]) at_63 S2.isRef (by rcases ref_cases (S2.isRef) with rfl | ⟨_, rfl⟩ <;> rfl) rfl
      have hK : Keep h h2 [] := ((Keep.refl h []).trans K2 all0)
      exact ⟨_, _, _, rfl, (hmx S2 (Or.inr rfl)), S2, hK, R.mono (ce' := 3) (sl' := 10) (by decide) (by decide)⟩
    · replace R := R.icmpY (pc' := 22) at_11 (feq hc1).2 (by decide) rfl
      replace R := R.iload (pc' := 24) (v := (i0 &&& (3 : Int32))) at_22 rfl rfl
      replace R := R.iconst (pc' := 25) (z := (2 : Int32)) at_24 rfl rfl
      by_cases hc3 : (i0 &&& (3 : Int32)) = (2 : Int32)
      · replace R := R.icmpN (pc' := 28) at_25 (teq hc3).2 rfl
        replace R := R.getS (pc' := 31) (host := "") (Or.inl (own_w158 hw)) Via.refl S_P at_28 rfl
        replace R := R.astore (pc' := 33) (l' := #[.val (.int i0), .val (.int i1), .val (.int i2), .val (.int i3), .val (.int i4), .val (.int (i0 &&& (3 : Int32))), .val (.ref a_P), .unset, .unset, .unset, .unset, .unset, .unset, .unset]) at_31 rfl rfl rfl
        replace R := R.goto (pc' := 47) at_33 (by decide) rfl
        replace R := R.anull (pc' := 48) at_47 rfl
        replace R := R.astore (pc' := 50) (l' := #[.val (.int i0), .val (.int i1), .val (.int i2), .val (.int i3), .val (.int i4), .val (.int (i0 &&& (3 : Int32))), .val (.ref a_P), .val .null, .unset, .unset, .unset, .unset, .unset, .unset]) at_48 rfl rfl rfl
        replace R := R.iload (pc' := 52) (v := (i0 &&& (3 : Int32))) at_50 rfl rfl
        replace R := R.iconst (pc' := 53) (z := (1 : Int32)) at_52 rfl rfl
        replace R := R.icmpY (pc' := 65) at_53 (tlt (by rw [hc3]; decide)).2.2.1 (by decide) rfl
        have hK : Keep h h [] := Keep.refl h []
        exact ⟨_, _, _, rfl, Or.inl rfl, Or.inl rfl, hK, R.mono (ce' := 3) (sl' := 10) (by decide) (by decide)⟩
      · replace R := R.icmpY (pc' := 36) at_25 (feq hc3).2 (by decide) rfl
        replace R := R.iload (pc' := 38) (v := (i0 &&& (3 : Int32))) at_36 rfl rfl
        replace R := R.iconst (pc' := 39) (z := (3 : Int32)) at_38 rfl rfl
        by_cases hc4 : (i0 &&& (3 : Int32)) = (3 : Int32)
        · replace R := R.icmpN (pc' := 42) at_39 (teq hc4).2 rfl
          replace R := R.getS (pc' := 45) (host := "") (Or.inl (own_w64 hw)) Via.refl S_B at_42 rfl
          replace R := R.astore (pc' := 47) (l' := #[.val (.int i0), .val (.int i1), .val (.int i2), .val (.int i3), .val (.int i4), .val (.int (i0 &&& (3 : Int32))), .val (.ref a_B), .unset, .unset, .unset, .unset, .unset, .unset, .unset]) at_45 rfl rfl rfl
          replace R := R.anull (pc' := 48) at_47 rfl
          replace R := R.astore (pc' := 50) (l' := #[.val (.int i0), .val (.int i1), .val (.int i2), .val (.int i3), .val (.int i4), .val (.int (i0 &&& (3 : Int32))), .val (.ref a_B), .val .null, .unset, .unset, .unset, .unset, .unset, .unset]) at_48 rfl rfl rfl
          replace R := R.iload (pc' := 52) (v := (i0 &&& (3 : Int32))) at_50 rfl rfl
          replace R := R.iconst (pc' := 53) (z := (1 : Int32)) at_52 rfl rfl
          replace R := R.icmpY (pc' := 65) at_53 (tlt (by rw [hc4]; decide)).2.2.1 (by decide) rfl
          have hK : Keep h h [] := Keep.refl h []
          exact ⟨_, _, _, rfl, Or.inl rfl, Or.inl rfl, hK, R.mono (ce' := 3) (sl' := 10) (by decide) (by decide)⟩
        · replace R := R.icmpY (pc' := 47) at_39 (feq hc4).2 (by decide) rfl
          replace R := R.anull (pc' := 48) at_47 rfl
          replace R := R.astore (pc' := 50) (l' := #[.val (.int i0), .val (.int i1), .val (.int i2), .val (.int i3), .val (.int i4), .val (.int (i0 &&& (3 : Int32))), .val .null, .val .null, .unset, .unset, .unset, .unset, .unset, .unset]) at_48 rfl rfl rfl
          replace R := R.iload (pc' := 52) (v := (i0 &&& (3 : Int32))) at_50 rfl rfl
          replace R := R.iconst (pc' := 53) (z := (1 : Int32)) at_52 rfl rfl
          by_cases hc5 : (1 : Int32) < (i0 &&& (3 : Int32))
          · replace R := R.icmpY (pc' := 65) at_53 (tlt hc5).2.2.1 (by decide) rfl
            have hK : Keep h h [] := Keep.refl h []
            exact ⟨_, _, _, rfl, Or.inl rfl, Or.inl rfl, hK, R.mono (ce' := 3) (sl' := 10) (by decide) (by decide)⟩
          · replace R := R.icmpN (pc' := 56) at_53 (flt hc5).2.2.1 rfl
            replace R := R.iloadN (pc' := 57) (v := i0) at_56 rfl rfl
            replace R := R.iconst (pc' := 58) (z := (2 : Int32)) at_57 rfl rfl
            replace R := R.iushr (pc' := 59) at_58 rfl
            replace R := R.iloadN (pc' := 60) (v := i2) at_59 rfl rfl
            obtain ⟨_, h6, _, ⟨x6, rfl, S6, K6, rfl⟩, R⟩ := R.callS (pc' := 63) (argsL := [(.int ((i0.toUInt32 >>> ((2 : Int32) &&& 31).toUInt32).toInt32)), (.int i2)]) (rest := []) (W := 0) (own_w0 hw) (own_w1 hw) (own_w2 hw) (own_w3 hw) (by decide) (rm_str C.l Z a0 hw ((i0.toUInt32 >>> ((2 : Int32) &&& 31).toUInt32).toInt32) i2 h n0 Ds own_cs) rfl (lenOf own_pd13 rfl) rfl rfl at_60 (by decide) (by decide) (by decide) (by decide) rfl
            replace R := R.mono (ce' := 3) (sl' := 10) (by decide) (by decide)
            replace R := R.stk (S' := [x6]) rfl
            replace R := R.astore (pc' := 65) (l' := #[.val (.int i0), .val (.int i1), .val (.int i2), .val (.int i3), .val (.int i4), .val (.int (i0 &&& (3 : Int32))), .val .null, .val x6, .unset, .unset, .unset, .unset, .unset, .unset]) at_63 S6.isRef (by rcases ref_cases (S6.isRef) with rfl | ⟨_, rfl⟩ <;> rfl) rfl
            have hK : Keep h h6 [] := ((Keep.refl h []).trans K6 all0)
            exact ⟨_, _, _, rfl, (hmx S6 (Or.inl rfl)), S6, hK, R.mono (ce' := 3) (sl' := 10) (by decide) (by decide)⟩
  replace R := R.iloadN (pc' := 66) (v := i0) at_65 rfl rfl
  replace R := R.iconst (pc' := 67) (z := (4 : Int32)) at_66 rfl rfl
  replace R := R.iushr (pc' := 68) at_67 rfl
  replace R := R.iloadN (pc' := 69) (v := i3) at_68 rfl rfl
  obtain ⟨_, h7, _, ⟨x7, rfl, S7, K7, rfl⟩, R⟩ := R.callS (pc' := 72) (argsL := [(.int ((i0.toUInt32 >>> ((4 : Int32) &&& 31).toUInt32).toInt32)), (.int i3)]) (rest := []) (W := 0) (own_w0 hw) (own_w1 hw) (own_w2 hw) (own_w3 hw) (by decide) (rm_str C.l Z a0 hw ((i0.toUInt32 >>> ((4 : Int32) &&& 31).toUInt32).toInt32) i3 h1 n0 Ds own_cs) rfl (lenOf own_pd13 rfl) rfl rfl at_69 (by decide) (by decide) (by decide) (by decide) rfl
  replace R := R.mono (ce' := 6) (sl' := 20) (by decide) (by decide)
  replace R := R.stk (S' := [x7]) rfl
  replace R := R.astore (pc' := 74) (l' := #[.val (.int i0), .val (.int i1), .val (.int i2), .val (.int i3), .val (.int i4), .val (.int (i0 &&& (3 : Int32))), .val m, .val sc, .val x7, .unset, .unset, .unset, .unset, .unset]) at_72 S7.isRef (by rcases ref_cases (S7.isRef) with rfl | ⟨_, rfl⟩ <;> rfl) rfl
  replace R := R.iloadN (pc' := 75) (v := i0) at_74 rfl rfl
  replace R := R.bipush (pc' := 77) (z := (6 : Int32)) at_75 rfl rfl
  replace R := R.iushr (pc' := 78) at_77 rfl
  replace R := R.iload (pc' := 80) (v := i4) at_78 rfl rfl
  obtain ⟨_, h8, _, ⟨x8, rfl, S8, K8, rfl⟩, R⟩ := R.callS (pc' := 83) (argsL := [(.int ((i0.toUInt32 >>> ((6 : Int32) &&& 31).toUInt32).toInt32)), (.int i4)]) (rest := []) (W := 0) (own_w0 hw) (own_w1 hw) (own_w2 hw) (own_w3 hw) (by decide) (rm_str C.l Z a0 hw ((i0.toUInt32 >>> ((6 : Int32) &&& 31).toUInt32).toInt32) i4 h7 n0 Ds own_cs) rfl (lenOf own_pd13 rfl) rfl rfl at_80 (by decide) (by decide) (by decide) (by decide) rfl
  replace R := R.mono (ce' := 9) (sl' := 30) (by decide) (by decide)
  replace R := R.stk (S' := [x8]) rfl
  replace R := R.astore (pc' := 85) (l' := #[.val (.int i0), .val (.int i1), .val (.int i2), .val (.int i3), .val (.int i4), .val (.int (i0 &&& (3 : Int32))), .val m, .val sc, .val x7, .val x8, .unset, .unset, .unset, .unset]) at_83 S8.isRef (by rcases ref_cases (S8.isRef) with rfl | ⟨_, rfl⟩ <;> rfl) rfl
  replace R : Rc C room_1 "com/example/slicewise/slicewise/plan/OptionsWithFilterPinLaw" code maxLocals Z n0 9 30 99 #[.val (.int i0), .val (.int i1), .val (.int i2), .val (.int i3), .val (.int i4), .val (.int (i0 &&& (3 : Int32))), .val m, .val sc, .val x7, .val x8, .unset, .unset, .unset, .unset] [(.int (s_flag i0))] h8 Ds := by
    replace R := R.iloadN (pc' := 86) (v := i0) at_85 rfl rfl
    replace R := R.bipush (pc' := 88) (z := (8 : Int32)) at_86 rfl rfl
    replace R := R.iushr (pc' := 89) at_88 rfl
    replace R := R.iconst (pc' := 90) (z := (1 : Int32)) at_89 rfl rfl
    replace R := R.iand (pc' := 91) at_90 rfl
    by_cases hc9 : (((i0.toUInt32 >>> ((8 : Int32) &&& 31).toUInt32).toInt32) &&& (1 : Int32)) = (0 : Int32)
    · replace R := R.ifY (pc' := 98) at_91 (teq hc9).1 (by decide) rfl
      replace R := R.iconst (pc' := 99) (z := (0 : Int32)) at_98 rfl rfl
      have hv : (0 : Int32) = (s_flag i0) := by unfold s_flag; rw [if_pos hc9]
      exact (R.mono (ce' := 9) (sl' := 30) (by decide) (by decide)).stk (congrArg (fun z => (Value.int z :: [] : List Value)) hv)
    · replace R := R.ifN (pc' := 94) at_91 (feq hc9).1 rfl
      replace R := R.iconst (pc' := 95) (z := (1 : Int32)) at_94 rfl rfl
      replace R := R.goto (pc' := 99) at_95 (by decide) rfl
      have hv : (1 : Int32) = (s_flag i0) := by unfold s_flag; rw [if_neg hc9]
      exact (R.mono (ce' := 9) (sl' := 30) (by decide) (by decide)).stk (congrArg (fun z => (Value.int z :: [] : List Value)) hv)
  replace R := R.istore (pc' := 101) (l' := #[.val (.int i0), .val (.int i1), .val (.int i2), .val (.int i3), .val (.int i4), .val (.int (i0 &&& (3 : Int32))), .val m, .val sc, .val x7, .val x8, .val (.int (s_flag i0)), .unset, .unset, .unset]) at_99 rfl rfl
  obtain ⟨fg, e_fg⟩ : ∃ z, z = (s_flag i0) := ⟨_, rfl⟩
  rw [← e_fg] at R
  have hz : nar .boolean fg = fg := by rw [e_fg]; unfold s_flag; split <;> rfl
  replace R := R.iconst (pc' := 102) (z := (1 : Int32)) at_101 rfl rfl
  replace R := R.iloadN (pc' := 103) (v := i1) at_102 rfl rfl
  replace R := R.ldcI (pc' := 105) (own_w4 hw) at_103 rfl
  replace R := R.iand (pc' := 106) at_105 rfl
  replace R := R.bipush (pc' := 108) (z := (64 : Int32)) at_106 rfl rfl
  replace R := R.irem (pc' := 109) at_108 (by decide) rfl
  replace R := R.iadd (pc' := 110) at_109 rfl
  replace R := R.istore (pc' := 112) (l' := #[.val (.int i0), .val (.int i1), .val (.int i2), .val (.int i3), .val (.int i4), .val (.int (i0 &&& (3 : Int32))), .val m, .val sc, .val x7, .val x8, .val (.int fg), .val (.int ((1 : Int32) + ((i1 &&& (2147483647 : Int32)) % (64 : Int32)))), .unset, .unset]) at_110 rfl rfl
  obtain ⟨th, e_th⟩ : ∃ z, z = ((1 : Int32) + ((i1 &&& (2147483647 : Int32)) % (64 : Int32))) := ⟨_, rfl⟩
  rw [← e_th] at R
  have hth := own_th i1
  rw [← e_th] at hth
  obtain ⟨h10, b10, g10, E10, X10, D10, R⟩ := R.newO (pc' := 115) (own_w5 hw) (own_w6 hw) (own_w7 hw) at_112 (by decide) (by decide) rfl
  have F10_method : Fld Z h10 b10 "com/example/slicewise/slicewise/plan/Options" "method" "Lcom/example/slicewise/slicewise/plan/Method;" .null := D10 (Or.inr (own_w20 hw)) (ty := (.object "com/example/slicewise/slicewise/plan/Method")) (by decide)
  have F10_splitColumn : Fld Z h10 b10 "com/example/slicewise/slicewise/plan/Options" "splitColumn" "Ljava/lang/String;" .null := D10 (Or.inr (own_w22 hw)) (ty := (.object "java/lang/String")) (by decide)
  have F10_filter : Fld Z h10 b10 "com/example/slicewise/slicewise/plan/Options" "filter" "Ljava/lang/String;" .null := D10 (Or.inr (own_w24 hw)) (ty := (.object "java/lang/String")) (by decide)
  have F10_threads : Fld Z h10 b10 "com/example/slicewise/slicewise/plan/Options" "threads" "I" (.int (0 : Int32)) := D10 (Or.inr (own_w26 hw)) (ty := .int) (by decide)
  have F10_oneConnectionPerThread : Fld Z h10 b10 "com/example/slicewise/slicewise/plan/Options" "oneConnectionPerThread" "Z" (.int (0 : Int32)) := D10 (Or.inr (own_w28 hw)) (ty := .boolean) (by decide)
  replace R := R.dup (pc' := 116) at_115 rfl rfl
  replace R := R.aload (pc' := 118) (v := m) at_116 rfl hm' rfl
  replace R := R.aload (pc' := 120) (v := sc) at_118 rfl hsc0.isRef rfl
  replace R := R.aload (pc' := 122) (v := x7) at_120 rfl S7.isRef rfl
  replace R := R.iload (pc' := 124) (v := th) at_122 rfl rfl
  replace R := R.iload (pc' := 126) (v := fg) at_124 rfl rfl
  have K12 := (((Keep.refl h7 []).trans K8 all0).trans ((Keep.refl h8 []).ext E10) all0)
  have F13 := S7.keep0 K12
  obtain ⟨_, h11, _, ⟨rfl, rfl, K11, X11, F11_method, F11_splitColumn, F11_filter, F11_threads, F11_oneConnectionPerThread⟩, R⟩ := R.callI (pc' := 129) (a := b10) (argsL := [m, sc, x7, (.int th), (.int fg)]) (rest := [(.ref b10)]) (W := 1) rfl (own_w8 hw) (own_w9 hw) (own_w7 hw) (own_w10 hw) (by decide) (rm_opts C.l Z a0 hw b10 m sc x7 th fg h10 n0 (b10 :: Ds) own_cs (List.mem_of_getElem? (i := 0) rfl) hm' S_M S_i X_i S_A V_A hmsc F13 hth.1 hth.2 hz X10 F10_method F10_splitColumn F10_filter F10_threads F10_oneConnectionPerThread) rfl (lenOf own_pd11 rfl) rfl rfl at_126 (by decide) (by decide) (by decide) (by decide) rfl
  replace R := R.mono (ce' := 10) (sl' := 35) (by decide) (by decide)
  replace R := R.stk (S' := [(.ref b10)]) rfl
  replace R := R.astore (pc' := 131) (l' := #[.val (.int i0), .val (.int i1), .val (.int i2), .val (.int i3), .val (.int i4), .val (.int (i0 &&& (3 : Int32))), .val m, .val sc, .val x7, .val x8, .val (.int fg), .val (.int th), .val (.ref b10), .unset]) at_129 rfl rfl rfl
  replace R := R.aload (pc' := 133) (v := (.ref b10)) at_131 rfl rfl rfl
  replace R := R.aload (pc' := 135) (v := x8) at_133 rfl S8.isRef rfl
  have K15 := (((Keep.refl h8 []).trans ((Keep.refl h8 []).ext E10) all0).trans K11 (allS (Or.inr (by rw [g10]; exact (Nat.le_refl _))) all0))
  have F16 := S8.keep0 K15
  obtain ⟨_, h14, _, ⟨r14, rfl, K14, X14, F14_method, F14_splitColumn, F14_filter, F14_threads, F14_oneConnectionPerThread, rfl⟩, R⟩ := R.callV (pc' := 138) (y := (⟨"com/example/slicewise/slicewise/plan/Options", "withFilter", "(Ljava/lang/String;)Lcom/example/slicewise/slicewise/plan/Options;"⟩ : MethodName)) (z := (⟨"com/example/slicewise/slicewise/plan/Options", "withFilter", "(Ljava/lang/String;)Lcom/example/slicewise/slicewise/plan/Options;"⟩ : MethodName)) (argsL := [x8]) (rest := []) (W := 0) (own_w29 hw) (own_w30 hw) (fun s' hZ' => notFace_of_selects (args := #[]) (mvT hZ' (own_w32 hw))) (own_w32 hw) (own_w31 hw) (own_w7 hw) (own_w33 hw) (by decide) X11 (rm_withFilter C.l Z a0 hw b10 m sc x8 th fg h11 n0 (b10 :: Ds) own_cs hm' hsc0.isRef S_M S_i X_i S_A V_A hmsc F16 hth.1 hth.2 hz X11 F11_method F11_splitColumn F11_threads F11_oneConnectionPerThread) rfl (lenOf own_pd14 rfl) rfl rfl at_135 (by decide) (by decide) (by decide) (by decide) rfl
  replace R := R.mono (ce' := 11) (sl' := 40) (by decide) (by decide)
  replace R := R.stk (S' := [(.ref r14)]) rfl
  replace R := R.astore (pc' := 140) (l' := #[.val (.int i0), .val (.int i1), .val (.int i2), .val (.int i3), .val (.int i4), .val (.int (i0 &&& (3 : Int32))), .val m, .val sc, .val x7, .val x8, .val (.int fg), .val (.int th), .val (.ref b10), .val (.ref r14)]) at_138 rfl rfl rfl
  replace R := R.aload (pc' := 142) (v := (.ref r14)) at_140 rfl rfl rfl
  obtain ⟨_, _, _, ⟨rfl, rfl, rfl⟩, R⟩ := R.callV (pc' := 145) (y := (⟨"com/example/slicewise/slicewise/plan/Options", "method", "()Lcom/example/slicewise/slicewise/plan/Method;"⟩ : MethodName)) (z := (⟨"com/example/slicewise/slicewise/plan/Options", "method", "()Lcom/example/slicewise/slicewise/plan/Method;"⟩ : MethodName)) (argsL := []) (rest := []) (W := 0) (own_w36 hw) (own_w37 hw) (fun s' hZ' => notFace_of_selects (args := #[]) (mvT hZ' (own_w39 hw))) (own_w39 hw) (own_w38 hw) (own_w7 hw) (own_w40 hw) (by decide) X14 (rm_get_method C.l Z a0 hw r14 m h14 n0 (b10 :: Ds) hm' F14_method) rfl (lenOf own_pd15 rfl) rfl rfl at_142 (by decide) (by decide) (by decide) (by decide) rfl
  replace R := R.mono (ce' := 11) (sl' := 40) (by decide) (by decide)
  replace R := R.stk (S' := [m]) rfl
  replace R := R.aload (pc' := 147) (v := m) at_145 rfl hm' rfl
  replace R := R.acmp (pc' := 150) (same := true) at_147 hm' hm' (decide_eq_true rfl) (by decide) (by decide)
  replace R := R.aload (pc' := 152) (v := (.ref r14)) at_150 rfl rfl rfl
  obtain ⟨_, _, _, ⟨rfl, rfl, rfl⟩, R⟩ := R.callV (pc' := 155) (y := (⟨"com/example/slicewise/slicewise/plan/Options", "splitColumn", "()Ljava/lang/String;"⟩ : MethodName)) (z := (⟨"com/example/slicewise/slicewise/plan/Options", "splitColumn", "()Ljava/lang/String;"⟩ : MethodName)) (argsL := []) (rest := []) (W := 0) (own_w41 hw) (own_w42 hw) (fun s' hZ' => notFace_of_selects (args := #[]) (mvT hZ' (own_w44 hw))) (own_w44 hw) (own_w43 hw) (own_w7 hw) (own_w45 hw) (by decide) X14 (rm_get_splitColumn C.l Z a0 hw r14 sc h14 n0 (b10 :: Ds) hsc0.isRef F14_splitColumn) rfl (lenOf own_pd16 rfl) rfl rfl at_152 (by decide) (by decide) (by decide) (by decide) rfl
  replace R := R.mono (ce' := 11) (sl' := 40) (by decide) (by decide)
  replace R := R.stk (S' := [sc]) rfl
  replace R := R.aload (pc' := 157) (v := sc) at_155 rfl hsc0.isRef rfl
  have K17 := ((((((Keep.refl h1 []).trans K7 all0).trans K8 all0).trans ((Keep.refl h8 []).ext E10) all0).trans K11 (allS (Or.inr (by rw [g10]; exact (Nat.le_trans K7.1 K8.1))) all0)).trans K14 all0)
  have F18 := hsc0.keep0 K17
  obtain ⟨_, _, _, ⟨rfl, rfl, rfl⟩, R⟩ := R.callS (pc' := 160) (argsL := [sc, sc]) (rest := []) (W := 0) (own_w46 hw) (own_w47 hw) (own_w2 hw) (own_w48 hw) (by decide) (rm_same C.l Z a0 hw sc h14 n0 (b10 :: Ds) F18) rfl (lenOf own_pd17 rfl) rfl rfl at_157 (by decide) (by decide) (by decide) (by decide) rfl
  replace R := R.mono (ce' := 11) (sl' := 40) (by decide) (by decide)
  replace R := R.stk (S' := [(.int (1 : Int32))]) rfl
  replace R := R.ifN (pc' := 163) at_160 (feq (by decide : ¬ ((1 : Int32) = (0 : Int32)))).1 rfl
  replace R := R.aload (pc' := 165) (v := (.ref r14)) at_163 rfl rfl rfl
  obtain ⟨_, _, _, ⟨rfl, rfl, rfl⟩, R⟩ := R.callV (pc' := 168) (y := (⟨"com/example/slicewise/slicewise/plan/Options", "filter", "()Ljava/lang/String;"⟩ : MethodName)) (z := (⟨"com/example/slicewise/slicewise/plan/Options", "filter", "()Ljava/lang/String;"⟩ : MethodName)) (argsL := []) (rest := []) (W := 0) (own_w49 hw) (own_w50 hw) (fun s' hZ' => notFace_of_selects (args := #[]) (mvT hZ' (own_w52 hw))) (own_w52 hw) (own_w51 hw) (own_w7 hw) (own_w53 hw) (by decide) X14 (rm_get_filter C.l Z a0 hw r14 x8 h14 n0 (b10 :: Ds) S8.isRef F14_filter) rfl (lenOf own_pd16 rfl) rfl rfl at_165 (by decide) (by decide) (by decide) (by decide) rfl
  replace R := R.mono (ce' := 11) (sl' := 40) (by decide) (by decide)
  replace R := R.stk (S' := [x8]) rfl
  replace R := R.aload (pc' := 170) (v := x8) at_168 rfl S8.isRef rfl
  have K19 := ((((Keep.refl h8 []).trans ((Keep.refl h8 []).ext E10) all0).trans K11 (allS (Or.inr (by rw [g10]; exact (Nat.le_refl _))) all0)).trans K14 all0)
  have F20 := S8.keep0 K19
  obtain ⟨_, _, _, ⟨rfl, rfl, rfl⟩, R⟩ := R.callS (pc' := 173) (argsL := [x8, x8]) (rest := []) (W := 0) (own_w46 hw) (own_w47 hw) (own_w2 hw) (own_w48 hw) (by decide) (rm_same C.l Z a0 hw x8 h14 n0 (b10 :: Ds) F20) rfl (lenOf own_pd17 rfl) rfl rfl at_170 (by decide) (by decide) (by decide) (by decide) rfl
  replace R := R.mono (ce' := 11) (sl' := 40) (by decide) (by decide)
  replace R := R.stk (S' := [(.int (1 : Int32))]) rfl
  replace R := R.ifN (pc' := 176) at_173 (feq (by decide : ¬ ((1 : Int32) = (0 : Int32)))).1 rfl
  replace R := R.aload (pc' := 178) (v := (.ref r14)) at_176 rfl rfl rfl
  obtain ⟨_, _, _, ⟨rfl, rfl, rfl⟩, R⟩ := R.callV (pc' := 181) (y := (⟨"com/example/slicewise/slicewise/plan/Options", "threads", "()I"⟩ : MethodName)) (z := (⟨"com/example/slicewise/slicewise/plan/Options", "threads", "()I"⟩ : MethodName)) (argsL := []) (rest := []) (W := 0) (own_w54 hw) (own_w55 hw) (fun s' hZ' => notFace_of_selects (args := #[]) (mvT hZ' (own_w57 hw))) (own_w57 hw) (own_w56 hw) (own_w7 hw) (own_w58 hw) (by decide) X14 (rm_get_threads C.l Z a0 hw r14 th h14 n0 (b10 :: Ds)  F14_threads) rfl (lenOf own_pd9 rfl) rfl rfl at_178 (by decide) (by decide) (by decide) (by decide) rfl
  replace R := R.mono (ce' := 11) (sl' := 40) (by decide) (by decide)
  replace R := R.stk (S' := [(.int th)]) rfl
  replace R := R.iload (pc' := 183) (v := th) at_181 rfl rfl
  replace R := R.icmpN (pc' := 186) at_183 (teq (rfl : th = th)).2 rfl
  replace R := R.aload (pc' := 188) (v := (.ref r14)) at_186 rfl rfl rfl
  obtain ⟨_, _, _, ⟨rfl, rfl, rfl⟩, R⟩ := R.callV (pc' := 191) (y := (⟨"com/example/slicewise/slicewise/plan/Options", "oneConnectionPerThread", "()Z"⟩ : MethodName)) (z := (⟨"com/example/slicewise/slicewise/plan/Options", "oneConnectionPerThread", "()Z"⟩ : MethodName)) (argsL := []) (rest := []) (W := 0) (own_w59 hw) (own_w60 hw) (fun s' hZ' => notFace_of_selects (args := #[]) (mvT hZ' (own_w62 hw))) (own_w62 hw) (own_w61 hw) (own_w7 hw) (own_w63 hw) (by decide) X14 (rm_get_oneConnectionPerThread C.l Z a0 hw r14 fg h14 n0 (b10 :: Ds) hz F14_oneConnectionPerThread) rfl (lenOf own_pd7 rfl) rfl rfl at_188 (by decide) (by decide) (by decide) (by decide) rfl
  replace R := R.mono (ce' := 11) (sl' := 40) (by decide) (by decide)
  replace R := R.stk (S' := [(.int fg)]) rfl
  replace R := R.iload (pc' := 193) (v := fg) at_191 rfl rfl
  replace R := R.icmpN (pc' := 196) at_193 (teq (rfl : fg = fg)).2 rfl
  replace R := R.aload (pc' := 198) (v := (.ref b10)) at_196 rfl rfl rfl
  have K21 := ((Keep.refl h11 []).trans K14 all0)
  have F22 := F11_filter.keep K21 nin0
  have K23 := ((Keep.refl h11 []).trans K14 all0)
  have F24 := X11.keep K23
  obtain ⟨_, _, _, ⟨rfl, rfl, rfl⟩, R⟩ := R.callV (pc' := 201) (y := (⟨"com/example/slicewise/slicewise/plan/Options", "filter", "()Ljava/lang/String;"⟩ : MethodName)) (z := (⟨"com/example/slicewise/slicewise/plan/Options", "filter", "()Ljava/lang/String;"⟩ : MethodName)) (argsL := []) (rest := []) (W := 0) (own_w49 hw) (own_w50 hw) (fun s' hZ' => notFace_of_selects (args := #[]) (mvT hZ' (own_w52 hw))) (own_w52 hw) (own_w51 hw) (own_w7 hw) (own_w53 hw) (by decide) F24 (rm_get_filter C.l Z a0 hw b10 x7 h14 n0 (b10 :: Ds) S7.isRef F22) rfl (lenOf own_pd16 rfl) rfl rfl at_198 (by decide) (by decide) (by decide) (by decide) rfl
  replace R := R.mono (ce' := 11) (sl' := 40) (by decide) (by decide)
  replace R := R.stk (S' := [x7]) rfl
  replace R := R.aload (pc' := 203) (v := x7) at_201 rfl S7.isRef rfl
  have K25 := (((((Keep.refl h7 []).trans K8 all0).trans ((Keep.refl h8 []).ext E10) all0).trans K11 (allS (Or.inr (by rw [g10]; exact K8.1)) all0)).trans K14 all0)
  have F26 := S7.keep0 K25
  obtain ⟨_, _, _, ⟨rfl, rfl, rfl⟩, R⟩ := R.callS (pc' := 206) (argsL := [x7, x7]) (rest := []) (W := 0) (own_w46 hw) (own_w47 hw) (own_w2 hw) (own_w48 hw) (by decide) (rm_same C.l Z a0 hw x7 h14 n0 (b10 :: Ds) F26) rfl (lenOf own_pd17 rfl) rfl rfl at_203 (by decide) (by decide) (by decide) (by decide) rfl
  replace R := R.mono (ce' := 11) (sl' := 40) (by decide) (by decide)
  replace R := R.stk (S' := [(.int (1 : Int32))]) rfl
  replace R := R.ifN (pc' := 209) at_206 (feq (by decide : ¬ ((1 : Int32) = (0 : Int32)))).1 rfl
  replace R := R.iconst (pc' := 210) (z := (1 : Int32)) at_209 rfl rfl
  replace R := R.goto (pc' := 214) at_210 (by decide) rfl
  exact R.retN (Ds' := []) hret (by simp) (show nar .boolean 1 = 1 from rfl) at_214 (by decide) (by decide) (fun _ q => nomatch q) rfl
set_option maxRecDepth 65536 in
set_option maxHeartbeats 40000000 in
theorem comes_1 {Post : Tables → Env → Array Value → State → Outcome → State → Prop} (hpost : ∀ tb e args s v u, (limb_1_1.after args s (.returned v) u = true ∧ limb_1_2.after args s (.returned v) u = true ∧ True) → FrameEnd s (.returned v) u (Jvm.fieldLocs frame_1_writes args s ++ Jvm.arrayLocs frame_1_arrays args s ++ Jvm.staticLocs frame_1_statics s) 32 192 → Post tb e args s (.returned v) u) :
    ArmFor flags0 classFile x code maxLocals ret World_1 tables_1 room_1 Calls_1 rest_1 Pre_1 Post := by
  intro l hfl _ _ p e ha hc hk s m args below hf hA hF happ hP
  obtain ⟨hcalls, hrest, hpre⟩ := hP
  obtain ⟨-, -, -, hnamed, -, -, -, hat⟩ := (Spec.applies_iff hf).mp happ
  obtain ⟨hg, hn⟩ := and_e (Cond.before_iff.mp (show (Jvm.Cond.and given_1 narrow_1).before args s = true from hpre))
  obtain ⟨g1, g2⟩ := and_e hg
  obtain ⟨g3, g4⟩ := and_e g2
  obtain ⟨g5, g6⟩ := and_e g4
  obtain ⟨g7, g8⟩ := and_e g6
  obtain ⟨g9, g10⟩ := and_e g8
  obtain ⟨g11, g12⟩ := and_e hn
  -- g11 : (Jvm.Cond.exactly (Jvm.Term.static "com/example/slicewise/slicewise/plan/Method" "BLOCKS" "Lcom/example/slicewise/slicewise/plan/Method;") "com/example/slicewise/slicewise/plan/Method")
  obtain ⟨g13, g14⟩ := and_e g12
  -- g13 : (Jvm.Cond.exactly (Jvm.Term.static "com/example/slicewise/slicewise/plan/Method" "PARTITIONS" "Lcom/example/slicewise/slicewise/plan/Method;") "com/example/slicewise/slicewise/plan/Method")
  -- g14 : (Jvm.Cond.exactly (Jvm.Term.static "com/example/slicewise/slicewise/plan/Method" "MOD" "Lcom/example/slicewise/slicewise/plan/Method;") "com/example/slicewise/slicewise/plan/Method")
  obtain ⟨w0, w1, w2, w3, w4, rfl⟩ : ∃ w0 w1 w2 w3 w4 : Value, args = #[w0, w1, w2, w3, w4] := by
    have hs : args.size = 5 := by simpa [Cond.value, given_1] using g1
    obtain ⟨L⟩ := args
    match L, hs with
    | [w0, w1, w2, w3, w4], _ => exact ⟨w0, w1, w2, w3, w4, rfl⟩
  have hw := fun d (hd : d ∈ tables_1) => atoms_spec (ws := Jvm.Cond.code x code maxLocals ret :: tables_1) hat d (List.mem_cons_of_mem _ hd)
  have hfit : Fit s := fun {y c} hc i hi => by
    obtain ⟨ha, rfl⟩ := Array.getElem?_eq_some_iff.mp hc
    have q := List.all_eq_true.mp ((Array.all_eq_true_iff_forall_mem.mp hF) _ (Array.getElem_mem ha)) i (List.mem_range.mpr hi)
    simpa [Array.getElem?_eq_getElem hi] using q
  obtain ⟨hsets, hown0⟩ := atoms_of _ (rest_1_c_eq ▸ (show rest_1_c.before _ s = true from hrest))
  have hr0 := Cond.before_iff.mp hown0
  have own_cs : CompactOn s := by
    have n3 := not_v (Cond.before_iff.mp (hsets _ (List.mem_of_getElem? (i := 2) rfl)))
    obtain ⟨i7, e6⟩ := is_v (Cond.before_iff.mp (hsets _ (List.mem_of_getElem? (i := 1) rfl)))
    refine ⟨i7, Sta.start e6 (Or.inl (hsets _ (List.mem_of_getElem? (i := 0) rfl))), fun e0 => ?_⟩
    subst e0
    have q := eq_i e6 (Term.int_eval (0 : Int32)) rfl
    rw [q] at n3; cases n3
  have own_si : SiooOk s := by
    obtain ⟨v9, e10, r11⟩ := isR_v (Cond.before_iff.mp (hsets _ (List.mem_of_getElem? (i := 8) rfl)))
    exact ⟨v9, Sta.start e10 (Or.inl (hsets _ (List.mem_of_getElem? (i := 7) rfl))), r11⟩
  obtain ⟨i0, ei0⟩ := is_v g3
  obtain rfl : w0 = (.int i0) := Option.some.inj ei0
  obtain ⟨i1, ei1⟩ := is_v g5
  obtain rfl : w1 = (.int i1) := Option.some.inj ei1
  obtain ⟨i2, ei2⟩ := is_v g7
  obtain rfl : w2 = (.int i2) := Option.some.inj ei2
  obtain ⟨i3, ei3⟩ := is_v g9
  obtain rfl : w3 = (.int i3) := Option.some.inj ei3
  obtain ⟨i4, ei4⟩ := is_v g10
  obtain rfl : w4 = (.int i4) := Option.some.inj ei4
  obtain ⟨a_BLOCKS, e_BLOCKS⟩ := exa_v g11
  have S_BLOCKS : Sta s s.heap "com/example/slicewise/slicewise/plan/Method" "BLOCKS" "Lcom/example/slicewise/slicewise/plan/Method;" (.ref a_BLOCKS) := Sta.start e_BLOCKS (Or.inr ⟨(own_w65 hw), (own_w66 hw)⟩)
  have X_BLOCKS := Exa.start e_BLOCKS g11
  obtain ⟨a_PARTITIONS, e_PARTITIONS⟩ := exa_v g13
  have S_PARTITIONS : Sta s s.heap "com/example/slicewise/slicewise/plan/Method" "PARTITIONS" "Lcom/example/slicewise/slicewise/plan/Method;" (.ref a_PARTITIONS) := Sta.start e_PARTITIONS (Or.inr ⟨(own_w65 hw), (own_w159 hw)⟩)
  have X_PARTITIONS := Exa.start e_PARTITIONS g13
  obtain ⟨a_MOD, e_MOD⟩ := exa_v g14
  have S_MOD : Sta s s.heap "com/example/slicewise/slicewise/plan/Method" "MOD" "Lcom/example/slicewise/slicewise/plan/Method;" (.ref a_MOD) := Sta.start e_MOD (Or.inr ⟨(own_w65 hw), (own_w161 hw)⟩)
  have X_MOD := Exa.start e_MOD g14
  have j11 := Cond.before_iff.mp (hsets _ (List.mem_of_getElem? (i := 11) rfl))
  have j14 := Cond.before_iff.mp (hsets _ (List.mem_of_getElem? (i := 14) rfl))
  have j15 := Cond.before_iff.mp (hsets _ (List.mem_of_getElem? (i := 15) rfl))
  have j16 := Cond.before_iff.mp (hsets _ (List.mem_of_getElem? (i := 16) rfl))
  have j17 := Cond.before_iff.mp (hsets _ (List.mem_of_getElem? (i := 17) rfl))
  have j18 := Cond.before_iff.mp (hsets _ (List.mem_of_getElem? (i := 18) rfl))
  have j19 := Cond.before_iff.mp (hsets _ (List.mem_of_getElem? (i := 19) rfl))
  have j20 := Cond.before_iff.mp (hsets _ (List.mem_of_getElem? (i := 20) rfl))
  have j21 := Cond.before_iff.mp (hsets _ (List.mem_of_getElem? (i := 21) rfl))
  have j22 := Cond.before_iff.mp (hsets _ (List.mem_of_getElem? (i := 22) rfl))
  have j23 := Cond.before_iff.mp (hsets _ (List.mem_of_getElem? (i := 23) rfl))
  have j24 := Cond.before_iff.mp (hsets _ (List.mem_of_getElem? (i := 24) rfl))
  have j25 := Cond.before_iff.mp (hsets _ (List.mem_of_getElem? (i := 25) rfl))
  have j26 := Cond.before_iff.mp (hsets _ (List.mem_of_getElem? (i := 26) rfl))
  have j27 := Cond.before_iff.mp (hsets _ (List.mem_of_getElem? (i := 27) rfl))
  have j28 := Cond.before_iff.mp (hsets _ (List.mem_of_getElem? (i := 28) rfl))
  have j29 := Cond.before_iff.mp (hsets _ (List.mem_of_getElem? (i := 29) rfl))
  have j30 := Cond.before_iff.mp (hsets _ (List.mem_of_getElem? (i := 30) rfl))
  have j31 := Cond.before_iff.mp (hsets _ (List.mem_of_getElem? (i := 31) rfl))
  have j32 := Cond.before_iff.mp (hsets _ (List.mem_of_getElem? (i := 32) rfl))
  have j33 := Cond.before_iff.mp (hsets _ (List.mem_of_getElem? (i := 33) rfl))
  have j34 := Cond.before_iff.mp (hsets _ (List.mem_of_getElem? (i := 34) rfl))
  have j35 := Cond.before_iff.mp (hsets _ (List.mem_of_getElem? (i := 35) rfl))
  have j36 := Cond.before_iff.mp (hsets _ (List.mem_of_getElem? (i := 36) rfl))
  have j37 := Cond.before_iff.mp (hsets _ (List.mem_of_getElem? (i := 37) rfl))
  have j38 := Cond.before_iff.mp (hsets _ (List.mem_of_getElem? (i := 38) rfl))
  have j39 := Cond.before_iff.mp (hsets _ (List.mem_of_getElem? (i := 39) rfl))
  have j40 := Cond.before_iff.mp (hsets _ (List.mem_of_getElem? (i := 40) rfl))
  have j41 := Cond.before_iff.mp (hsets _ (List.mem_of_getElem? (i := 41) rfl))
  have j42 := Cond.before_iff.mp (hsets _ (List.mem_of_getElem? (i := 42) rfl))
  have j43 := Cond.before_iff.mp (hsets _ (List.mem_of_getElem? (i := 43) rfl))
  have j44 := Cond.before_iff.mp (hsets _ (List.mem_of_getElem? (i := 44) rfl))
  have j45 := Cond.before_iff.mp (hsets _ (List.mem_of_getElem? (i := 45) rfl))
  have j46 := Cond.before_iff.mp (hsets _ (List.mem_of_getElem? (i := 46) rfl))
  have j47 := Cond.before_iff.mp (hsets _ (List.mem_of_getElem? (i := 47) rfl))
  have j48 := Cond.before_iff.mp (hsets _ (List.mem_of_getElem? (i := 48) rfl))
  have j49 := Cond.before_iff.mp (hsets _ (List.mem_of_getElem? (i := 49) rfl))
  have j50 := Cond.before_iff.mp (hsets _ (List.mem_of_getElem? (i := 50) rfl))
  have j51 := Cond.before_iff.mp (hsets _ (List.mem_of_getElem? (i := 51) rfl))
  have j52 := Cond.before_iff.mp (hsets _ (List.mem_of_getElem? (i := 52) rfl))
  have j53 := Cond.before_iff.mp (hsets _ (List.mem_of_getElem? (i := 53) rfl))
  have j54 := Cond.before_iff.mp (hsets _ (List.mem_of_getElem? (i := 54) rfl))
  have j55 := Cond.before_iff.mp (hsets _ (List.mem_of_getElem? (i := 55) rfl))
  have j56 := Cond.before_iff.mp (hsets _ (List.mem_of_getElem? (i := 56) rfl))
  have j57 := Cond.before_iff.mp (hsets _ (List.mem_of_getElem? (i := 57) rfl))
  have j58 := Cond.before_iff.mp (hsets _ (List.mem_of_getElem? (i := 58) rfl))
  have j59 := Cond.before_iff.mp (hsets _ (List.mem_of_getElem? (i := 59) rfl))
  have j60 := Cond.before_iff.mp (hsets _ (List.mem_of_getElem? (i := 60) rfl))
  have j61 := Cond.before_iff.mp (hsets _ (List.mem_of_getElem? (i := 61) rfl))
  have j62 := Cond.before_iff.mp (hsets _ (List.mem_of_getElem? (i := 62) rfl))
  have j63 := Cond.before_iff.mp (hsets _ (List.mem_of_getElem? (i := 63) rfl))
  have j64 := Cond.before_iff.mp (hsets _ (List.mem_of_getElem? (i := 64) rfl))
  have j65 := Cond.before_iff.mp (hsets _ (List.mem_of_getElem? (i := 65) rfl))
  have j66 := Cond.before_iff.mp (hsets _ (List.mem_of_getElem? (i := 66) rfl))
  have j67 := Cond.before_iff.mp (hsets _ (List.mem_of_getElem? (i := 67) rfl))
  have j68 := Cond.before_iff.mp (hsets _ (List.mem_of_getElem? (i := 68) rfl))
  have j69 := Cond.before_iff.mp (hsets _ (List.mem_of_getElem? (i := 69) rfl))
  have j70 := Cond.before_iff.mp (hsets _ (List.mem_of_getElem? (i := 70) rfl))
  have j71 := Cond.before_iff.mp (hsets _ (List.mem_of_getElem? (i := 71) rfl))
  have j72 := Cond.before_iff.mp (hsets _ (List.mem_of_getElem? (i := 72) rfl))
  have j73 := Cond.before_iff.mp (hsets _ (List.mem_of_getElem? (i := 73) rfl))
  have j74 := Cond.before_iff.mp (hsets _ (List.mem_of_getElem? (i := 74) rfl))
  have j75 := Cond.before_iff.mp (hsets _ (List.mem_of_getElem? (i := 75) rfl))
  have j76 := Cond.before_iff.mp (hsets _ (List.mem_of_getElem? (i := 76) rfl))
  have j77 := Cond.before_iff.mp (hsets _ (List.mem_of_getElem? (i := 77) rfl))
  have j78 := Cond.before_iff.mp (hsets _ (List.mem_of_getElem? (i := 78) rfl))
  have j79 := Cond.before_iff.mp (hsets _ (List.mem_of_getElem? (i := 79) rfl))
  have j80 := Cond.before_iff.mp (hsets _ (List.mem_of_getElem? (i := 80) rfl))
  have j81 := Cond.before_iff.mp (hsets _ (List.mem_of_getElem? (i := 81) rfl))
  have j82 := Cond.before_iff.mp (hsets _ (List.mem_of_getElem? (i := 82) rfl))
  have j83 := Cond.before_iff.mp (hsets _ (List.mem_of_getElem? (i := 83) rfl))
  have j84 := Cond.before_iff.mp (hsets _ (List.mem_of_getElem? (i := 84) rfl))
  have j85 := Cond.before_iff.mp (hsets _ (List.mem_of_getElem? (i := 85) rfl))
  have j86 := Cond.before_iff.mp (hsets _ (List.mem_of_getElem? (i := 86) rfl))
  have j87 := Cond.before_iff.mp (hsets _ (List.mem_of_getElem? (i := 87) rfl))
  have j88 := Cond.before_iff.mp (hsets _ (List.mem_of_getElem? (i := 88) rfl))
  have j89 := Cond.before_iff.mp (hsets _ (List.mem_of_getElem? (i := 89) rfl))
  have j90 := Cond.before_iff.mp (hsets _ (List.mem_of_getElem? (i := 90) rfl))
  have j91 := Cond.before_iff.mp (hsets _ (List.mem_of_getElem? (i := 91) rfl))
  have j92 := Cond.before_iff.mp (hsets _ (List.mem_of_getElem? (i := 92) rfl))
  have j93 := Cond.before_iff.mp (hsets _ (List.mem_of_getElem? (i := 93) rfl))
  have j94 := Cond.before_iff.mp (hsets _ (List.mem_of_getElem? (i := 94) rfl))
  have j95 := Cond.before_iff.mp (hsets _ (List.mem_of_getElem? (i := 95) rfl))
  have j96 := Cond.before_iff.mp (hsets _ (List.mem_of_getElem? (i := 96) rfl))
  have j97 := Cond.before_iff.mp (hsets _ (List.mem_of_getElem? (i := 97) rfl))
  have j98 := Cond.before_iff.mp (hsets _ (List.mem_of_getElem? (i := 98) rfl))
  have j99 := Cond.before_iff.mp (hsets _ (List.mem_of_getElem? (i := 99) rfl))
  have j100 := Cond.before_iff.mp (hsets _ (List.mem_of_getElem? (i := 100) rfl))
  have j101 := Cond.before_iff.mp (hsets _ (List.mem_of_getElem? (i := 101) rfl))
  have j102 := Cond.before_iff.mp (hsets _ (List.mem_of_getElem? (i := 102) rfl))
  have j103 := Cond.before_iff.mp (hsets _ (List.mem_of_getElem? (i := 103) rfl))
  have j104 := Cond.before_iff.mp (hsets _ (List.mem_of_getElem? (i := 104) rfl))
  have j105 := Cond.before_iff.mp (hsets _ (List.mem_of_getElem? (i := 105) rfl))
  have j106 := Cond.before_iff.mp (hsets _ (List.mem_of_getElem? (i := 106) rfl))
  have j107 := Cond.before_iff.mp (hsets _ (List.mem_of_getElem? (i := 107) rfl))
  have j108 := Cond.before_iff.mp (hsets _ (List.mem_of_getElem? (i := 108) rfl))
  have j109 := Cond.before_iff.mp (hsets _ (List.mem_of_getElem? (i := 109) rfl))
  have j110 := Cond.before_iff.mp (hsets _ (List.mem_of_getElem? (i := 110) rfl))
  have j111 := Cond.before_iff.mp (hsets _ (List.mem_of_getElem? (i := 111) rfl))
  have j112 := Cond.before_iff.mp (hsets _ (List.mem_of_getElem? (i := 112) rfl))
  have j113 := Cond.before_iff.mp (hsets _ (List.mem_of_getElem? (i := 113) rfl))
  have j114 := Cond.before_iff.mp (hsets _ (List.mem_of_getElem? (i := 114) rfl))
  have j115 := Cond.before_iff.mp (hsets _ (List.mem_of_getElem? (i := 115) rfl))
  have j116 := Cond.before_iff.mp (hsets _ (List.mem_of_getElem? (i := 116) rfl))
  have j117 := Cond.before_iff.mp (hsets _ (List.mem_of_getElem? (i := 117) rfl))
  have j118 := Cond.before_iff.mp (hsets _ (List.mem_of_getElem? (i := 118) rfl))
  have j119 := Cond.before_iff.mp (hsets _ (List.mem_of_getElem? (i := 119) rfl))
  have j120 := Cond.before_iff.mp (hsets _ (List.mem_of_getElem? (i := 120) rfl))
  have j121 := Cond.before_iff.mp (hsets _ (List.mem_of_getElem? (i := 121) rfl))
  have j122 := Cond.before_iff.mp (hsets _ (List.mem_of_getElem? (i := 122) rfl))
  have j123 := Cond.before_iff.mp (hsets _ (List.mem_of_getElem? (i := 123) rfl))
  have j124 := Cond.before_iff.mp (hsets _ (List.mem_of_getElem? (i := 124) rfl))
  have j125 := Cond.before_iff.mp (hsets _ (List.mem_of_getElem? (i := 125) rfl))
  have j126 := Cond.before_iff.mp (hsets _ (List.mem_of_getElem? (i := 126) rfl))
  have j127 := Cond.before_iff.mp (hsets _ (List.mem_of_getElem? (i := 127) rfl))
  have j128 := Cond.before_iff.mp (hsets _ (List.mem_of_getElem? (i := 128) rfl))
  have j129 := Cond.before_iff.mp (hsets _ (List.mem_of_getElem? (i := 129) rfl))
  have j130 := Cond.before_iff.mp (hsets _ (List.mem_of_getElem? (i := 130) rfl))
  have j131 := Cond.before_iff.mp (hsets _ (List.mem_of_getElem? (i := 131) rfl))
  have j132 := Cond.before_iff.mp (hsets _ (List.mem_of_getElem? (i := 132) rfl))
  have j133 := Cond.before_iff.mp (hsets _ (List.mem_of_getElem? (i := 133) rfl))
  have j134 := Cond.before_iff.mp (hsets _ (List.mem_of_getElem? (i := 134) rfl))
  have j135 := Cond.before_iff.mp (hsets _ (List.mem_of_getElem? (i := 135) rfl))
  have j136 := Cond.before_iff.mp (hsets _ (List.mem_of_getElem? (i := 136) rfl))
  have j137 := Cond.before_iff.mp (hsets _ (List.mem_of_getElem? (i := 137) rfl))
  have j138 := Cond.before_iff.mp (hsets _ (List.mem_of_getElem? (i := 138) rfl))
  have j139 := Cond.before_iff.mp (hsets _ (List.mem_of_getElem? (i := 139) rfl))
  have j140 := Cond.before_iff.mp (hsets _ (List.mem_of_getElem? (i := 140) rfl))
  have j141 := Cond.before_iff.mp (hsets _ (List.mem_of_getElem? (i := 141) rfl))
  have j142 := Cond.before_iff.mp (hsets _ (List.mem_of_getElem? (i := 142) rfl))
  have j143 := Cond.before_iff.mp (hsets _ (List.mem_of_getElem? (i := 143) rfl))
  have j144 := Cond.before_iff.mp (hsets _ (List.mem_of_getElem? (i := 144) rfl))
  have j145 := Cond.before_iff.mp (hsets _ (List.mem_of_getElem? (i := 145) rfl))
  have j146 := Cond.before_iff.mp (hsets _ (List.mem_of_getElem? (i := 146) rfl))
  have j147 := Cond.before_iff.mp (hsets _ (List.mem_of_getElem? (i := 147) rfl))
  have j148 := Cond.before_iff.mp (hsets _ (List.mem_of_getElem? (i := 148) rfl))
  have j149 := Cond.before_iff.mp (hsets _ (List.mem_of_getElem? (i := 149) rfl))
  have j150 := Cond.before_iff.mp (hsets _ (List.mem_of_getElem? (i := 150) rfl))
  have j151 := Cond.before_iff.mp (hsets _ (List.mem_of_getElem? (i := 151) rfl))
  have j152 := Cond.before_iff.mp (hsets _ (List.mem_of_getElem? (i := 152) rfl))
  have j153 := Cond.before_iff.mp (hsets _ (List.mem_of_getElem? (i := 153) rfl))
  have j154 := Cond.before_iff.mp (hsets _ (List.mem_of_getElem? (i := 154) rfl))
  have j155 := Cond.before_iff.mp (hsets _ (List.mem_of_getElem? (i := 155) rfl))
  have j156 := Cond.before_iff.mp (hsets _ (List.mem_of_getElem? (i := 156) rfl))
  have j157 := Cond.before_iff.mp (hsets _ (List.mem_of_getElem? (i := 157) rfl))
  have j158 := Cond.before_iff.mp (hsets _ (List.mem_of_getElem? (i := 158) rfl))
  have j159 := Cond.before_iff.mp (hsets _ (List.mem_of_getElem? (i := 159) rfl))
  have j160 := Cond.before_iff.mp (hsets _ (List.mem_of_getElem? (i := 160) rfl))
  have j161 := Cond.before_iff.mp (hsets _ (List.mem_of_getElem? (i := 161) rfl))
  have j162 := Cond.before_iff.mp (hsets _ (List.mem_of_getElem? (i := 162) rfl))
  have j163 := Cond.before_iff.mp (hsets _ (List.mem_of_getElem? (i := 163) rfl))
  have j164 := Cond.before_iff.mp (hsets _ (List.mem_of_getElem? (i := 164) rfl))
  have j165 := Cond.before_iff.mp (hsets _ (List.mem_of_getElem? (i := 165) rfl))
  have j166 := Cond.before_iff.mp (hsets _ (List.mem_of_getElem? (i := 166) rfl))
  have j167 := Cond.before_iff.mp (hsets _ (List.mem_of_getElem? (i := 167) rfl))
  have j168 := Cond.before_iff.mp (hsets _ (List.mem_of_getElem? (i := 168) rfl))
  have j169 := Cond.before_iff.mp (hsets _ (List.mem_of_getElem? (i := 169) rfl))
  have j170 := Cond.before_iff.mp (hsets _ (List.mem_of_getElem? (i := 170) rfl))
  have j171 := Cond.before_iff.mp (hsets _ (List.mem_of_getElem? (i := 171) rfl))
  have j172 := Cond.before_iff.mp (hsets _ (List.mem_of_getElem? (i := 172) rfl))
  have j173 := Cond.before_iff.mp (hsets _ (List.mem_of_getElem? (i := 173) rfl))
  have j174 := Cond.before_iff.mp (hsets _ (List.mem_of_getElem? (i := 174) rfl))
  have j175 := Cond.before_iff.mp (hsets _ (List.mem_of_getElem? (i := 175) rfl))
  have j176 := Cond.before_iff.mp (hsets _ (List.mem_of_getElem? (i := 176) rfl))
  have j177 := Cond.before_iff.mp (hsets _ (List.mem_of_getElem? (i := 177) rfl))
  have j178 := Cond.before_iff.mp (hsets _ (List.mem_of_getElem? (i := 178) rfl))
  have j179 := Cond.before_iff.mp (hsets _ (List.mem_of_getElem? (i := 179) rfl))
  have j180 := Cond.before_iff.mp (hsets _ (List.mem_of_getElem? (i := 180) rfl))
  have j181 := Cond.before_iff.mp (hsets _ (List.mem_of_getElem? (i := 181) rfl))
  have j182 := Cond.before_iff.mp (hsets _ (List.mem_of_getElem? (i := 182) rfl))
  have j183 := Cond.before_iff.mp (hsets _ (List.mem_of_getElem? (i := 183) rfl))
  have j184 := Cond.before_iff.mp (hsets _ (List.mem_of_getElem? (i := 184) rfl))
  have j185 := Cond.before_iff.mp (hsets _ (List.mem_of_getElem? (i := 185) rfl))
  have j186 := Cond.before_iff.mp (hsets _ (List.mem_of_getElem? (i := 186) rfl))
  have j187 := Cond.before_iff.mp (hsets _ (List.mem_of_getElem? (i := 187) rfl))
  have j188 := Cond.before_iff.mp (hsets _ (List.mem_of_getElem? (i := 188) rfl))
  have j189 := Cond.before_iff.mp (hsets _ (List.mem_of_getElem? (i := 189) rfl))
  have j190 := Cond.before_iff.mp (hsets _ (List.mem_of_getElem? (i := 190) rfl))
  have j191 := Cond.before_iff.mp (hsets _ (List.mem_of_getElem? (i := 191) rfl))
  have j192 := Cond.before_iff.mp (hsets _ (List.mem_of_getElem? (i := 192) rfl))
  have j193 := Cond.before_iff.mp (hsets _ (List.mem_of_getElem? (i := 193) rfl))
  have j194 := Cond.before_iff.mp (hsets _ (List.mem_of_getElem? (i := 194) rfl))
  have j195 := Cond.before_iff.mp (hsets _ (List.mem_of_getElem? (i := 195) rfl))
  have j196 := Cond.before_iff.mp (hsets _ (List.mem_of_getElem? (i := 196) rfl))
  have j197 := Cond.before_iff.mp (hsets _ (List.mem_of_getElem? (i := 197) rfl))
  have j198 := Cond.before_iff.mp (hsets _ (List.mem_of_getElem? (i := 198) rfl))
  have j199 := Cond.before_iff.mp (hsets _ (List.mem_of_getElem? (i := 199) rfl))
  have j200 := Cond.before_iff.mp (hsets _ (List.mem_of_getElem? (i := 200) rfl))
  have j201 := Cond.before_iff.mp (hsets _ (List.mem_of_getElem? (i := 201) rfl))
  have j202 := Cond.before_iff.mp (hsets _ (List.mem_of_getElem? (i := 202) rfl))
  have j203 := Cond.before_iff.mp (hsets _ (List.mem_of_getElem? (i := 203) rfl))
  have j204 := Cond.before_iff.mp (hsets _ (List.mem_of_getElem? (i := 204) rfl))
  have j205 := Cond.before_iff.mp (hsets _ (List.mem_of_getElem? (i := 205) rfl))
  have j206 := Cond.before_iff.mp (hsets _ (List.mem_of_getElem? (i := 206) rfl))
  have j207 := Cond.before_iff.mp (hsets _ (List.mem_of_getElem? (i := 207) rfl))
  have j208 := Cond.before_iff.mp (hsets _ (List.mem_of_getElem? (i := 208) rfl))
  have j209 := Cond.before_iff.mp (hsets _ (List.mem_of_getElem? (i := 209) rfl))
  have j210 := Cond.before_iff.mp (hsets _ (List.mem_of_getElem? (i := 210) rfl))
  have j211 := Cond.before_iff.mp (hsets _ (List.mem_of_getElem? (i := 211) rfl))
  have j212 := Cond.before_iff.mp (hsets _ (List.mem_of_getElem? (i := 212) rfl))
  have j213 := Cond.before_iff.mp (hsets _ (List.mem_of_getElem? (i := 213) rfl))
  have j214 := Cond.before_iff.mp (hsets _ (List.mem_of_getElem? (i := 214) rfl))
  have j215 := Cond.before_iff.mp (hsets _ (List.mem_of_getElem? (i := 215) rfl))
  have j216 := Cond.before_iff.mp (hsets _ (List.mem_of_getElem? (i := 216) rfl))
  have j217 := Cond.before_iff.mp (hsets _ (List.mem_of_getElem? (i := 217) rfl))
  have j218 := Cond.before_iff.mp (hsets _ (List.mem_of_getElem? (i := 218) rfl))
  have j219 := Cond.before_iff.mp (hsets _ (List.mem_of_getElem? (i := 219) rfl))
  have j220 := Cond.before_iff.mp (hsets _ (List.mem_of_getElem? (i := 220) rfl))
  have j221 := Cond.before_iff.mp (hsets _ (List.mem_of_getElem? (i := 221) rfl))
  have j222 := Cond.before_iff.mp (hsets _ (List.mem_of_getElem? (i := 222) rfl))
  have j223 := Cond.before_iff.mp (hsets _ (List.mem_of_getElem? (i := 223) rfl))
  have j224 := Cond.before_iff.mp (hsets _ (List.mem_of_getElem? (i := 224) rfl))
  have j225 := Cond.before_iff.mp (hsets _ (List.mem_of_getElem? (i := 225) rfl))
  have j226 := Cond.before_iff.mp (hsets _ (List.mem_of_getElem? (i := 226) rfl))
  have j227 := Cond.before_iff.mp (hsets _ (List.mem_of_getElem? (i := 227) rfl))
  have j228 := Cond.before_iff.mp (hsets _ (List.mem_of_getElem? (i := 228) rfl))
  have j229 := Cond.before_iff.mp (hsets _ (List.mem_of_getElem? (i := 229) rfl))
  have j230 := Cond.before_iff.mp (hsets _ (List.mem_of_getElem? (i := 230) rfl))
  have j231 := Cond.before_iff.mp (hsets _ (List.mem_of_getElem? (i := 231) rfl))
  have j232 := Cond.before_iff.mp (hsets _ (List.mem_of_getElem? (i := 232) rfl))
  have j233 := Cond.before_iff.mp (hsets _ (List.mem_of_getElem? (i := 233) rfl))
  have j234 := Cond.before_iff.mp (hsets _ (List.mem_of_getElem? (i := 234) rfl))
  have j235 := Cond.before_iff.mp (hsets _ (List.mem_of_getElem? (i := 235) rfl))
  have j236 := Cond.before_iff.mp (hsets _ (List.mem_of_getElem? (i := 236) rfl))
  have j237 := Cond.before_iff.mp (hsets _ (List.mem_of_getElem? (i := 237) rfl))
  have j238 := Cond.before_iff.mp (hsets _ (List.mem_of_getElem? (i := 238) rfl))
  have j239 := Cond.before_iff.mp (hsets _ (List.mem_of_getElem? (i := 239) rfl))
  have j240 := Cond.before_iff.mp (hsets _ (List.mem_of_getElem? (i := 240) rfl))
  have j241 := Cond.before_iff.mp (hsets _ (List.mem_of_getElem? (i := 241) rfl))
  have j242 := Cond.before_iff.mp (hsets _ (List.mem_of_getElem? (i := 242) rfl))
  have j243 := Cond.before_iff.mp (hsets _ (List.mem_of_getElem? (i := 243) rfl))
  have j244 := Cond.before_iff.mp (hsets _ (List.mem_of_getElem? (i := 244) rfl))
  have j245 := Cond.before_iff.mp (hsets _ (List.mem_of_getElem? (i := 245) rfl))
  have j246 := Cond.before_iff.mp (hsets _ (List.mem_of_getElem? (i := 246) rfl))
  have j247 := Cond.before_iff.mp (hsets _ (List.mem_of_getElem? (i := 247) rfl))
  have j248 := Cond.before_iff.mp (hsets _ (List.mem_of_getElem? (i := 248) rfl))
  have j249 := Cond.before_iff.mp (hsets _ (List.mem_of_getElem? (i := 249) rfl))
  have j250 := Cond.before_iff.mp (hsets _ (List.mem_of_getElem? (i := 250) rfl))
  have j251 := Cond.before_iff.mp (hsets _ (List.mem_of_getElem? (i := 251) rfl))
  have j252 := Cond.before_iff.mp (hsets _ (List.mem_of_getElem? (i := 252) rfl))
  have j253 := Cond.before_iff.mp (hsets _ (List.mem_of_getElem? (i := 253) rfl))
  have j254 := Cond.before_iff.mp (hsets _ (List.mem_of_getElem? (i := 254) rfl))
  have j255 := Cond.before_iff.mp (hsets _ (List.mem_of_getElem? (i := 255) rfl))
  have j256 := Cond.before_iff.mp (hsets _ (List.mem_of_getElem? (i := 256) rfl))
  have j257 := Cond.before_iff.mp (hsets _ (List.mem_of_getElem? (i := 257) rfl))
  have j258 := Cond.before_iff.mp (hsets _ (List.mem_of_getElem? (i := 258) rfl))
  have j259 := Cond.before_iff.mp (hsets _ (List.mem_of_getElem? (i := 259) rfl))
  have j260 := Cond.before_iff.mp (hsets _ (List.mem_of_getElem? (i := 260) rfl))
  have j261 := Cond.before_iff.mp (hsets _ (List.mem_of_getElem? (i := 261) rfl))
  have j262 := Cond.before_iff.mp (hsets _ (List.mem_of_getElem? (i := 262) rfl))
  have j263 := Cond.before_iff.mp (hsets _ (List.mem_of_getElem? (i := 263) rfl))
  have j264 := Cond.before_iff.mp (hsets _ (List.mem_of_getElem? (i := 264) rfl))
  have j265 := Cond.before_iff.mp (hsets _ (List.mem_of_getElem? (i := 265) rfl))
  have j266 := Cond.before_iff.mp (hsets _ (List.mem_of_getElem? (i := 266) rfl))
  have j267 := Cond.before_iff.mp (hsets _ (List.mem_of_getElem? (i := 267) rfl))
  have j268 := Cond.before_iff.mp (hsets _ (List.mem_of_getElem? (i := 268) rfl))
  have j269 := Cond.before_iff.mp (hsets _ (List.mem_of_getElem? (i := 269) rfl))
  have j270 := Cond.before_iff.mp (hsets _ (List.mem_of_getElem? (i := 270) rfl))
  have j271 := Cond.before_iff.mp (hsets _ (List.mem_of_getElem? (i := 271) rfl))
  have j272 := Cond.before_iff.mp (hsets _ (List.mem_of_getElem? (i := 272) rfl))
  obtain ⟨a_instance, e_instance⟩ := exa_v j11
  have S_instance : Sta s s.heap "java/lang/CharacterDataLatin1" "instance" "Ljava/lang/CharacterDataLatin1;" (.ref a_instance) := Sta.start e_instance (Or.inl (hsets _ (List.mem_of_getElem? (i := 10) rfl)))
  have X_instance := Exa.start e_instance j11
  obtain ⟨a_A, e_A⟩ := arr_v j14
  have S_A : Sta s s.heap "java/lang/CharacterDataLatin1" "A" "[I" (.ref a_A) := Sta.start e_A (Or.inl (hsets _ (List.mem_of_getElem? (i := 13) rfl)))
  obtain ⟨c_A, A_A⟩ := Arr.start e_A j14
  have X_A := Exa.start e_A j15
  obtain ⟨l1_A, l2_A⟩ := g_len (g_int j16) e_A A_A
  have x_A_0 := g_elem (g_int j17) e_A A_A
  have x_A_1 := g_elem (g_int j18) e_A A_A
  have x_A_2 := g_elem (g_int j19) e_A A_A
  have x_A_3 := g_elem (g_int j20) e_A A_A
  have x_A_4 := g_elem (g_int j21) e_A A_A
  have x_A_5 := g_elem (g_int j22) e_A A_A
  have x_A_6 := g_elem (g_int j23) e_A A_A
  have x_A_7 := g_elem (g_int j24) e_A A_A
  have x_A_8 := g_elem (g_int j25) e_A A_A
  have x_A_9 := g_elem (g_int j26) e_A A_A
  have x_A_10 := g_elem (g_int j27) e_A A_A
  have x_A_11 := g_elem (g_int j28) e_A A_A
  have x_A_12 := g_elem (g_int j29) e_A A_A
  have x_A_13 := g_elem (g_int j30) e_A A_A
  have x_A_14 := g_elem (g_int j31) e_A A_A
  have x_A_15 := g_elem (g_int j32) e_A A_A
  have x_A_16 := g_elem (g_int j33) e_A A_A
  have x_A_17 := g_elem (g_int j34) e_A A_A
  have x_A_18 := g_elem (g_int j35) e_A A_A
  have x_A_19 := g_elem (g_int j36) e_A A_A
  have x_A_20 := g_elem (g_int j37) e_A A_A
  have x_A_21 := g_elem (g_int j38) e_A A_A
  have x_A_22 := g_elem (g_int j39) e_A A_A
  have x_A_23 := g_elem (g_int j40) e_A A_A
  have x_A_24 := g_elem (g_int j41) e_A A_A
  have x_A_25 := g_elem (g_int j42) e_A A_A
  have x_A_26 := g_elem (g_int j43) e_A A_A
  have x_A_27 := g_elem (g_int j44) e_A A_A
  have x_A_28 := g_elem (g_int j45) e_A A_A
  have x_A_29 := g_elem (g_int j46) e_A A_A
  have x_A_30 := g_elem (g_int j47) e_A A_A
  have x_A_31 := g_elem (g_int j48) e_A A_A
  have x_A_32 := g_elem (g_int j49) e_A A_A
  have x_A_33 := g_elem (g_int j50) e_A A_A
  have x_A_34 := g_elem (g_int j51) e_A A_A
  have x_A_35 := g_elem (g_int j52) e_A A_A
  have x_A_36 := g_elem (g_int j53) e_A A_A
  have x_A_37 := g_elem (g_int j54) e_A A_A
  have x_A_38 := g_elem (g_int j55) e_A A_A
  have x_A_39 := g_elem (g_int j56) e_A A_A
  have x_A_40 := g_elem (g_int j57) e_A A_A
  have x_A_41 := g_elem (g_int j58) e_A A_A
  have x_A_42 := g_elem (g_int j59) e_A A_A
  have x_A_43 := g_elem (g_int j60) e_A A_A
  have x_A_44 := g_elem (g_int j61) e_A A_A
  have x_A_45 := g_elem (g_int j62) e_A A_A
  have x_A_46 := g_elem (g_int j63) e_A A_A
  have x_A_47 := g_elem (g_int j64) e_A A_A
  have x_A_48 := g_elem (g_int j65) e_A A_A
  have x_A_49 := g_elem (g_int j66) e_A A_A
  have x_A_50 := g_elem (g_int j67) e_A A_A
  have x_A_51 := g_elem (g_int j68) e_A A_A
  have x_A_52 := g_elem (g_int j69) e_A A_A
  have x_A_53 := g_elem (g_int j70) e_A A_A
  have x_A_54 := g_elem (g_int j71) e_A A_A
  have x_A_55 := g_elem (g_int j72) e_A A_A
  have x_A_56 := g_elem (g_int j73) e_A A_A
  have x_A_57 := g_elem (g_int j74) e_A A_A
  have x_A_58 := g_elem (g_int j75) e_A A_A
  have x_A_59 := g_elem (g_int j76) e_A A_A
  have x_A_60 := g_elem (g_int j77) e_A A_A
  have x_A_61 := g_elem (g_int j78) e_A A_A
  have x_A_62 := g_elem (g_int j79) e_A A_A
  have x_A_63 := g_elem (g_int j80) e_A A_A
  have x_A_64 := g_elem (g_int j81) e_A A_A
  have x_A_65 := g_elem (g_int j82) e_A A_A
  have x_A_66 := g_elem (g_int j83) e_A A_A
  have x_A_67 := g_elem (g_int j84) e_A A_A
  have x_A_68 := g_elem (g_int j85) e_A A_A
  have x_A_69 := g_elem (g_int j86) e_A A_A
  have x_A_70 := g_elem (g_int j87) e_A A_A
  have x_A_71 := g_elem (g_int j88) e_A A_A
  have x_A_72 := g_elem (g_int j89) e_A A_A
  have x_A_73 := g_elem (g_int j90) e_A A_A
  have x_A_74 := g_elem (g_int j91) e_A A_A
  have x_A_75 := g_elem (g_int j92) e_A A_A
  have x_A_76 := g_elem (g_int j93) e_A A_A
  have x_A_77 := g_elem (g_int j94) e_A A_A
  have x_A_78 := g_elem (g_int j95) e_A A_A
  have x_A_79 := g_elem (g_int j96) e_A A_A
  have x_A_80 := g_elem (g_int j97) e_A A_A
  have x_A_81 := g_elem (g_int j98) e_A A_A
  have x_A_82 := g_elem (g_int j99) e_A A_A
  have x_A_83 := g_elem (g_int j100) e_A A_A
  have x_A_84 := g_elem (g_int j101) e_A A_A
  have x_A_85 := g_elem (g_int j102) e_A A_A
  have x_A_86 := g_elem (g_int j103) e_A A_A
  have x_A_87 := g_elem (g_int j104) e_A A_A
  have x_A_88 := g_elem (g_int j105) e_A A_A
  have x_A_89 := g_elem (g_int j106) e_A A_A
  have x_A_90 := g_elem (g_int j107) e_A A_A
  have x_A_91 := g_elem (g_int j108) e_A A_A
  have x_A_92 := g_elem (g_int j109) e_A A_A
  have x_A_93 := g_elem (g_int j110) e_A A_A
  have x_A_94 := g_elem (g_int j111) e_A A_A
  have x_A_95 := g_elem (g_int j112) e_A A_A
  have x_A_96 := g_elem (g_int j113) e_A A_A
  have x_A_97 := g_elem (g_int j114) e_A A_A
  have x_A_98 := g_elem (g_int j115) e_A A_A
  have x_A_99 := g_elem (g_int j116) e_A A_A
  have x_A_100 := g_elem (g_int j117) e_A A_A
  have x_A_101 := g_elem (g_int j118) e_A A_A
  have x_A_102 := g_elem (g_int j119) e_A A_A
  have x_A_103 := g_elem (g_int j120) e_A A_A
  have x_A_104 := g_elem (g_int j121) e_A A_A
  have x_A_105 := g_elem (g_int j122) e_A A_A
  have x_A_106 := g_elem (g_int j123) e_A A_A
  have x_A_107 := g_elem (g_int j124) e_A A_A
  have x_A_108 := g_elem (g_int j125) e_A A_A
  have x_A_109 := g_elem (g_int j126) e_A A_A
  have x_A_110 := g_elem (g_int j127) e_A A_A
  have x_A_111 := g_elem (g_int j128) e_A A_A
  have x_A_112 := g_elem (g_int j129) e_A A_A
  have x_A_113 := g_elem (g_int j130) e_A A_A
  have x_A_114 := g_elem (g_int j131) e_A A_A
  have x_A_115 := g_elem (g_int j132) e_A A_A
  have x_A_116 := g_elem (g_int j133) e_A A_A
  have x_A_117 := g_elem (g_int j134) e_A A_A
  have x_A_118 := g_elem (g_int j135) e_A A_A
  have x_A_119 := g_elem (g_int j136) e_A A_A
  have x_A_120 := g_elem (g_int j137) e_A A_A
  have x_A_121 := g_elem (g_int j138) e_A A_A
  have x_A_122 := g_elem (g_int j139) e_A A_A
  have x_A_123 := g_elem (g_int j140) e_A A_A
  have x_A_124 := g_elem (g_int j141) e_A A_A
  have x_A_125 := g_elem (g_int j142) e_A A_A
  have x_A_126 := g_elem (g_int j143) e_A A_A
  have x_A_127 := g_elem (g_int j144) e_A A_A
  have x_A_128 := g_elem (g_int j145) e_A A_A
  have x_A_129 := g_elem (g_int j146) e_A A_A
  have x_A_130 := g_elem (g_int j147) e_A A_A
  have x_A_131 := g_elem (g_int j148) e_A A_A
  have x_A_132 := g_elem (g_int j149) e_A A_A
  have x_A_133 := g_elem (g_int j150) e_A A_A
  have x_A_134 := g_elem (g_int j151) e_A A_A
  have x_A_135 := g_elem (g_int j152) e_A A_A
  have x_A_136 := g_elem (g_int j153) e_A A_A
  have x_A_137 := g_elem (g_int j154) e_A A_A
  have x_A_138 := g_elem (g_int j155) e_A A_A
  have x_A_139 := g_elem (g_int j156) e_A A_A
  have x_A_140 := g_elem (g_int j157) e_A A_A
  have x_A_141 := g_elem (g_int j158) e_A A_A
  have x_A_142 := g_elem (g_int j159) e_A A_A
  have x_A_143 := g_elem (g_int j160) e_A A_A
  have x_A_144 := g_elem (g_int j161) e_A A_A
  have x_A_145 := g_elem (g_int j162) e_A A_A
  have x_A_146 := g_elem (g_int j163) e_A A_A
  have x_A_147 := g_elem (g_int j164) e_A A_A
  have x_A_148 := g_elem (g_int j165) e_A A_A
  have x_A_149 := g_elem (g_int j166) e_A A_A
  have x_A_150 := g_elem (g_int j167) e_A A_A
  have x_A_151 := g_elem (g_int j168) e_A A_A
  have x_A_152 := g_elem (g_int j169) e_A A_A
  have x_A_153 := g_elem (g_int j170) e_A A_A
  have x_A_154 := g_elem (g_int j171) e_A A_A
  have x_A_155 := g_elem (g_int j172) e_A A_A
  have x_A_156 := g_elem (g_int j173) e_A A_A
  have x_A_157 := g_elem (g_int j174) e_A A_A
  have x_A_158 := g_elem (g_int j175) e_A A_A
  have x_A_159 := g_elem (g_int j176) e_A A_A
  have x_A_160 := g_elem (g_int j177) e_A A_A
  have x_A_161 := g_elem (g_int j178) e_A A_A
  have x_A_162 := g_elem (g_int j179) e_A A_A
  have x_A_163 := g_elem (g_int j180) e_A A_A
  have x_A_164 := g_elem (g_int j181) e_A A_A
  have x_A_165 := g_elem (g_int j182) e_A A_A
  have x_A_166 := g_elem (g_int j183) e_A A_A
  have x_A_167 := g_elem (g_int j184) e_A A_A
  have x_A_168 := g_elem (g_int j185) e_A A_A
  have x_A_169 := g_elem (g_int j186) e_A A_A
  have x_A_170 := g_elem (g_int j187) e_A A_A
  have x_A_171 := g_elem (g_int j188) e_A A_A
  have x_A_172 := g_elem (g_int j189) e_A A_A
  have x_A_173 := g_elem (g_int j190) e_A A_A
  have x_A_174 := g_elem (g_int j191) e_A A_A
  have x_A_175 := g_elem (g_int j192) e_A A_A
  have x_A_176 := g_elem (g_int j193) e_A A_A
  have x_A_177 := g_elem (g_int j194) e_A A_A
  have x_A_178 := g_elem (g_int j195) e_A A_A
  have x_A_179 := g_elem (g_int j196) e_A A_A
  have x_A_180 := g_elem (g_int j197) e_A A_A
  have x_A_181 := g_elem (g_int j198) e_A A_A
  have x_A_182 := g_elem (g_int j199) e_A A_A
  have x_A_183 := g_elem (g_int j200) e_A A_A
  have x_A_184 := g_elem (g_int j201) e_A A_A
  have x_A_185 := g_elem (g_int j202) e_A A_A
  have x_A_186 := g_elem (g_int j203) e_A A_A
  have x_A_187 := g_elem (g_int j204) e_A A_A
  have x_A_188 := g_elem (g_int j205) e_A A_A
  have x_A_189 := g_elem (g_int j206) e_A A_A
  have x_A_190 := g_elem (g_int j207) e_A A_A
  have x_A_191 := g_elem (g_int j208) e_A A_A
  have x_A_192 := g_elem (g_int j209) e_A A_A
  have x_A_193 := g_elem (g_int j210) e_A A_A
  have x_A_194 := g_elem (g_int j211) e_A A_A
  have x_A_195 := g_elem (g_int j212) e_A A_A
  have x_A_196 := g_elem (g_int j213) e_A A_A
  have x_A_197 := g_elem (g_int j214) e_A A_A
  have x_A_198 := g_elem (g_int j215) e_A A_A
  have x_A_199 := g_elem (g_int j216) e_A A_A
  have x_A_200 := g_elem (g_int j217) e_A A_A
  have x_A_201 := g_elem (g_int j218) e_A A_A
  have x_A_202 := g_elem (g_int j219) e_A A_A
  have x_A_203 := g_elem (g_int j220) e_A A_A
  have x_A_204 := g_elem (g_int j221) e_A A_A
  have x_A_205 := g_elem (g_int j222) e_A A_A
  have x_A_206 := g_elem (g_int j223) e_A A_A
  have x_A_207 := g_elem (g_int j224) e_A A_A
  have x_A_208 := g_elem (g_int j225) e_A A_A
  have x_A_209 := g_elem (g_int j226) e_A A_A
  have x_A_210 := g_elem (g_int j227) e_A A_A
  have x_A_211 := g_elem (g_int j228) e_A A_A
  have x_A_212 := g_elem (g_int j229) e_A A_A
  have x_A_213 := g_elem (g_int j230) e_A A_A
  have x_A_214 := g_elem (g_int j231) e_A A_A
  have x_A_215 := g_elem (g_int j232) e_A A_A
  have x_A_216 := g_elem (g_int j233) e_A A_A
  have x_A_217 := g_elem (g_int j234) e_A A_A
  have x_A_218 := g_elem (g_int j235) e_A A_A
  have x_A_219 := g_elem (g_int j236) e_A A_A
  have x_A_220 := g_elem (g_int j237) e_A A_A
  have x_A_221 := g_elem (g_int j238) e_A A_A
  have x_A_222 := g_elem (g_int j239) e_A A_A
  have x_A_223 := g_elem (g_int j240) e_A A_A
  have x_A_224 := g_elem (g_int j241) e_A A_A
  have x_A_225 := g_elem (g_int j242) e_A A_A
  have x_A_226 := g_elem (g_int j243) e_A A_A
  have x_A_227 := g_elem (g_int j244) e_A A_A
  have x_A_228 := g_elem (g_int j245) e_A A_A
  have x_A_229 := g_elem (g_int j246) e_A A_A
  have x_A_230 := g_elem (g_int j247) e_A A_A
  have x_A_231 := g_elem (g_int j248) e_A A_A
  have x_A_232 := g_elem (g_int j249) e_A A_A
  have x_A_233 := g_elem (g_int j250) e_A A_A
  have x_A_234 := g_elem (g_int j251) e_A A_A
  have x_A_235 := g_elem (g_int j252) e_A A_A
  have x_A_236 := g_elem (g_int j253) e_A A_A
  have x_A_237 := g_elem (g_int j254) e_A A_A
  have x_A_238 := g_elem (g_int j255) e_A A_A
  have x_A_239 := g_elem (g_int j256) e_A A_A
  have x_A_240 := g_elem (g_int j257) e_A A_A
  have x_A_241 := g_elem (g_int j258) e_A A_A
  have x_A_242 := g_elem (g_int j259) e_A A_A
  have x_A_243 := g_elem (g_int j260) e_A A_A
  have x_A_244 := g_elem (g_int j261) e_A A_A
  have x_A_245 := g_elem (g_int j262) e_A A_A
  have x_A_246 := g_elem (g_int j263) e_A A_A
  have x_A_247 := g_elem (g_int j264) e_A A_A
  have x_A_248 := g_elem (g_int j265) e_A A_A
  have x_A_249 := g_elem (g_int j266) e_A A_A
  have x_A_250 := g_elem (g_int j267) e_A A_A
  have x_A_251 := g_elem (g_int j268) e_A A_A
  have x_A_252 := g_elem (g_int j269) e_A A_A
  have x_A_253 := g_elem (g_int j270) e_A A_A
  have x_A_254 := g_elem (g_int j271) e_A A_A
  have x_A_255 := g_elem (g_int j272) e_A A_A
  have V_A : Arv s s.heap a_A c_A.cls .int (256 : Int32) [(.int (1207963663 : Int32)), (.int (1207963663 : Int32)), (.int (1207963663 : Int32)), (.int (1207963663 : Int32)), (.int (1207963663 : Int32)), (.int (1207963663 : Int32)), (.int (1207963663 : Int32)), (.int (1207963663 : Int32)), (.int (1207963663 : Int32)), (.int (1476411407 : Int32)), (.int (1342193679 : Int32)), (.int (1476411407 : Int32)), (.int (1610629135 : Int32)), (.int (1342193679 : Int32)), (.int (1207963663 : Int32)), (.int (1207963663 : Int32)), (.int (1207963663 : Int32)), (.int (1207963663 : Int32)), (.int (1207963663 : Int32)), (.int (1207963663 : Int32)), (.int (1207963663 : Int32)), (.int (1207963663 : Int32)), (.int (1207963663 : Int32)), (.int (1207963663 : Int32)), (.int (1207963663 : Int32)), (.int (1207963663 : Int32)), (.int (1207963663 : Int32)), (.int (1207963663 : Int32)), (.int (1342193679 : Int32)), (.int (1342193679 : Int32)), (.int (1342193679 : Int32)), (.int (1476411407 : Int32)), (.int (1610629132 : Int32)), (.int (1744830488 : Int32)), (.int (1744830488 : Int32)), (.int (671088664 : Int32)), (.int (671113242 : Int32)), (.int (671088664 : Int32)), (.int (1744830488 : Int32)), (.int (1744830488 : Int32)), (.int (-402653163 : Int32)), (.int (-402653162 : Int32)), (.int (1744830488 : Int32)), (.int (536870937 : Int32)), (.int (939524120 : Int32)), (.int (536870932 : Int32)), (.int (939524120 : Int32)), (.int (939524120 : Int32)), (.int (402667017 : Int32)), (.int (402667017 : Int32)), (.int (402667017 : Int32)), (.int (402667017 : Int32)), (.int (402667017 : Int32)), (.int (402667017 : Int32)), (.int (402667017 : Int32)), (.int (402667017 : Int32)), (.int (402667017 : Int32)), (.int (402667017 : Int32)), (.int (939524120 : Int32)), (.int (1744830488 : Int32)), (.int (-402653159 : Int32)), (.int (1744830489 : Int32)), (.int (-402653159 : Int32)), (.int (1744830488 : Int32)), (.int (1744830488 : Int32)), (.int (8552417 : Int32)), (.int (8552417 : Int32)), (.int (8552417 : Int32)), (.int (8552417 : Int32)), (.int (8552417 : Int32)), (.int (8552417 : Int32)), (.int (8552417 : Int32)), (.int (8552417 : Int32)), (.int (8552417 : Int32)), (.int (8552417 : Int32)), (.int (8552417 : Int32)), (.int (8552417 : Int32)), (.int (8552417 : Int32)), (.int (8552417 : Int32)), (.int (8552417 : Int32)), (.int (8552417 : Int32)), (.int (8552417 : Int32)), (.int (8552417 : Int32)), (.int (8552417 : Int32)), (.int (8552417 : Int32)), (.int (8552417 : Int32)), (.int (8552417 : Int32)), (.int (8552417 : Int32)), (.int (8552417 : Int32)), (.int (8552417 : Int32)), (.int (8552417 : Int32)), (.int (-402653163 : Int32)), (.int (1744830488 : Int32)), (.int (-402653162 : Int32)), (.int (1744830491 : Int32)), (.int (1744850967 : Int32)), (.int (1744830491 : Int32)), (.int (8486882 : Int32)), (.int (8486882 : Int32)), (.int (8486882 : Int32)), (.int (8486882 : Int32)), (.int (8486882 : Int32)), (.int (8486882 : Int32)), (.int (8486882 : Int32)), (.int (8486882 : Int32)), (.int (8486882 : Int32)), (.int (8486882 : Int32)), (.int (8486882 : Int32)), (.int (8486882 : Int32)), (.int (8486882 : Int32)), (.int (8486882 : Int32)), (.int (8486882 : Int32)), (.int (8486882 : Int32)), (.int (8486882 : Int32)), (.int (8486882 : Int32)), (.int (8486882 : Int32)), (.int (8486882 : Int32)), (.int (8486882 : Int32)), (.int (8486882 : Int32)), (.int (8486882 : Int32)), (.int (8486882 : Int32)), (.int (8486882 : Int32)), (.int (8486882 : Int32)), (.int (-402653163 : Int32)), (.int (1744830489 : Int32)), (.int (-402653162 : Int32)), (.int (1744830489 : Int32)), (.int (1207963663 : Int32)), (.int (1207963663 : Int32)), (.int (1207963663 : Int32)), (.int (1207963663 : Int32)), (.int (1207963663 : Int32)), (.int (1207963663 : Int32)), (.int (1342181391 : Int32)), (.int (1207963663 : Int32)), (.int (1207963663 : Int32)), (.int (1207963663 : Int32)), (.int (1207963663 : Int32)), (.int (1207963663 : Int32)), (.int (1207963663 : Int32)), (.int (1207963663 : Int32)), (.int (1207963663 : Int32)), (.int (1207963663 : Int32)), (.int (1207963663 : Int32)), (.int (1207963663 : Int32)), (.int (1207963663 : Int32)), (.int (1207963663 : Int32)), (.int (1207963663 : Int32)), (.int (1207963663 : Int32)), (.int (1207963663 : Int32)), (.int (1207963663 : Int32)), (.int (1207963663 : Int32)), (.int (1207963663 : Int32)), (.int (1207963663 : Int32)), (.int (1207963663 : Int32)), (.int (1207963663 : Int32)), (.int (1207963663 : Int32)), (.int (1207963663 : Int32)), (.int (1207963663 : Int32)), (.int (1207963663 : Int32)), (.int (939524108 : Int32)), (.int (1744830488 : Int32)), (.int (671113242 : Int32)), (.int (671113242 : Int32)), (.int (671113242 : Int32)), (.int (671113242 : Int32)), (.int (1744830492 : Int32)), (.int (1744830488 : Int32)), (.int (1744830491 : Int32)), (.int (1744830492 : Int32)), (.int (28677 : Int32)), (.int (-402653155 : Int32)), (.int (1744830489 : Int32)), (.int (1207963664 : Int32)), (.int (1744830492 : Int32)), (.int (1744830491 : Int32)), (.int (671088668 : Int32)), (.int (671088665 : Int32)), (.int (402654731 : Int32)), (.int (402654731 : Int32)), (.int (1744830491 : Int32)), (.int (134049794 : Int32)), (.int (1744830488 : Int32)), (.int (1744830488 : Int32)), (.int (1744830491 : Int32)), (.int (402654475 : Int32)), (.int (28677 : Int32)), (.int (-402653154 : Int32)), (.int (1744832523 : Int32)), (.int (1744832523 : Int32)), (.int (1744832523 : Int32)), (.int (1744830488 : Int32)), (.int (8548353 : Int32)), (.int (8548353 : Int32)), (.int (8548353 : Int32)), (.int (8548353 : Int32)), (.int (8548353 : Int32)), (.int (8548353 : Int32)), (.int (8548353 : Int32)), (.int (8548353 : Int32)), (.int (8548353 : Int32)), (.int (8548353 : Int32)), (.int (8548353 : Int32)), (.int (8548353 : Int32)), (.int (8548353 : Int32)), (.int (8548353 : Int32)), (.int (8548353 : Int32)), (.int (8548353 : Int32)), (.int (8548353 : Int32)), (.int (8548353 : Int32)), (.int (8548353 : Int32)), (.int (8548353 : Int32)), (.int (8548353 : Int32)), (.int (8548353 : Int32)), (.int (8548353 : Int32)), (.int (1744830489 : Int32)), (.int (8548353 : Int32)), (.int (8548353 : Int32)), (.int (8548353 : Int32)), (.int (8548353 : Int32)), (.int (8548353 : Int32)), (.int (8548353 : Int32)), (.int (8548353 : Int32)), (.int (134049794 : Int32)), (.int (8482818 : Int32)), (.int (8482818 : Int32)), (.int (8482818 : Int32)), (.int (8482818 : Int32)), (.int (8482818 : Int32)), (.int (8482818 : Int32)), (.int (8482818 : Int32)), (.int (8482818 : Int32)), (.int (8482818 : Int32)), (.int (8482818 : Int32)), (.int (8482818 : Int32)), (.int (8482818 : Int32)), (.int (8482818 : Int32)), (.int (8482818 : Int32)), (.int (8482818 : Int32)), (.int (8482818 : Int32)), (.int (8482818 : Int32)), (.int (8482818 : Int32)), (.int (8482818 : Int32)), (.int (8482818 : Int32)), (.int (8482818 : Int32)), (.int (8482818 : Int32)), (.int (8482818 : Int32)), (.int (1744830489 : Int32)), (.int (8482818 : Int32)), (.int (8482818 : Int32)), (.int (8482818 : Int32)), (.int (8482818 : Int32)), (.int (8482818 : Int32)), (.int (8482818 : Int32)), (.int (8482818 : Int32)), (.int (102592514 : Int32))] (.int 0) := Arv.start hfit A_A l1_A l2_A (by decide) rfl ⟨x_A_0, x_A_1, x_A_2, x_A_3, x_A_4, x_A_5, x_A_6, x_A_7, x_A_8, x_A_9, x_A_10, x_A_11, x_A_12, x_A_13, x_A_14, x_A_15, x_A_16, x_A_17, x_A_18, x_A_19, x_A_20, x_A_21, x_A_22, x_A_23, x_A_24, x_A_25, x_A_26, x_A_27, x_A_28, x_A_29, x_A_30, x_A_31, x_A_32, x_A_33, x_A_34, x_A_35, x_A_36, x_A_37, x_A_38, x_A_39, x_A_40, x_A_41, x_A_42, x_A_43, x_A_44, x_A_45, x_A_46, x_A_47, x_A_48, x_A_49, x_A_50, x_A_51, x_A_52, x_A_53, x_A_54, x_A_55, x_A_56, x_A_57, x_A_58, x_A_59, x_A_60, x_A_61, x_A_62, x_A_63, x_A_64, x_A_65, x_A_66, x_A_67, x_A_68, x_A_69, x_A_70, x_A_71, x_A_72, x_A_73, x_A_74, x_A_75, x_A_76, x_A_77, x_A_78, x_A_79, x_A_80, x_A_81, x_A_82, x_A_83, x_A_84, x_A_85, x_A_86, x_A_87, x_A_88, x_A_89, x_A_90, x_A_91, x_A_92, x_A_93, x_A_94, x_A_95, x_A_96, x_A_97, x_A_98, x_A_99, x_A_100, x_A_101, x_A_102, x_A_103, x_A_104, x_A_105, x_A_106, x_A_107, x_A_108, x_A_109, x_A_110, x_A_111, x_A_112, x_A_113, x_A_114, x_A_115, x_A_116, x_A_117, x_A_118, x_A_119, x_A_120, x_A_121, x_A_122, x_A_123, x_A_124, x_A_125, x_A_126, x_A_127, x_A_128, x_A_129, x_A_130, x_A_131, x_A_132, x_A_133, x_A_134, x_A_135, x_A_136, x_A_137, x_A_138, x_A_139, x_A_140, x_A_141, x_A_142, x_A_143, x_A_144, x_A_145, x_A_146, x_A_147, x_A_148, x_A_149, x_A_150, x_A_151, x_A_152, x_A_153, x_A_154, x_A_155, x_A_156, x_A_157, x_A_158, x_A_159, x_A_160, x_A_161, x_A_162, x_A_163, x_A_164, x_A_165, x_A_166, x_A_167, x_A_168, x_A_169, x_A_170, x_A_171, x_A_172, x_A_173, x_A_174, x_A_175, x_A_176, x_A_177, x_A_178, x_A_179, x_A_180, x_A_181, x_A_182, x_A_183, x_A_184, x_A_185, x_A_186, x_A_187, x_A_188, x_A_189, x_A_190, x_A_191, x_A_192, x_A_193, x_A_194, x_A_195, x_A_196, x_A_197, x_A_198, x_A_199, x_A_200, x_A_201, x_A_202, x_A_203, x_A_204, x_A_205, x_A_206, x_A_207, x_A_208, x_A_209, x_A_210, x_A_211, x_A_212, x_A_213, x_A_214, x_A_215, x_A_216, x_A_217, x_A_218, x_A_219, x_A_220, x_A_221, x_A_222, x_A_223, x_A_224, x_A_225, x_A_226, x_A_227, x_A_228, x_A_229, x_A_230, x_A_231, x_A_232, x_A_233, x_A_234, x_A_235, x_A_236, x_A_237, x_A_238, x_A_239, x_A_240, x_A_241, x_A_242, x_A_243, x_A_244, x_A_245, x_A_246, x_A_247, x_A_248, x_A_249, x_A_250, x_A_251, x_A_252, x_A_253, x_A_254, x_A_255, trivial⟩
  have V_A' : Arv s s.heap a_A c_A.cls .int (256 : Int32) (tabI.map Value.int) (.int 0) := V_A
  have J0 : JJ s s.heap.size s.vm s.heap [] := ⟨Old.start s, fun _ => State.WarmedH.refl s, fun x hx => (nomatch hx), fun o i hm => (nomatch hm), fun o i hm => (nomatch hm)⟩
  obtain ⟨n, o, h1, h2, h3, v, L, Ds', rfl, hQ, hJ, hFr, hE⟩ := rm_law l s _ hw i0 i1 i2 i3 i4 s.heap s.heap.size [] own_cs S_MOD S_PARTITIONS S_BLOCKS S_instance X_instance S_A V_A' p e ha hc hk s m _ below hf ((Spec.applies_iff_loose hf).mp happ).1 ⟨rfl, State.Warmed39.refl s, rfl, J0⟩ trivial
  subst hQ
  refine ⟨n, _, h1, h2, h3, hpost _ _ _ _ _ _ ⟨Cond.after_iff.mpr rfl, Cond.after_iff.mpr (eq_i res_at (Term.int_eval (1)) rfl), trivial⟩ ⟨hE.1, hJ.2.1 rfl, (hE.2.2.2.sift fun y hy => Or.inr (hFr y hy)).mono (by decide) (by decide)⟩⟩
theorem main_1_1 : Claimed_1_1 := comes_1 fun _ _ _ _ _ _ h hF => ⟨h.1, hF⟩
theorem main_1_2 : Claimed_1_2 := comes_1 fun _ _ _ _ _ _ h hF => ⟨h.2.1, hF⟩
end Jvm.Pilot.@@N@@
namespace Jvm.Pilot.@@N@@
open Jvm Jvm.ClassFile Sem Op Lib Jvm.Free Jvm.Stand Jvm.Pilot.@@N@@.Jvm.D
/-! MADE BY PROGRAM (witnessworld.py) out of the Statement's table words and the real class files: 24 classes; the members and pool entries that the words name. The judged class is class 1, her method 3. -/
namespace start1
open Jvm.ClassFile
def u (s : String) : CpInfo := .utf8 (stringToUtf16 s)
/-- a pool by its gaps: so many unusable entries, then the entry; so many at the end -/
def gap : Nat → List CpInfo → List CpInfo
  | 0, r => r
  | n + 1, r => .unusable :: gap n r
def poolList (es : List (Nat × CpInfo)) (last : Nat) : List CpInfo := es.foldr (fun e r => gap e.1 (e.2 :: r)) (gap last [])
def pool (es : List (Nat × CpInfo)) (last : Nat) : Array CpInfo := ⟨poolList es last⟩
def fileOf (pool : Array CpInfo) (this : Nat) (attrs : Array Attribute := #[]) (ms : Array MethodInfo := #[]) (fl : Nat := 33) (sup : Nat := 0) (ifs : Array Nat := #[]) (fds : Array FieldInfo := #[]) : ClassFile where
  minorVersion := 0
  majorVersion := 65
  constantPool := pool
  accessFlags := fl
  thisClass := this
  superClass := sup
  interfaces := ifs
  fields := fds
  methods := ms
  attributes := attrs
def plain (name : String) (sup : Option ClassId) : Class where
  name := name
  kind := .ordinary
  loader := none
  accessFlags := 33
  super := sup
  interfaces := #[]
  cf := none
  fields := #[]
  methods := #[]
  instanceTypes := #[]
  staticTypes := #[]
  resolved := #[]
  callSites := []
  init := .initialized
  statics := none
  mirror := none

def pool0 : Array CpInfo := pool [(5, u "<init>"), (0, u "()V"), (1, .class_ 10), (1, u "java/lang/Object")] 113

def k0c0 : Code := { maxStack := 0, maxLocals := 1, code := object_method_1_code, exceptionTable := #[], attributes := #[] }
def k0m0 : Method := { name := "<init>", desc := "()V", sig := { parameters := [], returnType := none }, accessFlags := 1, code := some k0c0 }
/-- java/lang/Object -/
def k0 : Class := { plain "java/lang/Object" none with
  accessFlags := 33
  interfaces := #[]
  cf := some (fileOf pool0 8 #[] #[{ accessFlags := 1, nameIndex := 5, descriptorIndex := 6, attributes := #[] }] 33 0 #[] #[])
  fields := #[]
  methods := #[k0m0]
  instanceTypes := #[]
  staticTypes := #[]
  resolved := Array.replicate 124 none
  statics := none }

def pool1 : Array CpInfo := pool [(2, .class_ 4), (1, u "java/lang/Object"), (0, u "<init>"), (0, u "()V"), (0, .methodref 8 9), (0, .class_ 10), (0, .nameAndType 11 12), (0, u "java/lang/String"), (0, u "valueOf"), (0, u "(C)Ljava/lang/String;"), (0, .methodref 8 14), (0, .nameAndType 5 15), (0, u "([C)V"), (0, .methodref 8 17), (0, .nameAndType 18 19), (0, u "equals"), (0, u "(Ljava/lang/Object;)Z"), (0, .fieldref 21 22), (0, .class_ 23), (0, .nameAndType 24 25), (0, u "com/example/slicewise/slicewise/plan/Method"), (0, u "MOD"), (0, u "Lcom/example/slicewise/slicewise/plan/Method;"), (0, .fieldref 21 27), (0, .nameAndType 28 25), (0, u "PARTITIONS"), (0, .fieldref 21 30), (0, .nameAndType 31 25), (0, u "BLOCKS"), (0, .methodref 33 34), (0, .class_ 35), (0, .nameAndType 36 37), (0, u "com/example/slicewise/slicewise/plan/OptionsWithFilterPinLaw"), (0, u "str"), (0, u "(II)Ljava/lang/String;"), (0, .integer 2147483647), (0, .class_ 40), (0, u "com/example/slicewise/slicewise/plan/Options"), (0, .methodref 39 42), (0, .nameAndType 5 43), (0, u "(Lcom/example/slicewise/slicewise/plan/Method;Ljava/lang/String;Ljava/lang/String;IZ)V"), (0, .methodref 39 45), (0, .nameAndType 46 47), (0, u "withFilter"), (0, u "(Ljava/lang/String;)Lcom/example/slicewise/slicewise/plan/Options;"), (0, .methodref 39 49), (0, .nameAndType 50 51), (0, u "method"), (0, u "()Lcom/example/slicewise/slicewise/plan/Method;"), (0, .methodref 39 53), (0, .nameAndType 54 55), (0, u "splitColumn"), (0, u "()Ljava/lang/String;"), (0, .methodref 33 57), (0, .nameAndType 58 59), (0, u "same"), (0, u "(Ljava/lang/String;Ljava/lang/String;)Z"), (0, .methodref 39 61), (0, .nameAndType 62 55), (0, u "filter"), (0, .methodref 39 64), (0, .nameAndType 65 66), (0, u "threads"), (0, u "()I"), (0, .methodref 39 68), (0, .nameAndType 69 70), (0, u "oneConnectionPerThread"), (0, u "()Z"), (3, u "law"), (0, u "(IIIII)Z")] 2

def k1m0 : Method := { name := "<init>", desc := "()V", sig := { parameters := [], returnType := none }, accessFlags := 1, code := none }
def k1c1 : Code := { maxStack := 4, maxLocals := 5, code := method_2_code, exceptionTable := #[], attributes := #[] }
def k1m1 : Method := { name := "str", desc := "(II)Ljava/lang/String;", sig := { parameters := [.int, .int], returnType := some (.object "java/lang/String") }, accessFlags := 10, code := some k1c1 }
def k1c2 : Code := { maxStack := 2, maxLocals := 2, code := method_3_code, exceptionTable := #[], attributes := #[] }
def k1m2 : Method := { name := "same", desc := "(Ljava/lang/String;Ljava/lang/String;)Z", sig := { parameters := [(.object "java/lang/String"), (.object "java/lang/String")], returnType := some .boolean }, accessFlags := 10, code := some k1c2 }
def k1c3 : Code := { maxStack := 7, maxLocals := 14, code := code, exceptionTable := #[], attributes := #[] }
def k1m3 : Method := { name := "law", desc := "(IIIII)Z", sig := { parameters := [.int, .int, .int, .int, .int], returnType := some .boolean }, accessFlags := 9, code := some k1c3 }
/-- com/example/slicewise/slicewise/plan/OptionsWithFilterPinLaw -/
def k1 : Class := { plain "com/example/slicewise/slicewise/plan/OptionsWithFilterPinLaw" (some 0) with
  accessFlags := 49
  interfaces := #[]
  cf := some (fileOf pool1 33 #[] #[{ accessFlags := 1, nameIndex := 5, descriptorIndex := 6, attributes := #[] }, { accessFlags := 10, nameIndex := 36, descriptorIndex := 37, attributes := #[] }, { accessFlags := 10, nameIndex := 58, descriptorIndex := 59, attributes := #[] }, { accessFlags := 9, nameIndex := 74, descriptorIndex := 75, attributes := #[] }] 49 2 #[] #[])
  fields := #[]
  methods := #[k1m0, k1m1, k1m2, k1m3]
  instanceTypes := #[]
  staticTypes := #[]
  resolved := Array.replicate 78 none
  statics := none }

def pool2 : Array CpInfo := pool [(1, .methodref 2 3), (0, .class_ 4), (0, .nameAndType 5 6), (0, u "java/lang/Object"), (0, u "<init>"), (0, u "()V"), (0, .class_ 8), (0, u "java/lang/Record")] 13

def k2c0 : Code := { maxStack := 1, maxLocals := 1, code := jdk_30_method_1_code, exceptionTable := #[], attributes := #[] }
def k2m0 : Method := { name := "<init>", desc := "()V", sig := { parameters := [], returnType := none }, accessFlags := 4, code := some k2c0 }
/-- java/lang/Record -/
def k2 : Class := { plain "java/lang/Record" (some 0) with
  accessFlags := 1057
  interfaces := #[]
  cf := some (fileOf pool2 7 #[] #[{ accessFlags := 4, nameIndex := 5, descriptorIndex := 6, attributes := #[] }] 1057 2 #[] #[])
  fields := #[]
  methods := #[k2m0]
  instanceTypes := #[]
  staticTypes := #[]
  resolved := Array.replicate 22 none
  statics := none }

def pool3 : Array CpInfo := pool [(1, .methodref 2 3), (0, .class_ 4), (0, .nameAndType 5 6), (0, u "java/lang/Record"), (0, u "<init>"), (0, u "()V"), (0, .class_ 8), (0, u "com/example/slicewise/slicewise/plan/Options"), (9, .fieldref 19 20), (0, .class_ 21), (0, .nameAndType 22 23), (0, u "com/example/slicewise/slicewise/plan/Method"), (0, u "MOD"), (0, u "Lcom/example/slicewise/slicewise/plan/Method;"), (3, u "()Ljava/lang/String;"), (3, .methodref 32 33), (0, .class_ 34), (0, .nameAndType 35 36), (0, u "java/lang/String"), (0, u "isBlank"), (0, u "()Z"), (2, .fieldref 7 40), (0, .nameAndType 41 23), (0, u "method"), (0, .fieldref 7 43), (0, .nameAndType 44 45), (0, u "splitColumn"), (0, u "Ljava/lang/String;"), (0, .fieldref 7 47), (0, .nameAndType 48 45), (0, u "filter"), (0, .fieldref 7 50), (0, .nameAndType 51 52), (0, u "threads"), (0, u "I"), (0, .fieldref 7 54), (0, .nameAndType 55 56), (0, u "oneConnectionPerThread"), (0, u "Z"), (0, .methodref 7 58), (0, .nameAndType 5 59), (0, u "(Lcom/example/slicewise/slicewise/plan/Method;Ljava/lang/String;Ljava/lang/String;IZ)V"), (14, u "DEFAULTS"), (0, u "Lcom/example/slicewise/slicewise/plan/Options;"), (0, u "DEFAULT_THREADS"), (2, u "MAX_THREADS"), (8, u "(Ljava/lang/String;)Lcom/example/slicewise/slicewise/plan/Options;"), (0, u "withFilter"), (4, u "()I"), (1, u "()Lcom/example/slicewise/slicewise/plan/Method;")] 35

def k3c0 : Code := { maxStack := 3, maxLocals := 6, code := prog_5_method_1_code, exceptionTable := #[], attributes := #[] }
def k3m0 : Method := { name := "<init>", desc := "(Lcom/example/slicewise/slicewise/plan/Method;Ljava/lang/String;Ljava/lang/String;IZ)V", sig := { parameters := [(.object "com/example/slicewise/slicewise/plan/Method"), (.object "java/lang/String"), (.object "java/lang/String"), .int, .boolean], returnType := none }, accessFlags := 1, code := some k3c0 }
def k3c1 : Code := { maxStack := 7, maxLocals := 2, code := prog_5_method_4_code, exceptionTable := #[], attributes := #[] }
def k3m1 : Method := { name := "withFilter", desc := "(Ljava/lang/String;)Lcom/example/slicewise/slicewise/plan/Options;", sig := { parameters := [(.object "java/lang/String")], returnType := some (.object "com/example/slicewise/slicewise/plan/Options") }, accessFlags := 1, code := some k3c1 }
def k3c2 : Code := { maxStack := 1, maxLocals := 1, code := prog_5_method_10_code, exceptionTable := #[], attributes := #[] }
def k3m2 : Method := { name := "method", desc := "()Lcom/example/slicewise/slicewise/plan/Method;", sig := { parameters := [], returnType := some (.object "com/example/slicewise/slicewise/plan/Method") }, accessFlags := 1, code := some k3c2 }
def k3c3 : Code := { maxStack := 1, maxLocals := 1, code := prog_5_method_11_code, exceptionTable := #[], attributes := #[] }
def k3m3 : Method := { name := "splitColumn", desc := "()Ljava/lang/String;", sig := { parameters := [], returnType := some (.object "java/lang/String") }, accessFlags := 1, code := some k3c3 }
def k3c4 : Code := { maxStack := 1, maxLocals := 1, code := prog_5_method_12_code, exceptionTable := #[], attributes := #[] }
def k3m4 : Method := { name := "filter", desc := "()Ljava/lang/String;", sig := { parameters := [], returnType := some (.object "java/lang/String") }, accessFlags := 1, code := some k3c4 }
def k3c5 : Code := { maxStack := 1, maxLocals := 1, code := prog_5_method_13_code, exceptionTable := #[], attributes := #[] }
def k3m5 : Method := { name := "threads", desc := "()I", sig := { parameters := [], returnType := some .int }, accessFlags := 1, code := some k3c5 }
def k3c6 : Code := { maxStack := 1, maxLocals := 1, code := prog_5_method_14_code, exceptionTable := #[], attributes := #[] }
def k3m6 : Method := { name := "oneConnectionPerThread", desc := "()Z", sig := { parameters := [], returnType := some .boolean }, accessFlags := 1, code := some k3c6 }
/-- com/example/slicewise/slicewise/plan/Options -/
def k3 : Class := { plain "com/example/slicewise/slicewise/plan/Options" (some 2) with
  accessFlags := 49
  interfaces := #[]
  cf := some (fileOf pool3 7 #[] #[{ accessFlags := 1, nameIndex := 5, descriptorIndex := 59, attributes := #[] }, { accessFlags := 1, nameIndex := 89, descriptorIndex := 88, attributes := #[] }, { accessFlags := 1, nameIndex := 41, descriptorIndex := 96, attributes := #[] }, { accessFlags := 1, nameIndex := 44, descriptorIndex := 27, attributes := #[] }, { accessFlags := 1, nameIndex := 48, descriptorIndex := 27, attributes := #[] }, { accessFlags := 1, nameIndex := 51, descriptorIndex := 94, attributes := #[] }, { accessFlags := 1, nameIndex := 55, descriptorIndex := 36, attributes := #[] }] 49 2 #[] #[{ accessFlags := 18, nameIndex := 41, descriptorIndex := 23, attributes := #[] }, { accessFlags := 18, nameIndex := 44, descriptorIndex := 45, attributes := #[] }, { accessFlags := 18, nameIndex := 48, descriptorIndex := 45, attributes := #[] }, { accessFlags := 18, nameIndex := 51, descriptorIndex := 52, attributes := #[] }, { accessFlags := 18, nameIndex := 55, descriptorIndex := 56, attributes := #[] }, { accessFlags := 25, nameIndex := 76, descriptorIndex := 52, attributes := #[] }, { accessFlags := 25, nameIndex := 79, descriptorIndex := 52, attributes := #[] }, { accessFlags := 25, nameIndex := 74, descriptorIndex := 75, attributes := #[] }])
  fields := #[{ name := "method", type := (.object "com/example/slicewise/slicewise/plan/Method"), accessFlags := 18, slot := 0, constantValue := 0 }, { name := "splitColumn", type := (.object "java/lang/String"), accessFlags := 18, slot := 1, constantValue := 0 }, { name := "filter", type := (.object "java/lang/String"), accessFlags := 18, slot := 2, constantValue := 0 }, { name := "threads", type := .int, accessFlags := 18, slot := 3, constantValue := 0 }, { name := "oneConnectionPerThread", type := .boolean, accessFlags := 18, slot := 4, constantValue := 0 }, { name := "DEFAULT_THREADS", type := .int, accessFlags := 25, slot := 0, constantValue := 0 }, { name := "MAX_THREADS", type := .int, accessFlags := 25, slot := 1, constantValue := 0 }, { name := "DEFAULTS", type := (.object "com/example/slicewise/slicewise/plan/Options"), accessFlags := 25, slot := 2, constantValue := 0 }]
  methods := #[k3m0, k3m1, k3m2, k3m3, k3m4, k3m5, k3m6]
  instanceTypes := #[(.object "com/example/slicewise/slicewise/plan/Method"), (.object "java/lang/String"), (.object "java/lang/String"), .int, .boolean]
  staticTypes := #[.int, .int, (.object "com/example/slicewise/slicewise/plan/Options")]
  resolved := Array.replicate 132 none
  statics := none }

def pool4 : Array CpInfo := pool [(1, .class_ 2), (0, u "java/lang/constant/Constable"), (0, .class_ 4), (0, u "java/lang/Object")] 6

/-- java/lang/constant/Constable -/
def k4 : Class := { plain "java/lang/constant/Constable" (some 0) with
  accessFlags := 1537
  interfaces := #[]
  cf := some (fileOf pool4 1 #[] #[] 1537 3 #[] #[])
  fields := #[]
  methods := #[]
  instanceTypes := #[]
  staticTypes := #[]
  resolved := Array.replicate 11 none
  statics := none }

def pool5 : Array CpInfo := pool [(1, .class_ 2), (0, u "java/lang/Comparable"), (0, .class_ 4), (0, u "java/lang/Object")] 7

/-- java/lang/Comparable -/
def k5 : Class := { plain "java/lang/Comparable" (some 0) with
  accessFlags := 1537
  interfaces := #[]
  cf := some (fileOf pool5 1 #[] #[] 1537 3 #[] #[])
  fields := #[]
  methods := #[]
  instanceTypes := #[]
  staticTypes := #[]
  resolved := Array.replicate 12 none
  statics := none }

def pool6 : Array CpInfo := pool [(1, .class_ 2), (0, u "java/io/Serializable"), (0, .class_ 4), (0, u "java/lang/Object")] 2

/-- java/io/Serializable -/
def k6 : Class := { plain "java/io/Serializable" (some 0) with
  accessFlags := 1537
  interfaces := #[]
  cf := some (fileOf pool6 1 #[] #[] 1537 3 #[] #[])
  fields := #[]
  methods := #[]
  instanceTypes := #[]
  staticTypes := #[]
  resolved := Array.replicate 7 none
  statics := none }

def pool7 : Array CpInfo := pool [(2, .class_ 4), (1, u "java/lang/Enum"), (0, u "name"), (0, u "Ljava/lang/String;"), (2, u "ordinal"), (0, u "I"), (1, .class_ 14), (1, u "java/lang/Object"), (4, u "hash"), (86, .class_ 108), (1, u "java/lang/Enum$EnumDesc"), (2, .class_ 112), (0, u "java/lang/constant/Constable"), (0, .class_ 114), (0, u "java/lang/Comparable"), (0, .class_ 116), (0, u "java/io/Serializable")] 87

/-- java/lang/Enum -/
def k7 : Class := { plain "java/lang/Enum" (some 0) with
  accessFlags := 1057
  interfaces := #[4, 5, 6]
  cf := some (fileOf pool7 2 #[.nestMembers #[106]] #[] 1057 12 #[111, 113, 115] #[{ accessFlags := 18, nameIndex := 5, descriptorIndex := 6, attributes := #[] }, { accessFlags := 18, nameIndex := 9, descriptorIndex := 10, attributes := #[] }, { accessFlags := 2, nameIndex := 19, descriptorIndex := 10, attributes := #[] }])
  fields := #[{ name := "name", type := (.object "java/lang/String"), accessFlags := 18, slot := 0, constantValue := 0 }, { name := "ordinal", type := .int, accessFlags := 18, slot := 1, constantValue := 0 }, { name := "hash", type := .int, accessFlags := 2, slot := 2, constantValue := 0 }]
  methods := #[]
  instanceTypes := #[(.object "java/lang/String"), .int, .int]
  staticTypes := #[]
  resolved := Array.replicate 204 none
  statics := none }

def pool8 : Array CpInfo := pool [(1, .class_ 2), (0, u "com/example/slicewise/slicewise/plan/Method"), (2, u "MOD"), (0, u "Lcom/example/slicewise/slicewise/plan/Method;"), (2, u "PARTITIONS"), (2, u "BLOCKS"), (2, u "$VALUES"), (0, u "[Lcom/example/slicewise/slicewise/plan/Method;"), (6, .class_ 25), (1, u "java/lang/Enum"), (8, u "word"), (0, u "Ljava/lang/String;")] 51

/-- com/example/slicewise/slicewise/plan/Method -/
def k8 : Class := { plain "com/example/slicewise/slicewise/plan/Method" (some 7) with
  accessFlags := 16433
  interfaces := #[]
  cf := some (fileOf pool8 1 #[] #[] 16433 23 #[] #[{ accessFlags := 16409, nameIndex := 5, descriptorIndex := 6, attributes := #[] }, { accessFlags := 16409, nameIndex := 9, descriptorIndex := 6, attributes := #[] }, { accessFlags := 16409, nameIndex := 12, descriptorIndex := 6, attributes := #[] }, { accessFlags := 18, nameIndex := 34, descriptorIndex := 35, attributes := #[] }, { accessFlags := 4122, nameIndex := 15, descriptorIndex := 16, attributes := #[] }])
  fields := #[{ name := "MOD", type := (.object "com/example/slicewise/slicewise/plan/Method"), accessFlags := 16409, slot := 0, constantValue := 0 }, { name := "PARTITIONS", type := (.object "com/example/slicewise/slicewise/plan/Method"), accessFlags := 16409, slot := 1, constantValue := 0 }, { name := "BLOCKS", type := (.object "com/example/slicewise/slicewise/plan/Method"), accessFlags := 16409, slot := 2, constantValue := 0 }, { name := "word", type := (.object "java/lang/String"), accessFlags := 18, slot := 3, constantValue := 0 }, { name := "$VALUES", type := (.array (.object "com/example/slicewise/slicewise/plan/Method")), accessFlags := 4122, slot := 3, constantValue := 0 }]
  methods := #[]
  instanceTypes := #[(.object "java/lang/String"), .int, .int, (.object "java/lang/String")]
  staticTypes := #[(.object "com/example/slicewise/slicewise/plan/Method"), (.object "com/example/slicewise/slicewise/plan/Method"), (.object "com/example/slicewise/slicewise/plan/Method"), (.array (.object "com/example/slicewise/slicewise/plan/Method"))]
  resolved := Array.replicate 87 none
  statics := some 0 }

def pool9 : Array CpInfo := pool [(2, .class_ 4), (1, u "java/lang/CharSequence"), (42, .class_ 48), (0, u "java/lang/CharSequence$1CodePointIterator"), (10, .class_ 60), (0, u "java/lang/CharSequence$1CharIterator"), (5, .class_ 67), (0, u "java/lang/Object")] 63

/-- java/lang/CharSequence -/
def k9 : Class := { plain "java/lang/CharSequence" (some 0) with
  accessFlags := 1537
  interfaces := #[]
  cf := some (fileOf pool9 2 #[.nestMembers #[47, 59]] #[] 1537 66 #[] #[])
  fields := #[]
  methods := #[]
  instanceTypes := #[]
  staticTypes := #[]
  resolved := Array.replicate 131 none
  statics := none }

def pool10 : Array CpInfo := pool [(1, .class_ 2), (0, u "java/lang/constant/ConstantDesc"), (0, .class_ 4), (0, u "java/lang/Object")] 32

/-- java/lang/constant/ConstantDesc -/
def k10 : Class := { plain "java/lang/constant/ConstantDesc" (some 0) with
  accessFlags := 1537
  interfaces := #[]
  cf := some (fileOf pool10 1 #[] #[] 1537 3 #[] #[])
  fields := #[]
  methods := #[]
  instanceTypes := #[]
  staticTypes := #[]
  resolved := Array.replicate 37 none
  statics := none }

def pool11 : Array CpInfo := pool [(1, .methodref 2 3), (0, .class_ 4), (0, .nameAndType 5 6), (0, u "java/lang/Object"), (0, u "<init>"), (0, u "()V"), (2, .fieldref 10 11), (0, .class_ 12), (0, .nameAndType 13 14), (0, u "java/lang/String"), (0, u "value"), (0, u "[B"), (0, .fieldref 10 16), (0, .nameAndType 17 18), (0, u "coder"), (0, u "B"), (2, u "hash"), (0, u "I"), (2, u "hashIsZero"), (0, u "Z"), (0, .methodref 10 28), (0, .nameAndType 5 29), (0, u "([CIILjava/lang/Void;)V"), (8, .fieldref 10 39), (0, .nameAndType 40 26), (0, u "COMPACT_STRINGS"), (1, .class_ 44), (1, u "java/lang/StringUTF16"), (0, u "compress"), (1, .methodref 42 48), (0, .nameAndType 49 50), (0, u "coderFromArrayLen"), (0, u "([BI)B"), (2, u "toBytes"), (53, .class_ 109), (1, u "java/lang/StringLatin1"), (32, u "()Z"), (34, .methodref 42 178), (0, .nameAndType 45 179), (0, u "([CII)[B"), (29, .methodref 10 210), (0, .nameAndType 5 211), (0, u "([BB)V"), (122, u "()I"), (0, .methodref 10 336), (0, .nameAndType 17 337), (0, u "()B"), (31, u "(C)Z"), (122, .methodref 10 493), (0, .nameAndType 494 142), (0, u "isLatin1"), (10, .methodref 10 506), (0, .nameAndType 507 334), (0, u "length"), (35, u "equals"), (29, u "(Ljava/lang/Object;)Z"), (1, .class_ 576), (0, u "java/lang/CharSequence"), (22, u "CASE_INSENSITIVE_ORDER"), (0, u "Ljava/util/Comparator;"), (30, u "([B)I"), (150, u "valueOf"), (0, u "(C)Ljava/lang/String;"), (92, .methodref 10 877), (0, .nameAndType 878 334), (0, u "indexOfNonWhitespace"), (45, .methodref 107 925), (0, .nameAndType 878 631), (26, u "isBlank"), (57, u "([C)V"), (4, .methodref 107 1016), (0, .nameAndType 1017 369), (0, u "canEncode"), (0, .methodref 107 1019), (0, .nameAndType 53 1020), (0, u "(C)[B"), (80, u "serialPersistentFields"), (0, u "[Ljava/io/ObjectStreamField;"), (0, .class_ 1104), (0, u "java/lang/String$CaseInsensitiveComparator"), (1, .class_ 1107), (0, u "java/io/Serializable"), (0, .class_ 1109), (0, u "java/lang/Comparable"), (0, .class_ 1111), (0, u "java/lang/constant/Constable"), (0, .class_ 1113), (0, u "java/lang/constant/ConstantDesc"), (2, u "serialVersionUID"), (0, u "J"), (3, u "REPL"), (0, u "C"), (2, u "LATIN1"), (1, u "UTF16")] 323

def k11m0 : Method := { name := "<init>", desc := "()V", sig := { parameters := [], returnType := none }, accessFlags := 1, code := none }
def k11c1 : Code := { maxStack := 5, maxLocals := 2, code := jdk_42_method_3_code, exceptionTable := #[], attributes := #[] }
def k11m1 : Method := { name := "<init>", desc := "([C)V", sig := { parameters := [(.array .char)], returnType := none }, accessFlags := 1, code := some k11c1 }
def k11c2 : Code := { maxStack := 2, maxLocals := 1, code := jdk_42_method_54_code, exceptionTable := #[], attributes := #[] }
def k11m2 : Method := { name := "length", desc := "()I", sig := { parameters := [], returnType := some .int }, accessFlags := 1, code := some k11c2 }
def k11c3 : Code := { maxStack := 2, maxLocals := 3, code := jdk_42_method_66_code, exceptionTable := #[], attributes := #[] }
def k11m3 : Method := { name := "equals", desc := "(Ljava/lang/Object;)Z", sig := { parameters := [(.object "java/lang/Object")], returnType := some .boolean }, accessFlags := 1, code := some k11c3 }
def k11c4 : Code := { maxStack := 2, maxLocals := 1, code := jdk_42_method_117_code, exceptionTable := #[], attributes := #[] }
def k11m4 : Method := { name := "isBlank", desc := "()Z", sig := { parameters := [], returnType := some .boolean }, accessFlags := 1, code := some k11c4 }
def k11c5 : Code := { maxStack := 1, maxLocals := 1, code := jdk_42_method_120_code, exceptionTable := #[], attributes := #[] }
def k11m5 : Method := { name := "indexOfNonWhitespace", desc := "()I", sig := { parameters := [], returnType := some .int }, accessFlags := 2, code := some k11c5 }
def k11c6 : Code := { maxStack := 4, maxLocals := 1, code := jdk_42_method_139_code, exceptionTable := #[], attributes := #[] }
def k11m6 : Method := { name := "valueOf", desc := "(C)Ljava/lang/String;", sig := { parameters := [.char], returnType := some (.object "java/lang/String") }, accessFlags := 9, code := some k11c6 }
def k11c7 : Code := { maxStack := 4, maxLocals := 6, code := jdk_42_method_149_code, exceptionTable := #[], attributes := #[] }
def k11m7 : Method := { name := "<init>", desc := "([CIILjava/lang/Void;)V", sig := { parameters := [(.array .char), .int, .int, (.object "java/lang/Void")], returnType := none }, accessFlags := 2, code := some k11c7 }
def k11c8 : Code := { maxStack := 2, maxLocals := 3, code := jdk_42_method_151_code, exceptionTable := #[], attributes := #[] }
def k11m8 : Method := { name := "<init>", desc := "([BB)V", sig := { parameters := [(.array .byte), .byte], returnType := none }, accessFlags := 0, code := some k11c8 }
def k11c9 : Code := { maxStack := 1, maxLocals := 1, code := jdk_42_method_152_code, exceptionTable := #[], attributes := #[] }
def k11m9 : Method := { name := "coder", desc := "()B", sig := { parameters := [], returnType := some .byte }, accessFlags := 0, code := some k11c9 }
def k11c10 : Code := { maxStack := 1, maxLocals := 1, code := jdk_42_method_154_code, exceptionTable := #[], attributes := #[] }
def k11m10 : Method := { name := "isLatin1", desc := "()Z", sig := { parameters := [], returnType := some .boolean }, accessFlags := 0, code := some k11c10 }
/-- java/lang/String -/
def k11 : Class := { plain "java/lang/String" (some 0) with
  accessFlags := 49
  interfaces := #[6, 5, 9, 4, 10]
  cf := some (fileOf pool11 10 #[.nestMembers #[1103]] #[{ accessFlags := 1, nameIndex := 5, descriptorIndex := 6, attributes := #[] }, { accessFlags := 1, nameIndex := 5, descriptorIndex := 1010, attributes := #[] }, { accessFlags := 1, nameIndex := 507, descriptorIndex := 334, attributes := #[] }, { accessFlags := 1, nameIndex := 543, descriptorIndex := 573, attributes := #[] }, { accessFlags := 1, nameIndex := 952, descriptorIndex := 142, attributes := #[] }, { accessFlags := 2, nameIndex := 878, descriptorIndex := 334, attributes := #[] }, { accessFlags := 9, nameIndex := 782, descriptorIndex := 783, attributes := #[] }, { accessFlags := 2, nameIndex := 5, descriptorIndex := 29, attributes := #[] }, { accessFlags := 0, nameIndex := 5, descriptorIndex := 211, attributes := #[] }, { accessFlags := 0, nameIndex := 17, descriptorIndex := 337, attributes := #[] }, { accessFlags := 0, nameIndex := 494, descriptorIndex := 142, attributes := #[] }] 49 2 #[1106, 1108, 575, 1110, 1112] #[{ accessFlags := 18, nameIndex := 13, descriptorIndex := 14, attributes := #[] }, { accessFlags := 18, nameIndex := 17, descriptorIndex := 18, attributes := #[] }, { accessFlags := 2, nameIndex := 21, descriptorIndex := 22, attributes := #[] }, { accessFlags := 2, nameIndex := 25, descriptorIndex := 26, attributes := #[] }, { accessFlags := 26, nameIndex := 1116, descriptorIndex := 1117, attributes := #[] }, { accessFlags := 24, nameIndex := 40, descriptorIndex := 26, attributes := #[] }, { accessFlags := 26, nameIndex := 1101, descriptorIndex := 1102, attributes := #[] }, { accessFlags := 26, nameIndex := 1121, descriptorIndex := 1122, attributes := #[] }, { accessFlags := 25, nameIndex := 599, descriptorIndex := 600, attributes := #[] }, { accessFlags := 24, nameIndex := 1125, descriptorIndex := 18, attributes := #[] }, { accessFlags := 24, nameIndex := 1127, descriptorIndex := 18, attributes := #[] }])
  fields := #[{ name := "value", type := (.array .byte), accessFlags := 18, slot := 0, constantValue := 0 }, { name := "coder", type := .byte, accessFlags := 18, slot := 1, constantValue := 0 }, { name := "hash", type := .int, accessFlags := 2, slot := 2, constantValue := 0 }, { name := "hashIsZero", type := .boolean, accessFlags := 2, slot := 3, constantValue := 0 }, { name := "serialVersionUID", type := .long, accessFlags := 26, slot := 0, constantValue := 0 }, { name := "COMPACT_STRINGS", type := .boolean, accessFlags := 24, slot := 1, constantValue := 0 }, { name := "serialPersistentFields", type := (.array (.object "java/io/ObjectStreamField")), accessFlags := 26, slot := 2, constantValue := 0 }, { name := "REPL", type := .char, accessFlags := 26, slot := 3, constantValue := 0 }, { name := "CASE_INSENSITIVE_ORDER", type := (.object "java/util/Comparator"), accessFlags := 25, slot := 4, constantValue := 0 }, { name := "LATIN1", type := .byte, accessFlags := 24, slot := 5, constantValue := 0 }, { name := "UTF16", type := .byte, accessFlags := 24, slot := 6, constantValue := 0 }]
  methods := #[k11m0, k11m1, k11m2, k11m3, k11m4, k11m5, k11m6, k11m7, k11m8, k11m9, k11m10]
  instanceTypes := #[(.array .byte), .byte, .int, .boolean]
  staticTypes := #[.long, .boolean, (.array (.object "java/io/ObjectStreamField")), .char, (.object "java/util/Comparator"), .byte, .byte]
  resolved := Array.replicate 1451 none
  statics := some 1 }

def pool12 : Array CpInfo := pool [(6, .class_ 8), (1, u "java/lang/Object"), (0, u "<init>"), (0, u "()V"), (1, .class_ 14), (1, u "java/lang/StringUTF16"), (31, u "$assertionsDisabled"), (0, u "Z"), (13, u "HI_BYTE_SHIFT"), (0, u "I"), (2, u "LO_BYTE_SHIFT"), (49, .methodref 12 116), (0, .nameAndType 117 118), (0, u "compress"), (0, u "([CI[BII)I"), (3, u "([CII)[B"), (138, u "coderFromArrayLen"), (0, u "([BI)B"), (106, .class_ 371), (1, u "java/lang/StringUTF16$LinesSpliterator"), (58, u "MAX_LENGTH"), (196, .class_ 628), (0, u "java/lang/StringUTF16$CodePointsSpliterator"), (0, .class_ 630), (0, u "java/lang/StringUTF16$CharsSpliterator")] 4

def k12m0 : Method := { name := "<init>", desc := "()V", sig := { parameters := [], returnType := none }, accessFlags := 0, code := none }
def k12c1 : Code := { maxStack := 2, maxLocals := 2, code := jdk_52_method_15_code, exceptionTable := #[], attributes := #[] }
def k12m1 : Method := { name := "coderFromArrayLen", desc := "([BI)B", sig := { parameters := [(.array .byte), .int], returnType := some .byte }, accessFlags := 8, code := some k12c1 }
def k12c2 : Code := { maxStack := 5, maxLocals := 6, code := jdk_52_method_16_code, exceptionTable := #[], attributes := #[] }
def k12m2 : Method := { name := "compress", desc := "([CII)[B", sig := { parameters := [(.array .char), .int, .int], returnType := some (.array .byte) }, accessFlags := 9, code := some k12c2 }
def k12c3 : Code := { maxStack := 3, maxLocals := 7, code := jdk_52_method_21_code, exceptionTable := #[], attributes := #[] }
def k12m3 : Method := { name := "compress", desc := "([CI[BII)I", sig := { parameters := [(.array .char), .int, (.array .byte), .int, .int], returnType := some .int }, accessFlags := 9, code := some k12c3 }
/-- java/lang/StringUTF16 -/
def k12 : Class := { plain "java/lang/StringUTF16" (some 0) with
  accessFlags := 48
  interfaces := #[]
  cf := some (fileOf pool12 12 #[.nestMembers #[627, 629, 369]] #[{ accessFlags := 0, nameIndex := 9, descriptorIndex := 10, attributes := #[] }, { accessFlags := 8, nameIndex := 261, descriptorIndex := 262, attributes := #[] }, { accessFlags := 9, nameIndex := 117, descriptorIndex := 122, attributes := #[] }, { accessFlags := 9, nameIndex := 117, descriptorIndex := 118, attributes := #[] }] 48 6 #[] #[{ accessFlags := 26, nameIndex := 61, descriptorIndex := 62, attributes := #[] }, { accessFlags := 26, nameIndex := 65, descriptorIndex := 62, attributes := #[] }, { accessFlags := 24, nameIndex := 430, descriptorIndex := 62, attributes := #[] }, { accessFlags := 4120, nameIndex := 46, descriptorIndex := 47, attributes := #[] }])
  fields := #[{ name := "HI_BYTE_SHIFT", type := .int, accessFlags := 26, slot := 0, constantValue := 0 }, { name := "LO_BYTE_SHIFT", type := .int, accessFlags := 26, slot := 1, constantValue := 0 }, { name := "MAX_LENGTH", type := .int, accessFlags := 24, slot := 2, constantValue := 0 }, { name := "$assertionsDisabled", type := .boolean, accessFlags := 4120, slot := 3, constantValue := 0 }]
  methods := #[k12m0, k12m1, k12m2, k12m3]
  instanceTypes := #[]
  staticTypes := #[.int, .int, .int, .boolean]
  resolved := Array.replicate 635 none
  statics := none }

def pool13 : Array CpInfo := pool [(4, .class_ 6), (1, u "java/lang/Object"), (0, u "<init>"), (0, u "()V"), (5, .class_ 16), (1, u "java/lang/StringLatin1"), (33, .methodref 14 51), (0, .nameAndType 52 53), (0, u "getChar"), (0, u "([BI)C"), (3, u "([B)I"), (8, .fieldref 67 68), (0, .class_ 69), (0, .nameAndType 70 71), (0, u "java/lang/CharacterDataLatin1"), (0, u "instance"), (0, u "Ljava/lang/CharacterDataLatin1;"), (18, u "canEncode"), (0, u "(I)Z"), (13, u "(C)Z"), (15, u "$assertionsDisabled"), (0, u "Z"), (88, .methodref 67 212), (0, .nameAndType 213 91), (0, u "isWhitespace"), (2, u "indexOfNonWhitespace"), (4, .class_ 223), (1, u "java/lang/StringLatin1$LinesSpliterator"), (156, u "toBytes"), (1, u "(C)[B"), (7, .class_ 391), (0, u "java/lang/StringLatin1$CharsSpliterator")] 3

def k13m0 : Method := { name := "<init>", desc := "()V", sig := { parameters := [], returnType := none }, accessFlags := 0, code := none }
def k13c1 : Code := { maxStack := 2, maxLocals := 1, code := jdk_43_method_3_code, exceptionTable := #[], attributes := #[] }
def k13m1 : Method := { name := "canEncode", desc := "(C)Z", sig := { parameters := [.char], returnType := some .boolean }, accessFlags := 9, code := some k13c1 }
def k13c2 : Code := { maxStack := 2, maxLocals := 4, code := jdk_43_method_37_code, exceptionTable := #[], attributes := #[] }
def k13m2 : Method := { name := "indexOfNonWhitespace", desc := "([B)I", sig := { parameters := [(.array .byte)], returnType := some .int }, accessFlags := 9, code := some k13c2 }
def k13c3 : Code := { maxStack := 2, maxLocals := 2, code := jdk_43_method_44_code, exceptionTable := #[], attributes := #[] }
def k13m3 : Method := { name := "getChar", desc := "([BI)C", sig := { parameters := [(.array .byte), .int], returnType := some .char }, accessFlags := 9, code := some k13c3 }
def k13c4 : Code := { maxStack := 4, maxLocals := 1, code := jdk_43_method_46_code, exceptionTable := #[], attributes := #[] }
def k13m4 : Method := { name := "toBytes", desc := "(C)[B", sig := { parameters := [.char], returnType := some (.array .byte) }, accessFlags := 9, code := some k13c4 }
/-- java/lang/StringLatin1 -/
def k13 : Class := { plain "java/lang/StringLatin1" (some 0) with
  accessFlags := 48
  interfaces := #[]
  cf := some (fileOf pool13 14 #[.nestMembers #[390, 221]] #[{ accessFlags := 0, nameIndex := 7, descriptorIndex := 8, attributes := #[] }, { accessFlags := 9, nameIndex := 90, descriptorIndex := 105, attributes := #[] }, { accessFlags := 9, nameIndex := 216, descriptorIndex := 57, attributes := #[] }, { accessFlags := 9, nameIndex := 52, descriptorIndex := 53, attributes := #[] }, { accessFlags := 9, nameIndex := 380, descriptorIndex := 382, attributes := #[] }] 48 4 #[] #[{ accessFlags := 4120, nameIndex := 121, descriptorIndex := 122, attributes := #[] }])
  fields := #[{ name := "$assertionsDisabled", type := .boolean, accessFlags := 4120, slot := 0, constantValue := 0 }]
  methods := #[k13m0, k13m1, k13m2, k13m3, k13m4]
  instanceTypes := #[]
  staticTypes := #[.boolean]
  resolved := Array.replicate 395 none
  statics := none }

def pool14 : Array CpInfo := pool [(2, .class_ 4), (1, u "java/lang/Object"), (0, u "<init>"), (0, u "()V"), (1, .class_ 10), (1, u "java/lang/CharacterData")] 75

def k14m0 : Method := { name := "<init>", desc := "()V", sig := { parameters := [], returnType := none }, accessFlags := 0, code := none }
/-- java/lang/CharacterData -/
def k14 : Class := { plain "java/lang/CharacterData" (some 0) with
  accessFlags := 1056
  interfaces := #[]
  cf := some (fileOf pool14 8 #[] #[{ accessFlags := 0, nameIndex := 5, descriptorIndex := 6, attributes := #[] }] 1056 2 #[] #[])
  fields := #[]
  methods := #[k14m0]
  instanceTypes := #[]
  staticTypes := #[]
  resolved := Array.replicate 86 none
  statics := none }

def pool15 : Array CpInfo := pool [(1, .fieldref 2 3), (0, .class_ 4), (0, .nameAndType 5 6), (0, u "java/lang/CharacterDataLatin1"), (0, u "A"), (0, u "[I"), (2, u "B"), (0, u "[C"), (3, u "(I)I"), (0, .methodref 2 16), (0, .nameAndType 17 14), (0, u "getProperties"), (3, u "(I)Z"), (5, u "DIGITS"), (0, u "[B"), (8, u "sharpsMap"), (1, .class_ 41), (1, u "java/lang/CharacterData"), (0, u "<init>"), (0, u "()V"), (3, u "instance"), (0, u "Ljava/lang/CharacterDataLatin1;"), (78, u "isWhitespace")] 13

def k15c0 : Code := { maxStack := 2, maxLocals := 4, code := jdk_116_method_1_code, exceptionTable := #[], attributes := #[] }
def k15m0 : Method := { name := "getProperties", desc := "(I)I", sig := { parameters := [.int], returnType := some .int }, accessFlags := 0, code := some k15c0 }
def k15c1 : Code := { maxStack := 2, maxLocals := 3, code := jdk_116_method_26_code, exceptionTable := #[], attributes := #[] }
def k15m1 : Method := { name := "isWhitespace", desc := "(I)Z", sig := { parameters := [.int], returnType := some .boolean }, accessFlags := 0, code := some k15c1 }
def k15m2 : Method := { name := "<init>", desc := "()V", sig := { parameters := [], returnType := none }, accessFlags := 2, code := none }
/-- java/lang/CharacterDataLatin1 -/
def k15 : Class := { plain "java/lang/CharacterDataLatin1" (some 14) with
  accessFlags := 32
  interfaces := #[]
  cf := some (fileOf pool15 2 #[] #[{ accessFlags := 0, nameIndex := 17, descriptorIndex := 14, attributes := #[] }, { accessFlags := 0, nameIndex := 127, descriptorIndex := 21, attributes := #[] }, { accessFlags := 2, nameIndex := 42, descriptorIndex := 43, attributes := #[] }] 32 39 #[] #[{ accessFlags := 26, nameIndex := 27, descriptorIndex := 28, attributes := #[] }, { accessFlags := 8, nameIndex := 37, descriptorIndex := 10, attributes := #[] }, { accessFlags := 24, nameIndex := 47, descriptorIndex := 48, attributes := #[] }, { accessFlags := 24, nameIndex := 5, descriptorIndex := 6, attributes := #[] }, { accessFlags := 24, nameIndex := 9, descriptorIndex := 10, attributes := #[] }])
  fields := #[{ name := "DIGITS", type := (.array .byte), accessFlags := 26, slot := 0, constantValue := 0 }, { name := "sharpsMap", type := (.array .char), accessFlags := 8, slot := 1, constantValue := 0 }, { name := "instance", type := (.object "java/lang/CharacterDataLatin1"), accessFlags := 24, slot := 2, constantValue := 0 }, { name := "A", type := (.array .int), accessFlags := 24, slot := 3, constantValue := 0 }, { name := "B", type := (.array .char), accessFlags := 24, slot := 4, constantValue := 0 }]
  methods := #[k15m0, k15m1, k15m2]
  instanceTypes := #[]
  staticTypes := #[(.array .byte), (.array .char), (.object "java/lang/CharacterDataLatin1"), (.array .int), (.array .char)]
  resolved := Array.replicate 141 none
  statics := some 2 }

def pool16 : Array CpInfo := pool [(2, .class_ 4), (1, u "java/lang/Object"), (0, u "<init>"), (0, u "()V"), (17, .class_ 26), (1, u "jdk/internal/util/Preconditions"), (28, .class_ 56), (0, u "jdk/internal/util/Preconditions$4"), (57, .class_ 115), (0, u "jdk/internal/util/Preconditions$1"), (7, u "SIOOBE_FORMATTER"), (0, u "Ljava/util/function/BiFunction;"), (0, .class_ 126), (0, u "jdk/internal/util/Preconditions$2"), (3, u "AIOOBE_FORMATTER"), (0, .class_ 132), (0, u "jdk/internal/util/Preconditions$3"), (3, u "IOOBE_FORMATTER")] 57

def k16m0 : Method := { name := "<init>", desc := "()V", sig := { parameters := [], returnType := none }, accessFlags := 1, code := none }
/-- jdk/internal/util/Preconditions -/
def k16 : Class := { plain "jdk/internal/util/Preconditions" (some 0) with
  accessFlags := 33
  interfaces := #[]
  cf := some (fileOf pool16 24 #[.nestMembers #[55, 131, 125, 114]] #[{ accessFlags := 1, nameIndex := 5, descriptorIndex := 6, attributes := #[] }] 33 2 #[] #[{ accessFlags := 25, nameIndex := 123, descriptorIndex := 124, attributes := #[] }, { accessFlags := 25, nameIndex := 130, descriptorIndex := 124, attributes := #[] }, { accessFlags := 25, nameIndex := 136, descriptorIndex := 124, attributes := #[] }])
  fields := #[{ name := "SIOOBE_FORMATTER", type := (.object "java/util/function/BiFunction"), accessFlags := 25, slot := 0, constantValue := 0 }, { name := "AIOOBE_FORMATTER", type := (.object "java/util/function/BiFunction"), accessFlags := 25, slot := 1, constantValue := 0 }, { name := "IOOBE_FORMATTER", type := (.object "java/util/function/BiFunction"), accessFlags := 25, slot := 2, constantValue := 0 }]
  methods := #[k16m0]
  instanceTypes := #[]
  staticTypes := #[(.object "java/util/function/BiFunction"), (.object "java/util/function/BiFunction"), (.object "java/util/function/BiFunction")]
  resolved := Array.replicate 194 none
  statics := some 3 }

def pool17 : Array CpInfo := pool [(1, u "java/lang/Cloneable"), (0, .class_ 1), (0, u "java/lang/Object"), (0, .class_ 3)] 3

/-- java/lang/Cloneable -/
def k17 : Class := { plain "java/lang/Cloneable" (some 0) with
  accessFlags := 1537
  interfaces := #[]
  cf := some (fileOf pool17 2 #[] #[] 1537 4 #[] #[])
  fields := #[]
  methods := #[]
  instanceTypes := #[]
  staticTypes := #[]
  resolved := Array.replicate 8 none
  statics := none }

/-- the primitive byte -/
def k18 : Class := { plain "byte" none with kind := .primitive 'B', accessFlags := 0x411 }
/-- [B -/
def k19 : Class := { plain "[B" (some 0) with kind := .array 18 .byte, interfaces := #[17, 6], accessFlags := 1041 }

/-- the primitive char -/
def k20 : Class := { plain "char" none with kind := .primitive 'C', accessFlags := 0x411 }
/-- [C -/
def k21 : Class := { plain "[C" (some 0) with kind := .array 20 .char, interfaces := #[17, 6], accessFlags := 1041 }

/-- the primitive int -/
def k22 : Class := { plain "int" none with kind := .primitive 'I', accessFlags := 0x411 }
/-- [I -/
def k23 : Class := { plain "[I" (some 0) with kind := .array 22 .int, interfaces := #[17, 6], accessFlags := 1041 }

/-- jdk/internal/util/ArraysSupport: named by the set of statics alone -/
def k24 : Class := plain "jdk/internal/util/ArraysSupport" (some 0)

def heap : Heap := #[{ cls := 8, slots := #[.ref 4, .ref 5, .ref 6, .null], vm := .statics 8 },
  { cls := 11, slots := #[.long 0, .int 1, .null, .int 0, .null, .int 0, .int 0], vm := .statics 11 },
  { cls := 15, slots := #[.null, .null, .ref 7, .ref 8, .null], vm := .statics 15 },
  { cls := 16, slots := #[.null, .null, .null], vm := .statics 16 },
  { cls := 8, slots := #[.null, .int 0, .int 0, .null], vm := .none },
  { cls := 8, slots := #[.null, .int 1, .int 0, .null], vm := .none },
  { cls := 8, slots := #[.null, .int 2, .int 0, .null], vm := .none },
  { cls := 15, slots := #[], vm := .none },
  { cls := 23, slots := #[.int 1207963663, .int 1207963663, .int 1207963663, .int 1207963663, .int 1207963663, .int 1207963663, .int 1207963663, .int 1207963663, .int 1207963663, .int 1476411407, .int 1342193679, .int 1476411407, .int 1610629135, .int 1342193679, .int 1207963663, .int 1207963663, .int 1207963663, .int 1207963663, .int 1207963663, .int 1207963663, .int 1207963663, .int 1207963663, .int 1207963663, .int 1207963663, .int 1207963663, .int 1207963663, .int 1207963663, .int 1207963663, .int 1342193679, .int 1342193679, .int 1342193679, .int 1476411407, .int 1610629132, .int 1744830488, .int 1744830488, .int 671088664, .int 671113242, .int 671088664, .int 1744830488, .int 1744830488, .int (-402653163), .int (-402653162), .int 1744830488, .int 536870937, .int 939524120, .int 536870932, .int 939524120, .int 939524120, .int 402667017, .int 402667017, .int 402667017, .int 402667017, .int 402667017, .int 402667017, .int 402667017, .int 402667017, .int 402667017, .int 402667017, .int 939524120, .int 1744830488, .int (-402653159), .int 1744830489, .int (-402653159), .int 1744830488, .int 1744830488, .int 8552417, .int 8552417, .int 8552417, .int 8552417, .int 8552417, .int 8552417, .int 8552417, .int 8552417, .int 8552417, .int 8552417, .int 8552417, .int 8552417, .int 8552417, .int 8552417, .int 8552417, .int 8552417, .int 8552417, .int 8552417, .int 8552417, .int 8552417, .int 8552417, .int 8552417, .int 8552417, .int 8552417, .int 8552417, .int 8552417, .int (-402653163), .int 1744830488, .int (-402653162), .int 1744830491, .int 1744850967, .int 1744830491, .int 8486882, .int 8486882, .int 8486882, .int 8486882, .int 8486882, .int 8486882, .int 8486882, .int 8486882, .int 8486882, .int 8486882, .int 8486882, .int 8486882, .int 8486882, .int 8486882, .int 8486882, .int 8486882, .int 8486882, .int 8486882, .int 8486882, .int 8486882, .int 8486882, .int 8486882, .int 8486882, .int 8486882, .int 8486882, .int 8486882, .int (-402653163), .int 1744830489, .int (-402653162), .int 1744830489, .int 1207963663, .int 1207963663, .int 1207963663, .int 1207963663, .int 1207963663, .int 1207963663, .int 1342181391, .int 1207963663, .int 1207963663, .int 1207963663, .int 1207963663, .int 1207963663, .int 1207963663, .int 1207963663, .int 1207963663, .int 1207963663, .int 1207963663, .int 1207963663, .int 1207963663, .int 1207963663, .int 1207963663, .int 1207963663, .int 1207963663, .int 1207963663, .int 1207963663, .int 1207963663, .int 1207963663, .int 1207963663, .int 1207963663, .int 1207963663, .int 1207963663, .int 1207963663, .int 1207963663, .int 939524108, .int 1744830488, .int 671113242, .int 671113242, .int 671113242, .int 671113242, .int 1744830492, .int 1744830488, .int 1744830491, .int 1744830492, .int 28677, .int (-402653155), .int 1744830489, .int 1207963664, .int 1744830492, .int 1744830491, .int 671088668, .int 671088665, .int 402654731, .int 402654731, .int 1744830491, .int 134049794, .int 1744830488, .int 1744830488, .int 1744830491, .int 402654475, .int 28677, .int (-402653154), .int 1744832523, .int 1744832523, .int 1744832523, .int 1744830488, .int 8548353, .int 8548353, .int 8548353, .int 8548353, .int 8548353, .int 8548353, .int 8548353, .int 8548353, .int 8548353, .int 8548353, .int 8548353, .int 8548353, .int 8548353, .int 8548353, .int 8548353, .int 8548353, .int 8548353, .int 8548353, .int 8548353, .int 8548353, .int 8548353, .int 8548353, .int 8548353, .int 1744830489, .int 8548353, .int 8548353, .int 8548353, .int 8548353, .int 8548353, .int 8548353, .int 8548353, .int 134049794, .int 8482818, .int 8482818, .int 8482818, .int 8482818, .int 8482818, .int 8482818, .int 8482818, .int 8482818, .int 8482818, .int 8482818, .int 8482818, .int 8482818, .int 8482818, .int 8482818, .int 8482818, .int 8482818, .int 8482818, .int 8482818, .int 8482818, .int 8482818, .int 8482818, .int 8482818, .int 8482818, .int 1744830489, .int 8482818, .int 8482818, .int 8482818, .int 8482818, .int 8482818, .int 8482818, .int 8482818, .int 102592514], vm := .none }]
def classes : Array Class := #[k0, k1, k2, k3, k4, k5, k6, k7, k8, k9, k10, k11, k12, k13, k14, k15, k16, k17, k18, k19, k20, k21, k22, k23, k24]
def interned : List (Array UInt16 × Addr) := []
def slotsUsed : Nat := 287
def theMethod : MethodId := ⟨1, 3⟩
def args0 : Array Value := #[.int 5, .int 5, .int 5, .int 5, .int 5]
def aboutOver (below : List Frame) : State where
  vm := { classes := classes, interned := interned.toArray }
  heap := heap
  slotsUsed := slotsUsed
  threads := #[{ frames := .invoking theMethod args0 :: below }]
def below0 : List Frame := [.native { method := ⟨0, 0⟩, args := #[] }]
def about1 : State := aboutOver below0
def p0 : Program := .bare "" "" ""
def e0 : Env := launch0.env 0 0 0
theorem w_frames : about1.frames = Frame.invoking theMethod args0 :: below0 := rfl
set_option maxRecDepth 65536 in
theorem w_args : argsFit about1.vm theMethod args0 = true := by decide +kernel
set_option maxRecDepth 65536 in
theorem w_heap : heapFits about1 = true := by decide +kernel
set_option maxRecDepth 65536 in
theorem w_runnable : about1.curStatus? = some .runnable := by decide +kernel
set_option maxRecDepth 65536 in
theorem w_alone : about1.alone = true := by decide +kernel
set_option maxRecDepth 65536 in
theorem w_named : about1.methodNamed? x = some theMethod := by decide +kernel
set_option maxRecDepth 65536 in
theorem w_hears : about1.hears theMethod below0 = true := by decide +kernel
set_option maxRecDepth 65536 in
theorem w_ripe : about1.ripe theMethod args0 below0 = true := by decide +kernel
theorem w_running : about1.status = .running := rfl
set_option maxRecDepth 65536 in
theorem w_room : about1.hasRoom e0.platform room_1 = true :=
  launch0.hasRoom_least _ room_1 (by decide +kernel) (by decide +kernel) (by decide +kernel) (by decide +kernel) (by decide +kernel) (by decide +kernel)
theorem allAtoms_all (ts : List Jvm.Cond) (a : Array Jvm.Value) (st : Jvm.State) : (allAtoms ts).before a st = ts.all (fun c => c.before a st) := by
  induction ts with
  | nil => rfl
  | cons c t ih =>
    show (Jvm.Cond.and c (allAtoms t)).before a st = _
    rw [Jvm.Cond.before_and, ih, List.all_cons]
def words1 : List Jvm.Cond := Jvm.Cond.code x code maxLocals ret :: tables_1
/-- a 'code' word, met by the world's own term for the bytes: nothing is compared byte by byte -/
theorem code_word {y : MethodName} {bytes : ByteArray} {mx : Nat} {rt : Option FieldType} {a : Array Value} {s : State} {m : MethodId} {meth : Method} {c : Code} (h1 : s.methodNamed? y = some m) (h2 : s.vm.method? m = some meth) (h3 : meth.code = some c) (h4 : c.code = bytes)
    (h5 : (c.maxLocals == mx && c.exceptionTable.isEmpty && decide (c.maxStack ≤ mostOperands) && decide (meth.sig.returnType = rt) && !meth.locks && decide (parseMethodDescriptor y.desc = some meth.sig)) = true) : (Jvm.Cond.code y bytes mx rt).before a s = true := by
  simp only [Bool.and_eq_true, beq_iff_eq, Bool.not_eq_true', decide_eq_true_eq] at h5
  obtain ⟨⟨⟨⟨⟨g1, g2⟩, g3⟩, g4⟩, g5⟩, g6⟩ := h5
  simp [Cond.before, Cond.holds, Cond.value, h1, h2, h3, h4, g1, g2, g3, g4, g5, g6]
def isCode : Jvm.Cond → Bool
  | .code _ _ _ _ => true
  | _ => false
theorem all_split {L : List Jvm.Cond} {P : Jvm.Cond → Bool} (h1 : L.all (fun c => isCode c || P c) = true) (h2 : ∀ c ∈ L.filter isCode, P c = true) : L.all P = true := by
  refine List.all_eq_true.mpr fun c hc => ?_
  have h := List.all_eq_true.mp h1 c hc
  rcases Bool.eq_false_or_eq_true (isCode c) with hi | hi
  · exact h2 c (List.mem_filter.mpr ⟨hc, hi⟩)
  · simpa [hi] using h
set_option maxRecDepth 65536 in
theorem w_c0 : (Jvm.Cond.code x code maxLocals ret).before args0 about1 = true := code_word (m := ⟨1, 3⟩) (meth := k1m3) (c := k1c3) (by decide +kernel) rfl rfl rfl (by decide +kernel)
set_option maxRecDepth 65536 in
theorem w_c1 : (Jvm.Cond.code ({ cls := "com/example/slicewise/slicewise/plan/OptionsWithFilterPinLaw", name := "str", desc := "(II)Ljava/lang/String;" } : Jvm.MethodName) method_2_code (5 : Nat) (Option.some (Jvm.ClassFile.FieldType.object "java/lang/String"))).before args0 about1 = true := code_word (m := ⟨1, 1⟩) (meth := k1m1) (c := k1c1) (by decide +kernel) rfl rfl rfl (by decide +kernel)
set_option maxRecDepth 65536 in
theorem w_c2 : (Jvm.Cond.code ({ cls := "com/example/slicewise/slicewise/plan/Options", name := "<init>", desc := "(Lcom/example/slicewise/slicewise/plan/Method;Ljava/lang/String;Ljava/lang/String;IZ)V" } : Jvm.MethodName) prog_5_method_1_code (6 : Nat) (Option.none : Option Jvm.ClassFile.FieldType)).before args0 about1 = true := code_word (m := ⟨3, 0⟩) (meth := k3m0) (c := k3c0) (by decide +kernel) rfl rfl rfl (by decide +kernel)
set_option maxRecDepth 65536 in
theorem w_c3 : (Jvm.Cond.code ({ cls := "java/lang/Record", name := "<init>", desc := "()V" } : Jvm.MethodName) jdk_30_method_1_code (1 : Nat) (Option.none : Option Jvm.ClassFile.FieldType)).before args0 about1 = true := code_word (m := ⟨2, 0⟩) (meth := k2m0) (c := k2c0) (by decide +kernel) rfl rfl rfl (by decide +kernel)
set_option maxRecDepth 65536 in
theorem w_c4 : (Jvm.Cond.code ({ cls := "java/lang/Object", name := "<init>", desc := "()V" } : Jvm.MethodName) object_method_1_code (1 : Nat) (Option.none : Option Jvm.ClassFile.FieldType)).before args0 about1 = true := code_word (m := ⟨0, 0⟩) (meth := k0m0) (c := k0c0) (by decide +kernel) rfl rfl rfl (by decide +kernel)
set_option maxRecDepth 65536 in
theorem w_c5 : (Jvm.Cond.code ({ cls := "com/example/slicewise/slicewise/plan/Options", name := "withFilter", desc := "(Ljava/lang/String;)Lcom/example/slicewise/slicewise/plan/Options;" } : Jvm.MethodName) prog_5_method_4_code (2 : Nat) (Option.some (Jvm.ClassFile.FieldType.object "com/example/slicewise/slicewise/plan/Options"))).before args0 about1 = true := code_word (m := ⟨3, 1⟩) (meth := k3m1) (c := k3c1) (by decide +kernel) rfl rfl rfl (by decide +kernel)
set_option maxRecDepth 65536 in
theorem w_c6 : (Jvm.Cond.code ({ cls := "com/example/slicewise/slicewise/plan/Options", name := "method", desc := "()Lcom/example/slicewise/slicewise/plan/Method;" } : Jvm.MethodName) prog_5_method_10_code (1 : Nat) (Option.some (Jvm.ClassFile.FieldType.object "com/example/slicewise/slicewise/plan/Method"))).before args0 about1 = true := code_word (m := ⟨3, 2⟩) (meth := k3m2) (c := k3c2) (by decide +kernel) rfl rfl rfl (by decide +kernel)
set_option maxRecDepth 65536 in
theorem w_c7 : (Jvm.Cond.code ({ cls := "com/example/slicewise/slicewise/plan/Options", name := "splitColumn", desc := "()Ljava/lang/String;" } : Jvm.MethodName) prog_5_method_11_code (1 : Nat) (Option.some (Jvm.ClassFile.FieldType.object "java/lang/String"))).before args0 about1 = true := code_word (m := ⟨3, 3⟩) (meth := k3m3) (c := k3c3) (by decide +kernel) rfl rfl rfl (by decide +kernel)
set_option maxRecDepth 65536 in
theorem w_c8 : (Jvm.Cond.code ({ cls := "com/example/slicewise/slicewise/plan/OptionsWithFilterPinLaw", name := "same", desc := "(Ljava/lang/String;Ljava/lang/String;)Z" } : Jvm.MethodName) method_3_code (2 : Nat) (Option.some Jvm.ClassFile.FieldType.boolean)).before args0 about1 = true := code_word (m := ⟨1, 2⟩) (meth := k1m2) (c := k1c2) (by decide +kernel) rfl rfl rfl (by decide +kernel)
set_option maxRecDepth 65536 in
theorem w_c9 : (Jvm.Cond.code ({ cls := "com/example/slicewise/slicewise/plan/Options", name := "filter", desc := "()Ljava/lang/String;" } : Jvm.MethodName) prog_5_method_12_code (1 : Nat) (Option.some (Jvm.ClassFile.FieldType.object "java/lang/String"))).before args0 about1 = true := code_word (m := ⟨3, 4⟩) (meth := k3m4) (c := k3c4) (by decide +kernel) rfl rfl rfl (by decide +kernel)
set_option maxRecDepth 65536 in
theorem w_c10 : (Jvm.Cond.code ({ cls := "com/example/slicewise/slicewise/plan/Options", name := "threads", desc := "()I" } : Jvm.MethodName) prog_5_method_13_code (1 : Nat) (Option.some Jvm.ClassFile.FieldType.int)).before args0 about1 = true := code_word (m := ⟨3, 5⟩) (meth := k3m5) (c := k3c5) (by decide +kernel) rfl rfl rfl (by decide +kernel)
set_option maxRecDepth 65536 in
theorem w_c11 : (Jvm.Cond.code ({ cls := "com/example/slicewise/slicewise/plan/Options", name := "oneConnectionPerThread", desc := "()Z" } : Jvm.MethodName) prog_5_method_14_code (1 : Nat) (Option.some Jvm.ClassFile.FieldType.boolean)).before args0 about1 = true := code_word (m := ⟨3, 6⟩) (meth := k3m6) (c := k3c6) (by decide +kernel) rfl rfl rfl (by decide +kernel)
set_option maxRecDepth 65536 in
theorem w_c12 : (Jvm.Cond.code ({ cls := "java/lang/String", name := "<init>", desc := "([C)V" } : Jvm.MethodName) jdk_42_method_3_code (2 : Nat) (Option.none : Option Jvm.ClassFile.FieldType)).before args0 about1 = true := code_word (m := ⟨11, 1⟩) (meth := k11m1) (c := k11c1) (by decide +kernel) rfl rfl rfl (by decide +kernel)
set_option maxRecDepth 65536 in
theorem w_c13 : (Jvm.Cond.code ({ cls := "java/lang/String", name := "<init>", desc := "([CIILjava/lang/Void;)V" } : Jvm.MethodName) jdk_42_method_149_code (6 : Nat) (Option.none : Option Jvm.ClassFile.FieldType)).before args0 about1 = true := code_word (m := ⟨11, 7⟩) (meth := k11m7) (c := k11c7) (by decide +kernel) rfl rfl rfl (by decide +kernel)
set_option maxRecDepth 65536 in
theorem w_c14 : (Jvm.Cond.code ({ cls := "java/lang/StringUTF16", name := "compress", desc := "([CII)[B" } : Jvm.MethodName) jdk_52_method_16_code (6 : Nat) (Option.some (Jvm.ClassFile.FieldType.array Jvm.ClassFile.FieldType.byte))).before args0 about1 = true := code_word (m := ⟨12, 2⟩) (meth := k12m2) (c := k12c2) (by decide +kernel) rfl rfl rfl (by decide +kernel)
set_option maxRecDepth 65536 in
theorem w_c15 : (Jvm.Cond.code ({ cls := "java/lang/StringUTF16", name := "compress", desc := "([CI[BII)I" } : Jvm.MethodName) jdk_52_method_21_code (7 : Nat) (Option.some Jvm.ClassFile.FieldType.int)).before args0 about1 = true := code_word (m := ⟨12, 3⟩) (meth := k12m3) (c := k12c3) (by decide +kernel) rfl rfl rfl (by decide +kernel)
set_option maxRecDepth 65536 in
theorem w_c16 : (Jvm.Cond.code ({ cls := "java/lang/StringUTF16", name := "coderFromArrayLen", desc := "([BI)B" } : Jvm.MethodName) jdk_52_method_15_code (2 : Nat) (Option.some Jvm.ClassFile.FieldType.byte)).before args0 about1 = true := code_word (m := ⟨12, 1⟩) (meth := k12m1) (c := k12c1) (by decide +kernel) rfl rfl rfl (by decide +kernel)
set_option maxRecDepth 65536 in
theorem w_c17 : (Jvm.Cond.code ({ cls := "java/lang/String", name := "valueOf", desc := "(C)Ljava/lang/String;" } : Jvm.MethodName) jdk_42_method_139_code (1 : Nat) (Option.some (Jvm.ClassFile.FieldType.object "java/lang/String"))).before args0 about1 = true := code_word (m := ⟨11, 6⟩) (meth := k11m6) (c := k11c6) (by decide +kernel) rfl rfl rfl (by decide +kernel)
set_option maxRecDepth 65536 in
theorem w_c18 : (Jvm.Cond.code ({ cls := "java/lang/StringLatin1", name := "canEncode", desc := "(C)Z" } : Jvm.MethodName) jdk_43_method_3_code (1 : Nat) (Option.some Jvm.ClassFile.FieldType.boolean)).before args0 about1 = true := code_word (m := ⟨13, 1⟩) (meth := k13m1) (c := k13c1) (by decide +kernel) rfl rfl rfl (by decide +kernel)
set_option maxRecDepth 65536 in
theorem w_c19 : (Jvm.Cond.code ({ cls := "java/lang/StringLatin1", name := "toBytes", desc := "(C)[B" } : Jvm.MethodName) jdk_43_method_46_code (1 : Nat) (Option.some (Jvm.ClassFile.FieldType.array Jvm.ClassFile.FieldType.byte))).before args0 about1 = true := code_word (m := ⟨13, 4⟩) (meth := k13m4) (c := k13c4) (by decide +kernel) rfl rfl rfl (by decide +kernel)
set_option maxRecDepth 65536 in
theorem w_c20 : (Jvm.Cond.code ({ cls := "java/lang/String", name := "<init>", desc := "([BB)V" } : Jvm.MethodName) jdk_42_method_151_code (3 : Nat) (Option.none : Option Jvm.ClassFile.FieldType)).before args0 about1 = true := code_word (m := ⟨11, 8⟩) (meth := k11m8) (c := k11c8) (by decide +kernel) rfl rfl rfl (by decide +kernel)
set_option maxRecDepth 65536 in
theorem w_c21 : (Jvm.Cond.code ({ cls := "java/lang/String", name := "isBlank", desc := "()Z" } : Jvm.MethodName) jdk_42_method_117_code (1 : Nat) (Option.some Jvm.ClassFile.FieldType.boolean)).before args0 about1 = true := code_word (m := ⟨11, 4⟩) (meth := k11m4) (c := k11c4) (by decide +kernel) rfl rfl rfl (by decide +kernel)
set_option maxRecDepth 65536 in
theorem w_c22 : (Jvm.Cond.code ({ cls := "java/lang/String", name := "indexOfNonWhitespace", desc := "()I" } : Jvm.MethodName) jdk_42_method_120_code (1 : Nat) (Option.some Jvm.ClassFile.FieldType.int)).before args0 about1 = true := code_word (m := ⟨11, 5⟩) (meth := k11m5) (c := k11c5) (by decide +kernel) rfl rfl rfl (by decide +kernel)
set_option maxRecDepth 65536 in
theorem w_c23 : (Jvm.Cond.code ({ cls := "java/lang/String", name := "isLatin1", desc := "()Z" } : Jvm.MethodName) jdk_42_method_154_code (1 : Nat) (Option.some Jvm.ClassFile.FieldType.boolean)).before args0 about1 = true := code_word (m := ⟨11, 10⟩) (meth := k11m10) (c := k11c10) (by decide +kernel) rfl rfl rfl (by decide +kernel)
set_option maxRecDepth 65536 in
theorem w_c24 : (Jvm.Cond.code ({ cls := "java/lang/StringLatin1", name := "indexOfNonWhitespace", desc := "([B)I" } : Jvm.MethodName) jdk_43_method_37_code (4 : Nat) (Option.some Jvm.ClassFile.FieldType.int)).before args0 about1 = true := code_word (m := ⟨13, 2⟩) (meth := k13m2) (c := k13c2) (by decide +kernel) rfl rfl rfl (by decide +kernel)
set_option maxRecDepth 65536 in
theorem w_c25 : (Jvm.Cond.code ({ cls := "java/lang/StringLatin1", name := "getChar", desc := "([BI)C" } : Jvm.MethodName) jdk_43_method_44_code (2 : Nat) (Option.some Jvm.ClassFile.FieldType.char)).before args0 about1 = true := code_word (m := ⟨13, 3⟩) (meth := k13m3) (c := k13c3) (by decide +kernel) rfl rfl rfl (by decide +kernel)
set_option maxRecDepth 65536 in
theorem w_c26 : (Jvm.Cond.code ({ cls := "java/lang/CharacterDataLatin1", name := "isWhitespace", desc := "(I)Z" } : Jvm.MethodName) jdk_116_method_26_code (3 : Nat) (Option.some Jvm.ClassFile.FieldType.boolean)).before args0 about1 = true := code_word (m := ⟨15, 1⟩) (meth := k15m1) (c := k15c1) (by decide +kernel) rfl rfl rfl (by decide +kernel)
set_option maxRecDepth 65536 in
theorem w_c27 : (Jvm.Cond.code ({ cls := "java/lang/CharacterDataLatin1", name := "getProperties", desc := "(I)I" } : Jvm.MethodName) jdk_116_method_1_code (4 : Nat) (Option.some Jvm.ClassFile.FieldType.int)).before args0 about1 = true := code_word (m := ⟨15, 0⟩) (meth := k15m0) (c := k15c0) (by decide +kernel) rfl rfl rfl (by decide +kernel)
set_option maxRecDepth 65536 in
theorem w_c28 : (Jvm.Cond.code ({ cls := "java/lang/String", name := "length", desc := "()I" } : Jvm.MethodName) jdk_42_method_54_code (1 : Nat) (Option.some Jvm.ClassFile.FieldType.int)).before args0 about1 = true := code_word (m := ⟨11, 2⟩) (meth := k11m2) (c := k11c2) (by decide +kernel) rfl rfl rfl (by decide +kernel)
set_option maxRecDepth 65536 in
theorem w_c29 : (Jvm.Cond.code ({ cls := "java/lang/String", name := "coder", desc := "()B" } : Jvm.MethodName) jdk_42_method_152_code (1 : Nat) (Option.some Jvm.ClassFile.FieldType.byte)).before args0 about1 = true := code_word (m := ⟨11, 9⟩) (meth := k11m9) (c := k11c9) (by decide +kernel) rfl rfl rfl (by decide +kernel)
set_option maxRecDepth 65536 in
theorem w_c30 : (Jvm.Cond.code ({ cls := "java/lang/String", name := "equals", desc := "(Ljava/lang/Object;)Z" } : Jvm.MethodName) jdk_42_method_66_code (3 : Nat) (Option.some Jvm.ClassFile.FieldType.boolean)).before args0 about1 = true := code_word (m := ⟨11, 3⟩) (meth := k11m3) (c := k11c3) (by decide +kernel) rfl rfl rfl (by decide +kernel)
def codes1 : List Jvm.Cond := [Jvm.Cond.code x code maxLocals ret, Jvm.Cond.code ({ cls := "com/example/slicewise/slicewise/plan/OptionsWithFilterPinLaw", name := "str", desc := "(II)Ljava/lang/String;" } : Jvm.MethodName) method_2_code (5 : Nat) (Option.some (Jvm.ClassFile.FieldType.object "java/lang/String")), Jvm.Cond.code ({ cls := "com/example/slicewise/slicewise/plan/Options", name := "<init>", desc := "(Lcom/example/slicewise/slicewise/plan/Method;Ljava/lang/String;Ljava/lang/String;IZ)V" } : Jvm.MethodName) prog_5_method_1_code (6 : Nat) (Option.none : Option Jvm.ClassFile.FieldType), Jvm.Cond.code ({ cls := "java/lang/Record", name := "<init>", desc := "()V" } : Jvm.MethodName) jdk_30_method_1_code (1 : Nat) (Option.none : Option Jvm.ClassFile.FieldType), Jvm.Cond.code ({ cls := "java/lang/Object", name := "<init>", desc := "()V" } : Jvm.MethodName) object_method_1_code (1 : Nat) (Option.none : Option Jvm.ClassFile.FieldType), Jvm.Cond.code ({ cls := "com/example/slicewise/slicewise/plan/Options", name := "withFilter", desc := "(Ljava/lang/String;)Lcom/example/slicewise/slicewise/plan/Options;" } : Jvm.MethodName) prog_5_method_4_code (2 : Nat) (Option.some (Jvm.ClassFile.FieldType.object "com/example/slicewise/slicewise/plan/Options")), Jvm.Cond.code ({ cls := "com/example/slicewise/slicewise/plan/Options", name := "method", desc := "()Lcom/example/slicewise/slicewise/plan/Method;" } : Jvm.MethodName) prog_5_method_10_code (1 : Nat) (Option.some (Jvm.ClassFile.FieldType.object "com/example/slicewise/slicewise/plan/Method")), Jvm.Cond.code ({ cls := "com/example/slicewise/slicewise/plan/Options", name := "splitColumn", desc := "()Ljava/lang/String;" } : Jvm.MethodName) prog_5_method_11_code (1 : Nat) (Option.some (Jvm.ClassFile.FieldType.object "java/lang/String")), Jvm.Cond.code ({ cls := "com/example/slicewise/slicewise/plan/OptionsWithFilterPinLaw", name := "same", desc := "(Ljava/lang/String;Ljava/lang/String;)Z" } : Jvm.MethodName) method_3_code (2 : Nat) (Option.some Jvm.ClassFile.FieldType.boolean), Jvm.Cond.code ({ cls := "com/example/slicewise/slicewise/plan/Options", name := "filter", desc := "()Ljava/lang/String;" } : Jvm.MethodName) prog_5_method_12_code (1 : Nat) (Option.some (Jvm.ClassFile.FieldType.object "java/lang/String")), Jvm.Cond.code ({ cls := "com/example/slicewise/slicewise/plan/Options", name := "threads", desc := "()I" } : Jvm.MethodName) prog_5_method_13_code (1 : Nat) (Option.some Jvm.ClassFile.FieldType.int), Jvm.Cond.code ({ cls := "com/example/slicewise/slicewise/plan/Options", name := "oneConnectionPerThread", desc := "()Z" } : Jvm.MethodName) prog_5_method_14_code (1 : Nat) (Option.some Jvm.ClassFile.FieldType.boolean), Jvm.Cond.code ({ cls := "java/lang/String", name := "<init>", desc := "([C)V" } : Jvm.MethodName) jdk_42_method_3_code (2 : Nat) (Option.none : Option Jvm.ClassFile.FieldType), Jvm.Cond.code ({ cls := "java/lang/String", name := "<init>", desc := "([CIILjava/lang/Void;)V" } : Jvm.MethodName) jdk_42_method_149_code (6 : Nat) (Option.none : Option Jvm.ClassFile.FieldType), Jvm.Cond.code ({ cls := "java/lang/StringUTF16", name := "compress", desc := "([CII)[B" } : Jvm.MethodName) jdk_52_method_16_code (6 : Nat) (Option.some (Jvm.ClassFile.FieldType.array Jvm.ClassFile.FieldType.byte)), Jvm.Cond.code ({ cls := "java/lang/StringUTF16", name := "compress", desc := "([CI[BII)I" } : Jvm.MethodName) jdk_52_method_21_code (7 : Nat) (Option.some Jvm.ClassFile.FieldType.int), Jvm.Cond.code ({ cls := "java/lang/StringUTF16", name := "coderFromArrayLen", desc := "([BI)B" } : Jvm.MethodName) jdk_52_method_15_code (2 : Nat) (Option.some Jvm.ClassFile.FieldType.byte), Jvm.Cond.code ({ cls := "java/lang/String", name := "valueOf", desc := "(C)Ljava/lang/String;" } : Jvm.MethodName) jdk_42_method_139_code (1 : Nat) (Option.some (Jvm.ClassFile.FieldType.object "java/lang/String")), Jvm.Cond.code ({ cls := "java/lang/StringLatin1", name := "canEncode", desc := "(C)Z" } : Jvm.MethodName) jdk_43_method_3_code (1 : Nat) (Option.some Jvm.ClassFile.FieldType.boolean), Jvm.Cond.code ({ cls := "java/lang/StringLatin1", name := "toBytes", desc := "(C)[B" } : Jvm.MethodName) jdk_43_method_46_code (1 : Nat) (Option.some (Jvm.ClassFile.FieldType.array Jvm.ClassFile.FieldType.byte)), Jvm.Cond.code ({ cls := "java/lang/String", name := "<init>", desc := "([BB)V" } : Jvm.MethodName) jdk_42_method_151_code (3 : Nat) (Option.none : Option Jvm.ClassFile.FieldType), Jvm.Cond.code ({ cls := "java/lang/String", name := "isBlank", desc := "()Z" } : Jvm.MethodName) jdk_42_method_117_code (1 : Nat) (Option.some Jvm.ClassFile.FieldType.boolean), Jvm.Cond.code ({ cls := "java/lang/String", name := "indexOfNonWhitespace", desc := "()I" } : Jvm.MethodName) jdk_42_method_120_code (1 : Nat) (Option.some Jvm.ClassFile.FieldType.int), Jvm.Cond.code ({ cls := "java/lang/String", name := "isLatin1", desc := "()Z" } : Jvm.MethodName) jdk_42_method_154_code (1 : Nat) (Option.some Jvm.ClassFile.FieldType.boolean), Jvm.Cond.code ({ cls := "java/lang/StringLatin1", name := "indexOfNonWhitespace", desc := "([B)I" } : Jvm.MethodName) jdk_43_method_37_code (4 : Nat) (Option.some Jvm.ClassFile.FieldType.int), Jvm.Cond.code ({ cls := "java/lang/StringLatin1", name := "getChar", desc := "([BI)C" } : Jvm.MethodName) jdk_43_method_44_code (2 : Nat) (Option.some Jvm.ClassFile.FieldType.char), Jvm.Cond.code ({ cls := "java/lang/CharacterDataLatin1", name := "isWhitespace", desc := "(I)Z" } : Jvm.MethodName) jdk_116_method_26_code (3 : Nat) (Option.some Jvm.ClassFile.FieldType.boolean), Jvm.Cond.code ({ cls := "java/lang/CharacterDataLatin1", name := "getProperties", desc := "(I)I" } : Jvm.MethodName) jdk_116_method_1_code (4 : Nat) (Option.some Jvm.ClassFile.FieldType.int), Jvm.Cond.code ({ cls := "java/lang/String", name := "length", desc := "()I" } : Jvm.MethodName) jdk_42_method_54_code (1 : Nat) (Option.some Jvm.ClassFile.FieldType.int), Jvm.Cond.code ({ cls := "java/lang/String", name := "coder", desc := "()B" } : Jvm.MethodName) jdk_42_method_152_code (1 : Nat) (Option.some Jvm.ClassFile.FieldType.byte), Jvm.Cond.code ({ cls := "java/lang/String", name := "equals", desc := "(Ljava/lang/Object;)Z" } : Jvm.MethodName) jdk_42_method_66_code (3 : Nat) (Option.some Jvm.ClassFile.FieldType.boolean)]
set_option maxRecDepth 65536 in
theorem codes_eq : words1.filter isCode = codes1 := rfl
theorem w_codes : ∀ c ∈ words1.filter isCode, c.before args0 about1 = true := by
  rw [codes_eq]
  intro c hc
  simp only [codes1, List.mem_cons, List.not_mem_nil, or_false] at hc
  rcases hc with rfl | rfl | rfl | rfl | rfl | rfl | rfl | rfl | rfl | rfl | rfl | rfl | rfl | rfl | rfl | rfl | rfl | rfl | rfl | rfl | rfl | rfl | rfl | rfl | rfl | rfl | rfl | rfl | rfl | rfl | rfl
  · exact w_c0
  · exact w_c1
  · exact w_c2
  · exact w_c3
  · exact w_c4
  · exact w_c5
  · exact w_c6
  · exact w_c7
  · exact w_c8
  · exact w_c9
  · exact w_c10
  · exact w_c11
  · exact w_c12
  · exact w_c13
  · exact w_c14
  · exact w_c15
  · exact w_c16
  · exact w_c17
  · exact w_c18
  · exact w_c19
  · exact w_c20
  · exact w_c21
  · exact w_c22
  · exact w_c23
  · exact w_c24
  · exact w_c25
  · exact w_c26
  · exact w_c27
  · exact w_c28
  · exact w_c29
  · exact w_c30
set_option maxRecDepth 65536 in
theorem w_t1 : (words1.take 24).all (fun c => isCode c || c.before args0 about1) = true := by decide +kernel
set_option maxRecDepth 65536 in
theorem w_t2 : ((words1.drop 24).take 24).all (fun c => isCode c || c.before args0 about1) = true := by decide +kernel
set_option maxRecDepth 65536 in
theorem w_t3 : (((words1.drop 24).drop 24).take 24).all (fun c => isCode c || c.before args0 about1) = true := by decide +kernel
set_option maxRecDepth 65536 in
theorem w_t4 : ((((words1.drop 24).drop 24).drop 24).take 24).all (fun c => isCode c || c.before args0 about1) = true := by decide +kernel
set_option maxRecDepth 65536 in
theorem w_t5 : (((((words1.drop 24).drop 24).drop 24).drop 24).take 24).all (fun c => isCode c || c.before args0 about1) = true := by decide +kernel
set_option maxRecDepth 65536 in
theorem w_t6 : ((((((words1.drop 24).drop 24).drop 24).drop 24).drop 24).take 24).all (fun c => isCode c || c.before args0 about1) = true := by decide +kernel
set_option maxRecDepth 65536 in
theorem w_t7 : ((((((words1.drop 24).drop 24).drop 24).drop 24).drop 24).drop 24).all (fun c => isCode c || c.before args0 about1) = true := by decide +kernel
theorem w_tables : (allAtoms (Jvm.Cond.code x code maxLocals ret :: tables_1)).before args0 about1 = true := by
  rw [allAtoms_all]
  show words1.all (fun c => c.before args0 about1) = true
  refine all_split ?_ w_codes
  rw [← List.take_append_drop 24 words1, List.all_append, w_t1, ← List.take_append_drop 24 (words1.drop 24), List.all_append, w_t2, ← List.take_append_drop 24 ((words1.drop 24).drop 24), List.all_append, w_t3, ← List.take_append_drop 24 (((words1.drop 24).drop 24).drop 24), List.all_append, w_t4, ← List.take_append_drop 24 ((((words1.drop 24).drop 24).drop 24).drop 24), List.all_append, w_t5, ← List.take_append_drop 24 (((((words1.drop 24).drop 24).drop 24).drop 24).drop 24), List.all_append, w_t6, w_t7]
  rfl
set_option maxRecDepth 65536 in
theorem w_rest : rest_1_c.before args0 about1 = true := by decide +kernel
set_option maxRecDepth 65536 in
theorem w_case : (Jvm.Cond.and given_1 narrow_1).before args0 about1 = true := by decide +kernel
theorem w_applies : (headSpec (Jvm.Cond.code x code maxLocals ret :: tables_1) room_1).applies x e0.platform about1 = true :=
  (Spec.applies_iff w_frames).mpr ⟨w_running, w_runnable, w_alone, w_named, w_hears, w_ripe, w_room, w_tables⟩
theorem atStart : AtStart classFile x code maxLocals ret World_1 tables_1 room_1 Calls_1 rest_1 Pre_1 launch0 p0 e0 about1 theMethod args0 below0 :=
  ⟨lists_1, trivial, launch0.admits_env _ _ _, launch0.least_env, fairChoices_fair.cas, fairChoices_fair.clock, w_frames, w_args, w_heap, w_applies, trivial, w_rest, w_case⟩
end start1
theorem witness_1 : WitnessClaimed_1 := ⟨start1.p0, start1.e0, start1.about1, start1.theMethod, start1.args0, start1.below0, start1.atStart⟩
end Jvm.Pilot.@@N@@
