import JvmDerived
import JvmDerived.Pilot.@@N@@Statement
import JvmDerived.Pilot.@@N@@Code
set_option linter.unusedVariables false
set_option linter.unusedSimpArgs false
set_option maxRecDepth 65536
set_option maxHeartbeats 4000000
/- laws to paste: Road.backV, Road.codOf (cut by pick.py; bodies as the Statement names them) -/
namespace Jvm.Pilot.@@N@@
namespace StrChars
open Jvm Sem ClassFile Op Lib Jvm.Stand Jvm.Free.XT Jvm.Free.ALB Jvm.Free.JM Jvm.Free
open Jvm.Lib.Cold (StaticIs)
/-- a char array whose places are chars -/
def Ch (a : Addr) (A : Cell) (U : State) : Prop := Arr .char a A U ∧ Typed .char A
theorem Ch.mv {a : Addr} {A : Cell} {U U' : State} (h : Ch a A U) (hal : U.vm.Alike U'.vm) (hh : U'.heap = U.heap) : Ch a A U' := ⟨h.1.mv hal hh, h.2⟩
theorem Ch.keep {a : Addr} {A : Cell} {U U' : State} (h : Ch a A U) (hal : U.vm.Alike U'.vm) (hk : U'.heap[a]? = some A) : Ch a A U' := ⟨h.1.keep hal hk, h.2⟩
/-- what place i of a char[]'s cell holds -/
def cv (A : Cell) (i : Nat) : Int32 := match A.slots[i]? with | some (.int x) => x | _ => 0
theorem Ch.get {a : Addr} {A : Cell} {U : State} (h : Ch a A U) {i : Nat} (hi : i < A.slots.size) : A.slots[i]? = some (.int (cv A i)) := by
  have e := Array.getElem?_eq_getElem hi
  have f := h.2 i _ e
  unfold cv; rw [e]
  generalize A.slots[i] = v at f
  cases v <;> simp [fits] at f ⊢
/-- the byte that i2b leaves of a char -/
def lo8 (x : Int32) : Int32 := x.toInt8.toInt32
theorem fits_lo8 (y : Int32) : fits .byte (.int (lo8 y)) = true := by
  have h1 := y.toInt8.le_toInt
  have h2 := y.toInt8.toInt_lt
  simp only [lo8, fits, Bool.and_eq_true, decide_eq_true_eq, Int32.le_iff_toInt_le, Int8.toInt_toInt32, show (-128 : Int32).toInt = -128 from by decide, show (127 : Int32).toInt = 127 from by decide]
  omega
/-- A' is A but that each place j of lo .. hi - 1 holds f j -/
def Laid (A A' : Cell) (lo hi : Nat) (f : Nat → Value) : Prop := A'.cls = A.cls ∧ A'.vm = A.vm ∧ A'.slots.size = A.slots.size ∧ ∀ i, A'.slots[i]? = if lo ≤ i ∧ i < hi then some (f i) else A.slots[i]?
theorem Laid.zero (A : Cell) (lo : Nat) (f : Nat → Value) : Laid A A lo (lo + 0) f := ⟨rfl, rfl, rfl, fun i => by rw [if_neg (by omega)]⟩
theorem Laid.step {A Ak : Cell} {lo k : Nat} {f : Nat → Value} {v : Value} (h : Laid A Ak lo k f) (hlo : lo ≤ k) (hk : k < Ak.slots.size) (hv : v = f k) : Laid A (Ak.setSlot k v) lo (k + 1) f := by
  refine ⟨h.1, h.2.1, by simpa [Cell.setSlot] using h.2.2.1, fun i => ?_⟩
  by_cases e : k = i
  · subst e; rw [Cell.slots_setSlot_self v hk, if_pos (by omega), hv]
  · rw [Cell.slots_setSlot_ne v e, h.2.2.2 i]
    by_cases q : lo ≤ i ∧ i < k
    · rw [if_pos q, if_pos (by omega)]
    · rw [if_neg q, if_neg (by omega)]
def U16 : String := "java/lang/StringUTF16"
namespace Cmp5
def yN : MethodName := ⟨"java/lang/StringUTF16", "compress", "([CI[BII)I"⟩
abbrev yB : ByteArray := jdk_52_method_21_code
theorem d0 : decode yB 0 = .ok (.iconst 0, 1) := by decide +kernel
theorem d1 : decode yB 1 = .ok (.istore 5, 2) := by decide +kernel
theorem d3 : decode yB 3 = .ok (.iload 5, 2) := by decide +kernel
theorem d5 : decode yB 5 = .ok (.iload 4, 2) := by decide +kernel
theorem d7 : decode yB 7 = .ok (.if_icmp (.ge) 37, 3) := by decide +kernel
theorem d10 : decode yB 10 = .ok (.aload_n 0, 1) := by decide +kernel
theorem d11 : decode yB 11 = .ok (.iload_n 1, 1) := by decide +kernel
theorem d12 : decode yB 12 = .ok (.caload, 1) := by decide +kernel
theorem d13 : decode yB 13 = .ok (.istore 6, 2) := by decide +kernel
theorem d15 : decode yB 15 = .ok (.iload 6, 2) := by decide +kernel
theorem d17 : decode yB 17 = .ok (.sipush 255, 3) := by decide +kernel
theorem d20 : decode yB 20 = .ok (.if_icmp (.le) 6, 3) := by decide +kernel
theorem d26 : decode yB 26 = .ok (.aload_n 2, 1) := by decide +kernel
theorem d27 : decode yB 27 = .ok (.iload_n 3, 1) := by decide +kernel
theorem d28 : decode yB 28 = .ok (.iload 6, 2) := by decide +kernel
theorem d30 : decode yB 30 = .ok (.i2b, 1) := by decide +kernel
theorem d31 : decode yB 31 = .ok (.bastore, 1) := by decide +kernel
theorem d32 : decode yB 32 = .ok (.iinc 1 1, 3) := by decide +kernel
theorem d35 : decode yB 35 = .ok (.iinc 3 1, 3) := by decide +kernel
theorem d38 : decode yB 38 = .ok (.iinc 5 1, 3) := by decide +kernel
theorem d41 : decode yB 41 = .ok (.goto (-38), 3) := by decide +kernel
theorem d44 : decode yB 44 = .ok (.iload 4, 2) := by decide +kernel
theorem d46 : decode yB 46 = .ok (.ireturn, 1) := by decide +kernel
def site : List Cond := []
def tab : Cond := tabOf yN yB 7 (some .int) site
def P (b : Addr) (A : Cell) (d : Addr) (B : Cell) (o q len : Nat) (args : Array Value) (s : State) : Prop := args = #[.ref b, .int (Int32.ofNat o), .ref d, .int (Int32.ofNat q), .int (Int32.ofNat len)] ∧ Ch b A s ∧ Arr .byte d B s ∧ b ≠ d ∧ o + len ≤ A.slots.size ∧ q + len ≤ B.slots.size ∧ ∀ i, i < len → ¬ 255 < cv A (o + i)
def E (b : Addr) (A : Cell) (d : Addr) (B : Cell) (o q len : Nat) (r : Option Value) (s u : State) : Prop := r = some (.int (Int32.ofNat len)) ∧ ∃ B', Put d B' s u ∧ Laid B B' q (q + len) (fun j => Value.int (lo8 (cv A (o + (j - q)))))
/-- no char of the range above 255: len; the places written hold each char's low byte -/
theorem law (l : Launch) (b : Addr) (A : Cell) (d : Addr) (B : Cell) (o q len : Nat) : Law l yN 5 5 0 0 yB 7 (some .int) site (P b A d B o q len) (E b A d B o q len) (copyLocs d q len) 0 0 := by
  refine Law.of_walk (plainFor_of_name (by decide +kernel)) (by decide +kernel) (by decide +kernel) (by decide) (fun _ _ h => by rw [h.1]; rfl) (fun _ U U' hal hh h => ⟨h.1, h.2.1.mv hal hh, h.2.2.1.mv hal hh, h.2.2.2⟩) (fun r U U' V V' h1 hal h2 h => ⟨h.1, h.2.elim fun B' q => ⟨B', q.1.mv h1 h2, q.2⟩⟩) ?_
  intro p e s m args below meth c s₁ X0 hexec hbytes hml hret hlk hnm hown hh0 W hP
  obtain ⟨rfl, hA, hB, hne, l1, l2, hp⟩ := hP
  have c1 : Steps p.tables e below (s₁.setTop (entryFrame m #[.ref b, .int (Int32.ofNat o), .ref d, .int (Int32.ofNat q), .int (Int32.ofNat len)] 7)) (s₁.setTop (mkF m 0 #[.val (.ref b), .val (.int (Int32.ofNat o)), .val (.ref d), .val (.int (Int32.ofNat q)), .val (.int (Int32.ofNat len)), .unset, .unset] [])) := entry rfl
  have hA0 := hA.1.mv X0.warmed.alike hh0
  have hB0 := hB.mv X0.warmed.alike hh0
  have a31 := hA.1.2.2.2
  have c2 : Steps p.tables e below (s₁.setTop (entryFrame m #[.ref b, .int (Int32.ofNat o), .ref d, .int (Int32.ofNat q), .int (Int32.ofNat len)] 7)) (s₁.setTop (mkF m 3 #[.val (.ref b), .val (.int (Int32.ofNat o)), .val (.ref d), .val (.int (Int32.ofNat q)), .val (.int (Int32.ofNat len)), .val (.int 0), .unset] [])) := c1.trans (by
    refine iconstV X0.here hexec rfl 0 (hb hbytes d0) (by decide) ?_
    refine XS.istore X0.here hexec rfl (hb hbytes d1) rfl rfl ?_
    exact Steps.refl _)
  have loop : ∀ (r i : Nat), i + r = len → ∀ (z : Slot), (z = .unset ∨ ∃ w, z = .val w ∧ w.category = 1) → ∀ (Tl : State) (Bk : Cell), Stand p l e { frames := 0, locals := 0, cells := 0, slots := 0 } s m #[.ref b, .int (Int32.ofNat o), .ref d, .int (Int32.ofNat q), .int (Int32.ofNat len)] below meth c Tl ([] ++ copyLocs d q i) 0 0 → Put d Bk s₁ Tl → Laid B Bk q (q + i) (fun j => Value.int (lo8 (cv A (o + (j - q))))) →
      Steps p.tables e below (s₁.setTop (entryFrame m #[.ref b, .int (Int32.ofNat o), .ref d, .int (Int32.ofNat q), .int (Int32.ofNat len)] 7)) (Tl.setTop (mkF m 3 #[.val (.ref b), .val (.int (Int32.ofNat (o + i))), .val (.ref d), .val (.int (Int32.ofNat (q + i))), .val (.int (Int32.ofNat len)), .val (.int (Int32.ofNat i)), z] [])) → ∃ (T' : State) (B' : Cell) (z' : Slot), Stand p l e { frames := 0, locals := 0, cells := 0, slots := 0 } s m #[.ref b, .int (Int32.ofNat o), .ref d, .int (Int32.ofNat q), .int (Int32.ofNat len)] below meth c T' ([] ++ copyLocs d q len) 0 0 ∧ Put d B' s₁ T' ∧ Laid B B' q (q + len) (fun j => Value.int (lo8 (cv A (o + (j - q))))) ∧
      Steps p.tables e below (s₁.setTop (entryFrame m #[.ref b, .int (Int32.ofNat o), .ref d, .int (Int32.ofNat q), .int (Int32.ofNat len)] 7)) (T'.setTop (mkF m 3 #[.val (.ref b), .val (.int (Int32.ofNat (o + len))), .val (.ref d), .val (.int (Int32.ofNat (q + len))), .val (.int (Int32.ofNat len)), .val (.int (Int32.ofNat len)), z'] [])) := by
    intro r
    induction r with
    | zero =>
      intro i hi z hz Tl Bk Xl pl fl cl
      have hil : i = len := by omega
      rw [hil] at Xl fl cl
      exact ⟨Tl, Bk, z, Xl, pl, fl, cl⟩
    | succ r ih =>
      intro i hi z hz Tl Bk Xl pl fl cl
      have all := X0.warmed.alike.symm.trans Xl.warmed.alike
      have hAl := hA0.keep all (pl.other hne hA0.1)
      have hBk := hB0.like all pl.1 fl.1 fl.2.1 fl.2.2.1
      have hlt : q + i < Bk.slots.size := by rw [fl.2.2.1]; omega
      have c3 : Steps p.tables e below (s₁.setTop (entryFrame m #[.ref b, .int (Int32.ofNat o), .ref d, .int (Int32.ofNat q), .int (Int32.ofNat len)] 7)) (Tl.setTop (mkF m 12 #[.val (.ref b), .val (.int (Int32.ofNat (o + i))), .val (.ref d), .val (.int (Int32.ofNat (q + i))), .val (.int (Int32.ofNat len)), .val (.int (Int32.ofNat i)), z] [.int (Int32.ofNat (o + i)), .ref b])) := cl.trans (by
        refine XS.iload Xl.here hexec rfl (hb hbytes d3) rfl ?_
        refine XS.iload Xl.here hexec rfl (hb hbytes d5) rfl ?_
        refine XS.icmpNo Xl.here hexec rfl (hb hbytes d7) rfl (ii_ge_f (lt32 (by omega) (by omega))) ?_
        refine XS.aloadN Xl.here hexec rfl (hb hbytes d10) rfl rfl ?_
        refine XS.iloadN Xl.here hexec rfl (hb hbytes d11) rfl ?_
        exact Steps.refl _)
      have c4 : Steps p.tables e below (s₁.setTop (entryFrame m #[.ref b, .int (Int32.ofNat o), .ref d, .int (Int32.ofNat q), .int (Int32.ofNat len)] 7)) (Tl.setTop (mkF m 13 #[.val (.ref b), .val (.int (Int32.ofNat (o + i))), .val (.ref d), .val (.int (Int32.ofNat (q + i))), .val (.int (Int32.ofNat len)), .val (.int (Int32.ofNat i)), z] [.int (cv A (o + i))])) := c3.trans (by
        refine Xl.aget hexec hAl rfl (hA.get (i := o + i) (by omega)) rfl rfl (hb hbytes d12) ?_
        exact Steps.refl _)
      have c5 : Steps p.tables e below (s₁.setTop (entryFrame m #[.ref b, .int (Int32.ofNat o), .ref d, .int (Int32.ofNat q), .int (Int32.ofNat len)] 7)) (Tl.setTop (mkF m 15 #[.val (.ref b), .val (.int (Int32.ofNat (o + i))), .val (.ref d), .val (.int (Int32.ofNat (q + i))), .val (.int (Int32.ofNat len)), .val (.int (Int32.ofNat i)), .val (.int (cv A (o + i)))] [])) := c4.trans (by
        refine XS.istoreS Xl.here hexec rfl (hb hbytes d13) rfl rfl hz ?_
        exact Steps.refl _)
      have c6 : Steps p.tables e below (s₁.setTop (entryFrame m #[.ref b, .int (Int32.ofNat o), .ref d, .int (Int32.ofNat q), .int (Int32.ofNat len)] 7)) (Tl.setTop (mkF m 31 #[.val (.ref b), .val (.int (Int32.ofNat (o + i))), .val (.ref d), .val (.int (Int32.ofNat (q + i))), .val (.int (Int32.ofNat len)), .val (.int (Int32.ofNat i)), .val (.int (cv A (o + i)))] [.int (lo8 (cv A (o + i))), .int (Int32.ofNat (q + i)), .ref d])) := c5.trans (by
        refine XS.iload Xl.here hexec rfl (hb hbytes d15) rfl ?_
        refine sipushV Xl.here hexec rfl 255 (hb hbytes d17) (by decide) ?_
        refine XS.icmpYes Xl.here hexec rfl (pc0 := 20) rfl (hb hbytes d20) rfl (ii_le_t (hp i (by omega))) (by decide) rfl ?_
        refine XS.aloadN Xl.here hexec rfl (hb hbytes d26) rfl rfl ?_
        refine XS.iloadN Xl.here hexec rfl (hb hbytes d27) rfl ?_
        refine XS.iload Xl.here hexec rfl (hb hbytes d28) rfl ?_
        refine i2b Xl.here hexec rfl (hb hbytes d30) rfl ?_
        exact Steps.refl _)
      obtain ⟨T7, X7, p7, st7⟩ := Xl.aput hexec hBk rfl hlt rfl (fits_lo8 (cv A (o + i))) (g := (mkF m 31 #[.val (.ref b), .val (.int (Int32.ofNat (o + i))), .val (.ref d), .val (.int (Int32.ofNat (q + i))), .val (.int (Int32.ofNat len)), .val (.int (Int32.ofNat i)), .val (.int (cv A (o + i)))] [.int (lo8 (cv A (o + i))), .int (Int32.ofNat (q + i)), .ref d])) rfl (rest := []) rfl (hb hbytes d31)
      have c8 : Steps p.tables e below (s₁.setTop (entryFrame m #[.ref b, .int (Int32.ofNat o), .ref d, .int (Int32.ofNat q), .int (Int32.ofNat len)] 7)) (T7.setTop (mkF m 32 #[.val (.ref b), .val (.int (Int32.ofNat (o + i))), .val (.ref d), .val (.int (Int32.ofNat (q + i))), .val (.int (Int32.ofNat len)), .val (.int (Int32.ofNat i)), .val (.int (cv A (o + i)))] [])) := c6.trans (st7 _ (Steps.refl _))
      have c9 : Steps p.tables e below (s₁.setTop (entryFrame m #[.ref b, .int (Int32.ofNat o), .ref d, .int (Int32.ofNat q), .int (Int32.ofNat len)] 7)) (T7.setTop (mkF m 3 #[.val (.ref b), .val (.int (Int32.ofNat (o + i) + 1)), .val (.ref d), .val (.int (Int32.ofNat (q + i) + 1)), .val (.int (Int32.ofNat len)), .val (.int (Int32.ofNat i + 1)), .val (.int (cv A (o + i)))] [])) := c8.trans (by
        refine iincV X7.here hexec rfl 1 (hb hbytes d32) (by decide) rfl rfl ?_
        refine iincV X7.here hexec rfl 1 (hb hbytes d35) (by decide) rfl rfl ?_
        refine iincV X7.here hexec rfl 1 (hb hbytes d38) (by decide) rfl rfl ?_
        refine XS.goto X7.here hexec rfl (pc0 := 41) rfl (hb hbytes d41) (by decide) rfl ?_
        exact Steps.refl _)
      have c10 : Steps p.tables e below (s₁.setTop (entryFrame m #[.ref b, .int (Int32.ofNat o), .ref d, .int (Int32.ofNat q), .int (Int32.ofNat len)] 7)) (T7.setTop (mkF m 3 #[.val (.ref b), .val (.int (Int32.ofNat (o + (i + 1)))), .val (.ref d), .val (.int (Int32.ofNat (q + (i + 1)))), .val (.int (Int32.ofNat len)), .val (.int (Int32.ofNat (i + 1))), .val (.int (cv A (o + i)))] [])) := by
        have := c9
        rw [succ32, succ32, succ32] at this
        exact this
      exact ih (i + 1) (by omega) _ (Or.inr ⟨_, rfl, rfl⟩) T7 _ (by rw [copyLocs_step, ← List.append_assoc]; exact X7) (pl.trans p7) (fl.step (by omega) hlt (by simp)) c10
  obtain ⟨T9, B9, z9, X9, p9, f9, g9⟩ := loop len 0 (by omega) .unset (Or.inl rfl) s₁ B (by simpa [copyLocs] using X0) ⟨hB0.1, fun _ _ => rfl, rfl⟩ (Laid.zero _ _ _) c2
  have c11 : Steps p.tables e below (s₁.setTop (entryFrame m #[.ref b, .int (Int32.ofNat o), .ref d, .int (Int32.ofNat q), .int (Int32.ofNat len)] 7)) (T9.setTop (mkF m 46 #[.val (.ref b), .val (.int (Int32.ofNat (o + len))), .val (.ref d), .val (.int (Int32.ofNat (q + len))), .val (.int (Int32.ofNat len)), .val (.int (Int32.ofNat len)), z9] [.int (Int32.ofNat len)])) := g9.trans (by
    refine XS.iload X9.here hexec rfl (hb hbytes d3) rfl ?_
    refine XS.iload X9.here hexec rfl (hb hbytes d5) rfl ?_
    refine XS.icmpYes X9.here hexec rfl (pc0 := 7) rfl (hb hbytes d7) rfl (ii_ge_t (nlt32 (by omega) (Nat.le_refl _))) (by decide) rfl ?_
    refine XS.iload X9.here hexec rfl (hb hbytes d44) rfl ?_
    exact Steps.refl _)
  exact ⟨T9, some (.int (Int32.ofNat len)), _, _, _, X9, by simp, rfl, rfl, (fun h => by cases h), ⟨rfl, B9, p9.from hh0, f9⟩, fun fs hl => c11.trans (X9.ireturnOut hexec hret rfl (Or.inl rfl) (hb hbytes d46) hl)⟩
end Cmp5
namespace Cmp3
def yN : MethodName := ⟨"java/lang/StringUTF16", "compress", "([CII)[B"⟩
abbrev yB : ByteArray := jdk_52_method_16_code
theorem d0 : decode yB 0 = .ok (.iload_n 2, 1) := by decide +kernel
theorem d1 : decode yB 1 = .ok (.newarray .byte, 2) := by decide +kernel
theorem d3 : decode yB 3 = .ok (.astore_n 3, 1) := by decide +kernel
theorem d4 : decode yB 4 = .ok (.aload_n 0, 1) := by decide +kernel
theorem d5 : decode yB 5 = .ok (.iload_n 1, 1) := by decide +kernel
theorem d6 : decode yB 6 = .ok (.aload_n 3, 1) := by decide +kernel
theorem d7 : decode yB 7 = .ok (.iconst 0, 1) := by decide +kernel
theorem d8 : decode yB 8 = .ok (.iload_n 2, 1) := by decide +kernel
theorem d9 : decode yB 9 = .ok (.invokestatic 115, 3) := by decide +kernel
theorem d12 : decode yB 12 = .ok (.istore 4, 2) := by decide +kernel
theorem d14 : decode yB 14 = .ok (.iload 4, 2) := by decide +kernel
theorem d16 : decode yB 16 = .ok (.iload_n 2, 1) := by decide +kernel
theorem d17 : decode yB 17 = .ok (.if_icmp (.eq) 40, 3) := by decide +kernel
theorem d57 : decode yB 57 = .ok (.aload_n 3, 1) := by decide +kernel
theorem d58 : decode yB 58 = .ok (.areturn, 1) := by decide +kernel
def site : List Cond := [.arrayClass .byte, Cmp5.tab] ++ staticW U16 115 Cmp5.yN
def tab : Cond := tabOf yN yB 6 (some (.array .byte)) site
def P (b : Addr) (A : Cell) (o len : Nat) (args : Array Value) (s : State) : Prop := args = #[.ref b, .int (Int32.ofNat o), .int (Int32.ofNat len)] ∧ Ch b A s ∧ o + len ≤ A.slots.size ∧ len ≤ 536870912 ∧ ∀ i, i < len → ¬ 255 < cv A (o + i)
def E (b : Addr) (A : Cell) (o len : Nat) (r : Option Value) (s u : State) : Prop := NewArr .byte "[B" len (fun j => .int (lo8 (cv A (o + j)))) r s u ∧ u.heap.size = s.heap.size + 1
/-- no char of the range above 255: a new byte[] of their low bytes -/
theorem law (l : Launch) (b : Addr) (A : Cell) (o len : Nat) : Law l yN 3 3 1 18 yB 6 (some (.array .byte)) site (P b A o len) (E b A o len) [] 1 len := by
  refine Law.of_walk (plainFor_of_name (by decide +kernel)) (by decide +kernel) (by decide +kernel) (by decide) (fun _ _ h => by rw [h.1]; rfl) (fun _ U U' hal hh h => ⟨h.1, h.2.1.mv hal hh, h.2.2⟩) (fun r U U' V V' h1 hal h2 h => ⟨NewArr.mv r U U' V V' h1 hal h2 h.1, by rw [h1, h2]; exact h.2⟩) ?_
  intro p e s m args below meth c s₁ X0 hexec hbytes hml hret hlk hnm hown hh0 W hP
  obtain ⟨rfl, hA, l1, l2, hp⟩ := hP
  have a31 := hA.1.2.2.2
  have c1 : Steps p.tables e below (s₁.setTop (entryFrame m #[.ref b, .int (Int32.ofNat o), .int (Int32.ofNat len)] 6)) (s₁.setTop (mkF m 0 #[.val (.ref b), .val (.int (Int32.ofNat o)), .val (.int (Int32.ofNat len)), .unset, .unset, .unset] [])) := entry rfl
  have c2 : Steps p.tables e below (s₁.setTop (entryFrame m #[.ref b, .int (Int32.ofNat o), .int (Int32.ofNat len)] 6)) (s₁.setTop (mkF m 1 #[.val (.ref b), .val (.int (Int32.ofNat o)), .val (.int (Int32.ofNat len)), .unset, .unset, .unset] [.int (Int32.ofNat len)])) := c1.trans (by
    refine XS.iloadN X0.here hexec rfl (hb hbytes d0) rfl ?_
    exact Steps.refl _)
  obtain ⟨T3, B3, X3, ba3, bs3, bv3, bh3, bf3, st3⟩ := X0.anew hexec (atype := .byte) (wk W (.arrayClass .byte)) rfl (by show len * 1 ≤ _; omega) (by omega) (g := (mkF m 1 #[.val (.ref b), .val (.int (Int32.ofNat o)), .val (.int (Int32.ofNat len)), .unset, .unset, .unset] [.int (Int32.ofNat len)])) rfl (hb hbytes d1) (rest := []) rfl (Nat.le_refl _) (by show 0 + len ≤ len; omega)
  rw [hh0] at ba3 st3
  have kp3 : XT.Kept s T3 := (XT.Kept.of_eq hh0).push bh3
  have hA3 := hA.keep X3.warmed.alike (kp3 _ _ hA.1.1)
  have hne : b ≠ s.heap.size := hA.1.ne
  have c4 : Steps p.tables e below (s₁.setTop (entryFrame m #[.ref b, .int (Int32.ofNat o), .int (Int32.ofNat len)] 6)) (T3.setTop (mkF m 3 #[.val (.ref b), .val (.int (Int32.ofNat o)), .val (.int (Int32.ofNat len)), .unset, .unset, .unset] [.ref s.heap.size])) := c2.trans (st3 _ (Steps.refl _))
  have c5 : Steps p.tables e below (s₁.setTop (entryFrame m #[.ref b, .int (Int32.ofNat o), .int (Int32.ofNat len)] 6)) (T3.setTop (mkF m 9 #[.val (.ref b), .val (.int (Int32.ofNat o)), .val (.int (Int32.ofNat len)), .val (.ref s.heap.size), .unset, .unset] [.int (Int32.ofNat len), .int 0, .ref s.heap.size, .int (Int32.ofNat o), .ref b])) := c4.trans (by
    refine XS.astoreN X3.here hexec rfl (hb hbytes d3) rfl rfl rfl ?_
    refine XS.aloadN X3.here hexec rfl (hb hbytes d4) rfl rfl ?_
    refine XS.iloadN X3.here hexec rfl (hb hbytes d5) rfl ?_
    refine XS.aloadN X3.here hexec rfl (hb hbytes d6) rfl rfl ?_
    refine iconstV X3.here hexec rfl 0 (hb hbytes d7) (by decide) ?_
    refine XS.iloadN X3.here hexec rfl (hb hbytes d8) rfl ?_
    exact Steps.refl _)
  obtain ⟨v6, T6, X6, E6, g6⟩ := X3.callS hexec (Cmp5.law l b A s.heap.size B3 o 0 len) hown (wks W (staticW U16 115 Cmp5.yN)) (wk W Cmp5.tab) (W := 0) (Nat.le_of_ble_eq_true rfl) (Nat.le_of_ble_eq_true rfl) (Nat.le_refl _) (by show 0 + len + 0 ≤ len; omega) (g := (mkF m 9 #[.val (.ref b), .val (.int (Int32.ofNat o)), .val (.int (Int32.ofNat len)), .val (.ref s.heap.size), .unset, .unset] [.int (Int32.ofNat len), .int (Int32.ofNat 0), .ref s.heap.size, .int (Int32.ofNat o), .ref b])) rfl (by rw [hml]; rfl) c5 (argsL := [.ref b, .int (Int32.ofNat o), .ref s.heap.size, .int (Int32.ofNat 0), .int (Int32.ofNat len)]) (rest := []) rfl rfl (by show 2 * 0 + 0 ≤ _; decide) (hb hbytes d9) (⟨rfl, hA3, ba3, hne, l1, by rw [bs3]; simp, hp⟩)
  obtain ⟨rfl, B6, p6, f6⟩ := E6
  have c7 : Steps p.tables e below (s₁.setTop (entryFrame m #[.ref b, .int (Int32.ofNat o), .int (Int32.ofNat len)] 6)) (T6.setTop (mkF m 12 #[.val (.ref b), .val (.int (Int32.ofNat o)), .val (.int (Int32.ofNat len)), .val (.ref s.heap.size), .unset, .unset] [.int (Int32.ofNat len)])) := g6
  have c8 : Steps p.tables e below (s₁.setTop (entryFrame m #[.ref b, .int (Int32.ofNat o), .int (Int32.ofNat len)] 6)) (T6.setTop (mkF m 58 #[.val (.ref b), .val (.int (Int32.ofNat o)), .val (.int (Int32.ofNat len)), .val (.ref s.heap.size), .val (.int (Int32.ofNat len)), .unset] [.ref s.heap.size])) := c7.trans (by
    refine XS.istore X6.here hexec rfl (hb hbytes d12) rfl rfl ?_
    refine XS.iload X6.here hexec rfl (hb hbytes d14) rfl ?_
    refine XS.iloadN X6.here hexec rfl (hb hbytes d16) rfl ?_
    refine XS.icmpYes X6.here hexec rfl (pc0 := 17) rfl (hb hbytes d17) rfl (ii_eq_t rfl) (by decide) rfl ?_
    refine XS.aloadN X6.here hexec rfl (hb hbytes d57) rfl rfl ?_
    exact Steps.refl _)
  have X8 := X6.wide (L' := []) (cells' := 1) (slots' := len) (fun x hx hlt => by
    simp only [List.nil_append, copyLocs, List.mem_map, List.mem_range] at hx
    obtain ⟨i, -, rfl⟩ := hx
    exact absurd hlt (Nat.lt_irrefl _)) (Nat.le_refl _) (by omega)
  exact ⟨T6, some (.ref s.heap.size), _, _, _, X8, rfl, rfl, rfl, (fun h => by cases h), ⟨⟨rfl, B6, ba3.like (X3.warmed.alike.symm.trans X6.warmed.alike) p6.1 f6.1 f6.2.1 f6.2.2.1, f6.2.1.trans bv3, by rw [X6.warmed.alike.findClass, f6.1]; exact bf3, by rw [f6.2.2.1, bs3]; simp, fun j hj => by rw [f6.2.2.2 j, if_pos (by omega)]; rfl, kp3.put p6 (Nat.le_refl _)⟩, by rw [p6.2.2, bh3, hh0]; simp⟩, fun fs hl => c8.trans (X8.areturnOut hexec rfl hret rfl (hb hbytes d58) hl)⟩
end Cmp3
namespace CodL
def yN : MethodName := ⟨"java/lang/StringUTF16", "coderFromArrayLen", "([BI)B"⟩
abbrev yB : ByteArray := jdk_52_method_15_code
theorem d0 : decode yB 0 = .ok (.iload_n 1, 1) := by decide +kernel
theorem d1 : decode yB 1 = .ok (.aload_n 0, 1) := by decide +kernel
theorem d2 : decode yB 2 = .ok (.arraylength, 1) := by decide +kernel
theorem d3 : decode yB 3 = .ok (.isub, 1) := by decide +kernel
theorem d4 : decode yB 4 = .ok (.bipush 31, 2) := by decide +kernel
theorem d6 : decode yB 6 = .ok (.iushr, 1) := by decide +kernel
theorem d7 : decode yB 7 = .ok (.i2b, 1) := by decide +kernel
theorem d8 : decode yB 8 = .ok (.ireturn, 1) := by decide +kernel
def site : List Cond := []
def tab : Cond := tabOf yN yB 2 (some .byte) site
def P (d : Addr) (B : Cell) (args : Array Value) (s : State) : Prop := args = #[.ref d, .int (Int32.ofNat B.slots.size)] ∧ Arr .byte d B s
def E (r : Option Value) (s u : State) : Prop := XT.PureE (some (.int 0)) r s u
/-- an array as long as the number of chars: LATIN1 -/
theorem law (l : Launch) (d : Addr) (B : Cell) : Law l yN 2 2 0 0 yB 2 (some .byte) site (P d B) E [] 0 0 := by
  refine Law.of_walk (plainFor_of_name (by decide +kernel)) (by decide +kernel) (by decide +kernel) (by decide) (fun _ _ h => by rw [h.1]; rfl) (fun _ U U' hal hh h => ⟨h.1, h.2.mv hal hh⟩) (fun r U U' V V' h1 hal h2 h => XT.PureE.mv r U U' V V' h1 hal h2 h) ?_
  intro p e s m args below meth c s₁ X0 hexec hbytes hml hret hlk hnm hown hh0 W hP
  obtain ⟨rfl, hB⟩ := hP
  have hB0 := hB.mv X0.warmed.alike hh0
  have c1 : Steps p.tables e below (s₁.setTop (entryFrame m #[.ref d, .int (Int32.ofNat B.slots.size)] 2)) (s₁.setTop (mkF m 0 #[.val (.ref d), .val (.int (Int32.ofNat B.slots.size))] [])) := entry rfl
  have c2 : Steps p.tables e below (s₁.setTop (entryFrame m #[.ref d, .int (Int32.ofNat B.slots.size)] 2)) (s₁.setTop (mkF m 2 #[.val (.ref d), .val (.int (Int32.ofNat B.slots.size))] [.ref d, .int (Int32.ofNat B.slots.size)])) := c1.trans (by
    refine XS.iloadN X0.here hexec rfl (hb hbytes d0) rfl ?_
    refine XS.aloadN X0.here hexec rfl (hb hbytes d1) rfl rfl ?_
    exact Steps.refl _)
  have c3 : Steps p.tables e below (s₁.setTop (entryFrame m #[.ref d, .int (Int32.ofNat B.slots.size)] 2)) (s₁.setTop (mkF m 8 #[.val (.ref d), .val (.int (Int32.ofNat B.slots.size))] [.int (lo8 (ushr (Int32.ofNat B.slots.size - Int32.ofNat B.slots.size) 31))])) := c2.trans (by
    refine X0.alen hexec hB0 rfl rfl (hb hbytes d2) ?_
    refine XS.isub X0.here hexec rfl (hb hbytes d3) rfl ?_
    refine bipushV X0.here hexec rfl 31 (hb hbytes d4) (by decide) ?_
    refine iushr X0.here hexec rfl (hb hbytes d6) rfl ?_
    refine i2b X0.here hexec rfl (hb hbytes d7) rfl ?_
    exact Steps.refl _)
  have e0 : lo8 (ushr (Int32.ofNat B.slots.size - Int32.ofNat B.slots.size) 31) = 0 := by rw [Int32.sub_self]; decide
  rw [e0] at c3
  exact ⟨s₁, some (.int 0), _, _, _, X0, rfl, rfl, rfl, (fun h => by cases h), ⟨rfl, hh0⟩, fun fs hl => c3.trans (X0.ireturnOut hexec hret rfl (Or.inr (Or.inr (Or.inl rfl))) (hb hbytes d8) hl)⟩
end CodL
/-- the String at a is Latin-1 over a new byte[] (the heap's one new cell): the low bytes of the len chars of A from o on; every cell but a is kept -/
def Got (a : Addr) (D : Cell) (fV fC : Field) (A : Cell) (o len : Nat) (r : Option Value) (s u : State) : Prop := r = none ∧ ∃ D' V : Cell, Blank "java/lang/String" a D' u ∧ Same D D' [fV.slot, fC.slot] ∧ D'.slots[fV.slot]? = some (.ref s.heap.size) ∧ D'.slots[fC.slot]? = some (.int 0) ∧ Arr .byte s.heap.size V u ∧ V.vm = .none ∧ u.vm.findClass "[B" = some V.cls ∧ V.slots.size = len ∧ (∀ j, j < len → V.slots[j]? = some (.int (lo8 (cv A (o + j))))) ∧ (∀ (y : Addr) (c : Cell), y ≠ a → s.heap[y]? = some c → u.heap[y]? = some c) ∧ u.heap.size = s.heap.size + 1
theorem Got.mv {a : Addr} {D A : Cell} {fV fC : Field} {o len : Nat} : ∀ r (U U' V V' : State), U'.heap = U.heap → V.vm.Alike V'.vm → V'.heap = V.heap → Got a D fV fC A o len r U V → Got a D fV fC A o len r U' V' :=
  fun r U U' V V' h1 hal h2 ⟨e0, D', X, a1, a2, a3, a4, a5, a6, a7, a8, a9, a10, a11⟩ => ⟨e0, D', X, a1.mv hal h2, a2, by rw [h1]; exact a3, a4, by rw [h1]; exact a5.mv hal h2, a6, by rw [hal.findClass]; exact a7, a8, a9, by rw [h1, h2]; exact a10, by rw [h1, h2]; exact a11⟩
namespace New4
def yN : MethodName := ⟨"java/lang/String", "<init>", "([CIILjava/lang/Void;)V"⟩
abbrev yB : ByteArray := jdk_42_method_149_code
theorem d0 : decode yB 0 = .ok (.aload_n 0, 1) := by decide +kernel
theorem d1 : decode yB 1 = .ok (.invokespecial 1, 3) := by decide +kernel
theorem d4 : decode yB 4 = .ok (.iload_n 3, 1) := by decide +kernel
theorem d5 : decode yB 5 = .ok (.ifCond (.ne) 22, 3) := by decide +kernel
theorem d27 : decode yB 27 = .ok (.getstatic 38, 3) := by decide +kernel
theorem d30 : decode yB 30 = .ok (.ifCond (.eq) 28, 3) := by decide +kernel
theorem d33 : decode yB 33 = .ok (.aload_n 1, 1) := by decide +kernel
theorem d34 : decode yB 34 = .ok (.iload_n 2, 1) := by decide +kernel
theorem d35 : decode yB 35 = .ok (.iload_n 3, 1) := by decide +kernel
theorem d36 : decode yB 36 = .ok (.invokestatic 177, 3) := by decide +kernel
theorem d39 : decode yB 39 = .ok (.astore 5, 2) := by decide +kernel
theorem d41 : decode yB 41 = .ok (.aload_n 0, 1) := by decide +kernel
theorem d42 : decode yB 42 = .ok (.aload 5, 2) := by decide +kernel
theorem d44 : decode yB 44 = .ok (.iload_n 3, 1) := by decide +kernel
theorem d45 : decode yB 45 = .ok (.invokestatic 47, 3) := by decide +kernel
theorem d48 : decode yB 48 = .ok (.putfield 15, 3) := by decide +kernel
theorem d51 : decode yB 51 = .ok (.aload_n 0, 1) := by decide +kernel
theorem d52 : decode yB 52 = .ok (.aload 5, 2) := by decide +kernel
theorem d54 : decode yB 54 = .ok (.putfield 9, 3) := by decide +kernel
theorem d57 : decode yB 57 = .ok (.return_, 1) := by decide +kernel
def site : List Cond := [.fieldLink "java/lang/String" 38 "java/lang/String" "COMPACT_STRINGS" "Z", Cmp3.tab, CodL.tab, .laysFinal "java/lang/String" "java/lang/String" "value" "[B", .fieldLink "java/lang/String" 9 "java/lang/String" "value" "[B", .laysFinal "java/lang/String" "java/lang/String" "coder" "B", .fieldLink "java/lang/String" 15 "java/lang/String" "coder" "B"] ++ objW "java/lang/String" 1 ++ staticW "java/lang/String" 177 Cmp3.yN ++ staticW "java/lang/String" 47 CodL.yN
def tab : Cond := tabOf yN yB 6 none site
def P (a : Addr) (D : Cell) (fV fC : Field) (b : Addr) (A : Cell) (z : Int32) (o len : Nat) (args : Array Value) (s : State) : Prop := args = #[.ref a, .ref b, .int (Int32.ofNat o), .int (Int32.ofNat len), .null] ∧ Blank "java/lang/String" a D s ∧ Found "java/lang/String" "value" "[B" fV s ∧ Found "java/lang/String" "coder" "B" fC s ∧ Ch b A s ∧ StaticIs s "java/lang/String" "COMPACT_STRINGS" "Z" (.int z) ∧ ¬ z = 0 ∧ 0 < len ∧ o + len ≤ A.slots.size ∧ len ≤ 536870912 ∧ ∀ i, i < len → ¬ 255 < cv A (o + i)
def E (a : Addr) (D : Cell) (fV fC : Field) (A : Cell) (o len : Nat) (r : Option Value) (s u : State) : Prop := Got a D fV fC A o len r s u
/-- len > 0, no char of the range above 255: a Latin-1 String of their low bytes -/
theorem law (l : Launch) (a : Addr) (D : Cell) (fV fC : Field) (b : Addr) (A : Cell) (z : Int32) (o len : Nat) : Law l yN 5 4 2 35 yB 6 none site (P a D fV fC b A z o len) (E a D fV fC A o len) [⟨a, fC.slot⟩, ⟨a, fV.slot⟩] 1 len := by
  refine Law.of_walk (plainFor_of_name (by decide +kernel)) (by decide +kernel) (by decide +kernel) (by decide) (fun _ _ h => by rw [h.1]; rfl) (fun _ U U' hal hh h => ⟨h.1, h.2.1.mv hal hh, h.2.2.1.al hal, h.2.2.2.1.al hal, h.2.2.2.2.1.mv hal hh, h.2.2.2.2.2.1.there hal hh, h.2.2.2.2.2.2⟩) (fun r U U' V V' h1 hal h2 h => Got.mv r U U' V V' h1 hal h2 h) ?_
  intro p e s m args below meth c s₁ X0 hexec hbytes hml hret hlk hnm hown hh0 W hP
  obtain ⟨rfl, hB, f1, f2, hA, s1, hz, l0, l1, l2, hp⟩ := hP
  have a31 := hA.1.2.2.2
  have c1 : Steps p.tables e below (s₁.setTop (entryFrame m #[.ref a, .ref b, .int (Int32.ofNat o), .int (Int32.ofNat len), .null] 6)) (s₁.setTop (mkF m 0 #[.val (.ref a), .val (.ref b), .val (.int (Int32.ofNat o)), .val (.int (Int32.ofNat len)), .val .null, .unset] [])) := entry rfl
  have c2 : Steps p.tables e below (s₁.setTop (entryFrame m #[.ref a, .ref b, .int (Int32.ofNat o), .int (Int32.ofNat len), .null] 6)) (s₁.setTop (mkF m 1 #[.val (.ref a), .val (.ref b), .val (.int (Int32.ofNat o)), .val (.int (Int32.ofNat len)), .val .null, .unset] [.ref a])) := c1.trans (by
    refine XS.aloadN X0.here hexec rfl (hb hbytes d0) rfl rfl ?_
    exact Steps.refl _)
  obtain ⟨T3, X3, q3, st3⟩ := X0.oinit hexec hown (wks W (objW "java/lang/String" 1)) (g := (mkF m 1 #[.val (.ref a), .val (.ref b), .val (.int (Int32.ofNat o)), .val (.int (Int32.ofNat len)), .val .null, .unset] [.ref a])) rfl (by rw [hml]; rfl) (rest := []) rfl (hb hbytes d1) (W := 0) (by show 2 * 0 + 0 ≤ _; decide) (Nat.le_of_ble_eq_true rfl) (Nat.le_of_ble_eq_true rfl)
  have hh3 := q3.trans hh0
  have c4 : Steps p.tables e below (s₁.setTop (entryFrame m #[.ref a, .ref b, .int (Int32.ofNat o), .int (Int32.ofNat len), .null] 6)) (T3.setTop (mkF m 27 #[.val (.ref a), .val (.ref b), .val (.int (Int32.ofNat o)), .val (.int (Int32.ofNat len)), .val .null, .unset] [])) := (c2.trans (st3 _ (Steps.refl _))).trans (by
    refine XS.iloadN X3.here hexec rfl (hb hbytes d4) rfl ?_
    refine XS.ifYes X3.here hexec rfl (pc0 := 5) rfl (hb hbytes d5) rfl (i0_ne_t (nz32 (by omega) l0)) (by decide) rfl ?_
    exact Steps.refl _)
  obtain ⟨T5, X5, q5, st5⟩ := X3.sget hexec hown (wk W (.fieldLink "java/lang/String" 38 "java/lang/String" "COMPACT_STRINGS" "Z")) s1 (fun _ _ h => by rw [hh3]; exact h) (g := (mkF m 27 #[.val (.ref a), .val (.ref b), .val (.int (Int32.ofNat o)), .val (.int (Int32.ofNat len)), .val .null, .unset] [])) rfl (hb hbytes d27)
  have hh5 := q5.trans hh3
  have c6 : Steps p.tables e below (s₁.setTop (entryFrame m #[.ref a, .ref b, .int (Int32.ofNat o), .int (Int32.ofNat len), .null] 6)) (T5.setTop (mkF m 30 #[.val (.ref a), .val (.ref b), .val (.int (Int32.ofNat o)), .val (.int (Int32.ofNat len)), .val .null, .unset] [.int z])) := c4.trans (st5 _ (Steps.refl _))
  have c7 : Steps p.tables e below (s₁.setTop (entryFrame m #[.ref a, .ref b, .int (Int32.ofNat o), .int (Int32.ofNat len), .null] 6)) (T5.setTop (mkF m 36 #[.val (.ref a), .val (.ref b), .val (.int (Int32.ofNat o)), .val (.int (Int32.ofNat len)), .val .null, .unset] [.int (Int32.ofNat len), .int (Int32.ofNat o), .ref b])) := c6.trans (by
    refine XS.ifNo X5.here hexec rfl (hb hbytes d30) rfl (i0_eq_f hz) ?_
    refine XS.aloadN X5.here hexec rfl (hb hbytes d33) rfl rfl ?_
    refine XS.iloadN X5.here hexec rfl (hb hbytes d34) rfl ?_
    refine XS.iloadN X5.here hexec rfl (hb hbytes d35) rfl ?_
    exact Steps.refl _)
  obtain ⟨v8, T8, X8, E8, g8⟩ := X5.callS hexec (Cmp3.law l b A o len) hown (wks W (staticW "java/lang/String" 177 Cmp3.yN)) (wk W Cmp3.tab) (W := 0) (Nat.le_of_ble_eq_true rfl) (Nat.le_of_ble_eq_true rfl) (Nat.le_refl _) (by show 0 + len ≤ len; omega) (g := (mkF m 36 #[.val (.ref a), .val (.ref b), .val (.int (Int32.ofNat o)), .val (.int (Int32.ofNat len)), .val .null, .unset] [.int (Int32.ofNat len), .int (Int32.ofNat o), .ref b])) rfl (by rw [hml]; rfl) c7 (argsL := [.ref b, .int (Int32.ofNat o), .int (Int32.ofNat len)]) (rest := []) rfl rfl (by show 2 * 0 + 0 ≤ _; decide) (hb hbytes d36) (⟨rfl, hA.mv X5.warmed.alike hh5, l1, l2, hp⟩)
  obtain ⟨e8, z8⟩ := E8
  obtain ⟨rfl, N, n1, n2, n3, n4, n5, n6⟩ := NewArr.mv _ T5 s _ _ hh5.symm (Vm.Alike.refl _) rfl e8
  rw [hh5] at z8
  have hB1 := hB.keep X8.warmed.alike (n6 _ _ hB.1)
  have hne : s.heap.size ≠ a := (Nat.ne_of_lt (Array.getElem?_eq_some_iff.mp hB.1).1).symm
  have c9 : Steps p.tables e below (s₁.setTop (entryFrame m #[.ref a, .ref b, .int (Int32.ofNat o), .int (Int32.ofNat len), .null] 6)) (T8.setTop (mkF m 39 #[.val (.ref a), .val (.ref b), .val (.int (Int32.ofNat o)), .val (.int (Int32.ofNat len)), .val .null, .unset] [.ref s.heap.size])) := g8
  have c10 : Steps p.tables e below (s₁.setTop (entryFrame m #[.ref a, .ref b, .int (Int32.ofNat o), .int (Int32.ofNat len), .null] 6)) (T8.setTop (mkF m 45 #[.val (.ref a), .val (.ref b), .val (.int (Int32.ofNat o)), .val (.int (Int32.ofNat len)), .val .null, .val (.ref s.heap.size)] [.int (Int32.ofNat N.slots.size), .ref s.heap.size, .ref a])) := by
    have hc : Steps p.tables e below (s₁.setTop (entryFrame m #[.ref a, .ref b, .int (Int32.ofNat o), .int (Int32.ofNat len), .null] 6)) (T8.setTop (mkF m 45 #[.val (.ref a), .val (.ref b), .val (.int (Int32.ofNat o)), .val (.int (Int32.ofNat len)), .val .null, .val (.ref s.heap.size)] [.int (Int32.ofNat len), .ref s.heap.size, .ref a])) := c9.trans (by
      refine XS.astore X8.here hexec rfl (hb hbytes d39) rfl rfl rfl ?_
      refine XS.aloadN X8.here hexec rfl (hb hbytes d41) rfl rfl ?_
      refine XS.aload X8.here hexec rfl (hb hbytes d42) rfl rfl ?_
      refine XS.iloadN X8.here hexec rfl (hb hbytes d44) rfl ?_
      exact Steps.refl _)
    rw [n4]; exact hc
  obtain ⟨v11, T11, X11, E11, g11⟩ := X8.callS hexec (CodL.law l s.heap.size N) hown (wks W (staticW "java/lang/String" 47 CodL.yN)) (wk W CodL.tab) (W := 1) (Nat.le_of_ble_eq_true rfl) (Nat.le_of_ble_eq_true rfl) (Nat.le_refl _) (by show 0 + len + 0 ≤ len; omega) (g := (mkF m 45 #[.val (.ref a), .val (.ref b), .val (.int (Int32.ofNat o)), .val (.int (Int32.ofNat len)), .val .null, .val (.ref s.heap.size)] [.int (Int32.ofNat N.slots.size), .ref s.heap.size, .ref a])) rfl (by rw [hml]; rfl) c10 (argsL := [.ref s.heap.size, .int (Int32.ofNat N.slots.size)]) (rest := [.ref a]) rfl rfl (by show 2 * 0 + (1 + 0) ≤ _; decide) (hb hbytes d45) (⟨rfl, n1⟩)
  obtain ⟨rfl, q11⟩ := E11
  have hB11 := hB1.mv (X8.warmed.alike.symm.trans X11.warmed.alike) q11
  have c12 : Steps p.tables e below (s₁.setTop (entryFrame m #[.ref a, .ref b, .int (Int32.ofNat o), .int (Int32.ofNat len), .null] 6)) (T11.setTop (mkF m 48 #[.val (.ref a), .val (.ref b), .val (.int (Int32.ofNat o)), .val (.int (Int32.ofNat len)), .val .null, .val (.ref s.heap.size)] [.int 0, .ref a])) := g11
  obtain ⟨T13, X13, p13, bl13, sl13, st13⟩ := X11.finit hexec hown (wk W (.fieldLink "java/lang/String" 15 "java/lang/String" "coder" "B")) (Or.inr ⟨_, (wk W (.laysFinal "java/lang/String" "java/lang/String" "coder" "B"))⟩) (Or.inl ⟨rfl, hnm⟩) f2 (Or.inl rfl) hB11 (t := .byte) (by decide +kernel) rfl (g := (mkF m 48 #[.val (.ref a), .val (.ref b), .val (.int (Int32.ofNat o)), .val (.int (Int32.ofNat len)), .val .null, .val (.ref s.heap.size)] [.int 0, .ref a])) rfl (rest := []) rfl (hb hbytes d48)
  have c14 : Steps p.tables e below (s₁.setTop (entryFrame m #[.ref a, .ref b, .int (Int32.ofNat o), .int (Int32.ofNat len), .null] 6)) (T13.setTop (mkF m 54 #[.val (.ref a), .val (.ref b), .val (.int (Int32.ofNat o)), .val (.int (Int32.ofNat len)), .val .null, .val (.ref s.heap.size)] [.ref s.heap.size, .ref a])) := (c12.trans (st13 _ (Steps.refl _))).trans (by
    refine XS.aloadN X13.here hexec rfl (hb hbytes d51) rfl rfl ?_
    refine XS.aload X13.here hexec rfl (hb hbytes d52) rfl rfl ?_
    exact Steps.refl _)
  obtain ⟨T15, X15, p15, bl15, sl15, st15⟩ := X13.finit hexec hown (wk W (.fieldLink "java/lang/String" 9 "java/lang/String" "value" "[B")) (Or.inr ⟨_, (wk W (.laysFinal "java/lang/String" "java/lang/String" "value" "[B"))⟩) (Or.inl ⟨rfl, hnm⟩) f1 (Or.inl rfl) bl13 (t := (.array .byte)) (by decide +kernel) rfl (g := (mkF m 54 #[.val (.ref a), .val (.ref b), .val (.int (Int32.ofNat o)), .val (.int (Int32.ofNat len)), .val .null, .val (.ref s.heap.size)] [.ref s.heap.size, .ref a])) rfl (rest := []) rfl (hb hbytes d54)
  have c16 : Steps p.tables e below (s₁.setTop (entryFrame m #[.ref a, .ref b, .int (Int32.ofNat o), .int (Int32.ofNat len), .null] 6)) (T15.setTop (mkF m 57 #[.val (.ref a), .val (.ref b), .val (.int (Int32.ofNat o)), .val (.int (Int32.ofNat len)), .val .null, .val (.ref s.heap.size)] [])) := c14.trans (st15 _ (Steps.refl _))
  have ap := apart (Or.inr ⟨_, (wk W (.laysFinal "java/lang/String" "java/lang/String" "value" "[B"))⟩) (Or.inr ⟨_, (wk W (.laysFinal "java/lang/String" "java/lang/String" "coder" "B"))⟩) f1 f2 (t₁ := .array .byte) (t₂ := .byte) (by decide +kernel) (by decide +kernel) (by decide)
  have al := X8.warmed.alike.symm.trans X15.warmed.alike
  have n7 : T11.heap[s.heap.size]? = some N := by rw [q11]; exact n1.1
  exact ⟨T15, none, _, _, _, X15, by simp, rfl, by omega, (fun _ => rfl), ⟨rfl, _, N, bl15, ((Same.refl D _).set _ (by simp)).set _ (by simp), sl15, (Cell.slots_setSlot_ne _ ap).trans sl13, n1.keep al (p15.other hne (p13.other hne n7)), n2, by rw [al.findClass]; exact n3, n4, n5, fun y c h1 h2 => p15.other h1 (p13.other h1 (by rw [q11]; exact n6 y c h2)), by rw [p15.2.2, p13.2.2, q11]; exact z8⟩, fun fs hl => c16.trans (X15.returnOut hexec hret (hb hbytes d57) hl)⟩
end New4
namespace New1
def yN : MethodName := ⟨"java/lang/String", "<init>", "([C)V"⟩
abbrev yB : ByteArray := jdk_42_method_3_code
theorem d0 : decode yB 0 = .ok (.aload_n 0, 1) := by decide +kernel
theorem d1 : decode yB 1 = .ok (.aload_n 1, 1) := by decide +kernel
theorem d2 : decode yB 2 = .ok (.iconst 0, 1) := by decide +kernel
theorem d3 : decode yB 3 = .ok (.aload_n 1, 1) := by decide +kernel
theorem d4 : decode yB 4 = .ok (.arraylength, 1) := by decide +kernel
theorem d5 : decode yB 5 = .ok (.aconst_null, 1) := by decide +kernel
theorem d6 : decode yB 6 = .ok (.invokespecial 27, 3) := by decide +kernel
theorem d9 : decode yB 9 = .ok (.return_, 1) := by decide +kernel
def site : List Cond := [New4.tab] ++ initW "java/lang/String" 27 New4.yN
def tab : Cond := tabOf yN yB 2 none site
def P (a : Addr) (D : Cell) (fV fC : Field) (b : Addr) (A : Cell) (z : Int32) (args : Array Value) (s : State) : Prop := args = #[.ref a, .ref b] ∧ Blank "java/lang/String" a D s ∧ Found "java/lang/String" "value" "[B" fV s ∧ Found "java/lang/String" "coder" "B" fC s ∧ Ch b A s ∧ StaticIs s "java/lang/String" "COMPACT_STRINGS" "Z" (.int z) ∧ ¬ z = 0 ∧ 0 < A.slots.size ∧ A.slots.size ≤ 536870912 ∧ ∀ i, i < A.slots.size → ¬ 255 < cv A i
def E (a : Addr) (D : Cell) (fV fC : Field) (A : Cell) (r : Option Value) (s u : State) : Prop := Got a D fV fC A 0 A.slots.size r s u
/-- new String(chars), not empty, no char above 255: a Latin-1 String of their low bytes -/
theorem law (l : Launch) (a : Addr) (D : Cell) (fV fC : Field) (b : Addr) (A : Cell) (z : Int32) : Law l yN 2 1 3 52 yB 2 none site (P a D fV fC b A z) (E a D fV fC A) [⟨a, fC.slot⟩, ⟨a, fV.slot⟩] 1 A.slots.size := by
  refine Law.of_walk (plainFor_of_name (by decide +kernel)) (by decide +kernel) (by decide +kernel) (by decide) (fun _ _ h => by rw [h.1]; rfl) (fun _ U U' hal hh h => ⟨h.1, h.2.1.mv hal hh, h.2.2.1.al hal, h.2.2.2.1.al hal, h.2.2.2.2.1.mv hal hh, h.2.2.2.2.2.1.there hal hh, h.2.2.2.2.2.2⟩) (fun r U U' V V' h1 hal h2 h => Got.mv r U U' V V' h1 hal h2 h) ?_
  intro p e s m args below meth c s₁ X0 hexec hbytes hml hret hlk hnm hown hh0 W hP
  obtain ⟨rfl, hB, f1, f2, hA, s1, hz, l0, l2, hp⟩ := hP
  have c1 : Steps p.tables e below (s₁.setTop (entryFrame m #[.ref a, .ref b] 2)) (s₁.setTop (mkF m 0 #[.val (.ref a), .val (.ref b)] [])) := entry rfl
  have c2 : Steps p.tables e below (s₁.setTop (entryFrame m #[.ref a, .ref b] 2)) (s₁.setTop (mkF m 6 #[.val (.ref a), .val (.ref b)] [.null, .int (Int32.ofNat A.slots.size), .int 0, .ref b, .ref a])) := c1.trans (by
    refine XS.aloadN X0.here hexec rfl (hb hbytes d0) rfl rfl ?_
    refine XS.aloadN X0.here hexec rfl (hb hbytes d1) rfl rfl ?_
    refine iconstV X0.here hexec rfl 0 (hb hbytes d2) (by decide) ?_
    refine XS.aloadN X0.here hexec rfl (hb hbytes d3) rfl rfl ?_
    refine X0.alen hexec (hA.1.mv X0.warmed.alike hh0) rfl rfl (hb hbytes d4) ?_
    refine XS.aconstNull X0.here hexec rfl (hb hbytes d5) ?_
    exact Steps.refl _)
  obtain ⟨v3, T3, X3, E3, g3⟩ := X0.callN hexec (New4.law l a D fV fC b A z 0 A.slots.size) rfl hown (wks W (initW "java/lang/String" 27 New4.yN)) (W New4.tab (by simp only [site, List.mem_cons, List.mem_append, true_or, or_true])) (W := 0) (Nat.le_of_ble_eq_true rfl) (Nat.le_of_ble_eq_true rfl) (Nat.le_refl _) (by show 0 + A.slots.size ≤ A.slots.size; omega) (g := (mkF m 6 #[.val (.ref a), .val (.ref b)] [.null, .int (Int32.ofNat A.slots.size), .int (Int32.ofNat 0), .ref b, .ref a])) rfl (by rw [hml]; rfl) c2 (argsL := [.ref b, .int (Int32.ofNat 0), .int (Int32.ofNat A.slots.size), .null]) (rest := []) rfl rfl (by show 2 * 0 + 0 ≤ _; decide) (hb hbytes d6) (⟨rfl, hB.mv X0.warmed.alike hh0, f1.al X0.warmed.alike, f2.al X0.warmed.alike, hA.mv X0.warmed.alike hh0, s1.there X0.warmed.alike hh0, hz, l0, by omega, l2, fun i hi => by rw [Nat.zero_add]; exact hp i hi⟩)
  have e0 := Got.mv _ s₁ s _ _ hh0.symm (Vm.Alike.refl _) rfl E3
  obtain rfl := e0.1
  have c4 : Steps p.tables e below (s₁.setTop (entryFrame m #[.ref a, .ref b] 2)) (T3.setTop (mkF m 9 #[.val (.ref a), .val (.ref b)] [])) := g3
  exact ⟨T3, none, _, _, _, X3, by simp, rfl, by omega, (fun _ => rfl), e0, fun fs hl => c4.trans (X3.returnOut hexec hret (hb hbytes d9) hl)⟩
theorem pays {l : Launch} {R : Room} {p : Program} {e : Env} {below : List Frame} {s : State} {sargs : Array Value} {len W : Nat} (a : Addr) (D : Cell) (fV fC : Field) (b : Addr) (A : Cell) (z : Int32) (htab : tab.before sargs s = true) (hfr : 4 ≤ R.frames) (hlo : W + 65 ≤ R.locals) :
    Back l R p e below s sargs yN len W (fun A₁ a₁ => A₁.cells + 1 ≤ R.cells ∧ A₁.slots + A.slots.size ≤ R.slots ∧ P a D fV fC b A z a₁ A₁.U) (fun A₁ _ v₁ B₁ => E a D fV fC A v₁ A₁.U B₁.U ∧ B₁.locs = A₁.locs ++ [⟨a, fC.slot⟩, ⟨a, fV.slot⟩] ∧ B₁.cells = A₁.cells + 1 ∧ B₁.slots = A₁.slots + A.slots.size) :=
  (law l a D fV fC b A z).pays htab hfr (by omega)
end New1
end StrChars
namespace StrChars.Road
open Jvm Sem ClassFile Op Lib Jvm.Stand Jvm.Free Jvm.Free.XT
open Jvm.Lib.Cold (StaticIs)
abbrev ST : String := "java/lang/String"
/-- every table word that New1's law asks, flat -/
abbrev words : List Jvm.Cond := [.code New1.yN New1.yB 2 none, .initialized ST, .methodLink ST 27 New4.yN, .instanceMethod New4.yN,
  .code New4.yN New4.yB 6 none, .fieldLink ST 38 ST "COMPACT_STRINGS" "Z", .laysFinal ST ST "value" "[B", .fieldLink ST 9 ST "value" "[B", .laysFinal ST ST "coder" "B", .fieldLink ST 15 ST "coder" "B",
  .methodLink ST 1 Lib.objectInit, .instanceMethod Lib.objectInit, .code Lib.objectInit ⟨#[0xb1]⟩ 1 none, .methodLink ST 177 Cmp3.yN, .static Cmp3.yN, .methodLink ST 47 CodL.yN, .static CodL.yN,
  .code Cmp3.yN Cmp3.yB 6 (some (.array .byte)), .initialized U16, .arrayClass .byte, .methodLink U16 115 Cmp5.yN, .static Cmp5.yN, .code Cmp5.yN Cmp5.yB 7 (some .int), .code CodL.yN CodL.yB 2 (some .byte)]
theorem tab_of {a : Array Value} {s : State} (h : ∀ w ∈ words, w.before a s = true) : New1.tab.before a s = true := by
  have h5 : Cmp5.tab.before a s = true := unparts (wk h (.code Cmp5.yN Cmp5.yB 7 (some .int))) (wks h (.initialized Cmp5.yN.cls :: Cmp5.site))
  have hc : CodL.tab.before a s = true := unparts (wk h (.code CodL.yN CodL.yB 2 (some .byte))) (wks h (.initialized CodL.yN.cls :: CodL.site))
  have q5 : ∀ w ∈ Cmp5.tab :: words, w.before a s = true := fun w hw => (List.mem_cons.mp hw).elim (fun e => e ▸ h5) (h w)
  have h3 : Cmp3.tab.before a s = true := unparts (wk q5 (.code Cmp3.yN Cmp3.yB 6 (some (.array .byte)))) (wks q5 (.initialized Cmp3.yN.cls :: Cmp3.site))
  have q3 : ∀ w ∈ Cmp3.tab :: CodL.tab :: words, w.before a s = true := fun w hw => (List.mem_cons.mp hw).elim (fun e => e ▸ h3) fun hw => (List.mem_cons.mp hw).elim (fun e => e ▸ hc) (h w)
  have h4 : New4.tab.before a s = true := unparts (wk q3 (.code New4.yN New4.yB 6 none)) (wks q3 (.initialized New4.yN.cls :: New4.site))
  have q4 : ∀ w ∈ New4.tab :: words, w.before a s = true := fun w hw => (List.mem_cons.mp hw).elim (fun e => e ▸ h4) (h w)
  exact unparts (wk q4 (.code New1.yN New1.yB 2 none)) (wks q4 (.initialized New1.yN.cls :: New1.site))
/-- the words ride from the start Z to the walk's own state -/
theorem moved {Z s : State} {a0 args : Array Value} (hZ : Z.Warmed39 s.vm) (hw : ∀ d ∈ words, d.before a0 Z = true) : ∀ d ∈ words, d.before args s = true := fun d hd => by
  have q := hw d hd
  have t : ∀ d ∈ words, d = .arrayClass .byte ∨ (d.onTables && d.keepsFace) = true := by decide +kernel
  rcases t d hd with rfl | t
  · exact RoadKit.mvA hZ q
  · exact RoadKit.mv hZ q t
/-- WHAT COMES BACK, over the tables of the start Z: h the heap at the call, h' behind it -/
def Q (Z : State) (x : Addr) (A : Cell) (h : Heap) (v : Option Value) (h' : Heap) (L : List Loc) : Prop := v = none ∧ (∀ y ∈ L, y.base = x) ∧ RoadKit.Keep h h' [x] ∧ h'.size = h.size + 1 ∧ RoadKit.Exa Z h' x ST ∧ RoadKit.Fld Z h' x ST "value" "[B" (.ref h.size) ∧ RoadKit.Fld Z h' x ST "coder" "B" (.int 0) ∧
  (∃ V : Cell, RoadKit.Arr Z h' h.size V .byte ∧ V.vm = .none ∧ Z.vm.findClass "[B" = some V.cls ∧ V.slots.size = A.slots.size ∧ ∀ j, j < A.slots.size → V.slots[j]? = some (.int (lo8 (cv A j)))) ∧
  ∀ (O n d : String) (w : Value), RoadKit.Fld Z h x O n d w → RoadKit.slotOf Z O n d ≠ RoadKit.slotOf Z ST "value" "[B" → RoadKit.slotOf Z O n d ≠ RoadKit.slotOf Z ST "coder" "B" → RoadKit.Fld Z h' x O n d w
/-- **new String(chars) AT A CALL, IN THE ROAD'S FORM**: for specialBack behind newO: x the fresh String, b the char[] with the cell A -/
theorem back {p : Program} {l : Launch} {e : Env} {R : Room} {s : State} {args : Array Value} {below : List Frame} {len W : Nat} {Z : State} {a0 : Array Value} {h : Heap} (hZ : Z.Warmed39 s.vm) (hw : ∀ d ∈ words, d.before a0 Z = true) {kI : Nat} (wi : (Jvm.Cond.instantiable ST kI).before a0 Z = true)
    {x b : Addr} {A : Cell} {z : Int32} {v0 c0 : Value} (E : RoadKit.Exa Z h x ST) (V : RoadKit.Fld Z h x ST "value" "[B" v0) (C : RoadKit.Fld Z h x ST "coder" "B" c0) (K : RoadKit.Arr Z h b A .char) (hty : Typed .char A) (S : RoadKit.Sta Z h ST "COMPACT_STRINGS" "Z" (.int z)) (hz : ¬ z = 0)
    (l0 : 0 < A.slots.size) (l2 : A.slots.size ≤ 536870912) (hp : ∀ i, i < A.slots.size → ¬ 255 < cv A i) (hfr : 4 ≤ R.frames) (hlo : W + 65 ≤ R.locals) :
    Back l R p e below s args New1.yN len W (fun P a => a = #[.ref x, .ref b] ∧ P.U.heap = h ∧ P.cells + 1 ≤ R.cells ∧ P.slots + A.slots.size ≤ R.slots)
      (fun P _ v B => ∃ L, Q Z x A h v B.U.heap L ∧ B.locs = P.locs ++ L ∧ B.cells = P.cells + 1 ∧ B.slots = P.slots + A.slots.size) := by
  intro m meth c P g ig mk a X hg hsize hdg hW hn hp'
  obtain ⟨rfl, rfl, r1, r2⟩ := hp'
  have al : Z.vm.Alike P.U.vm := hZ.alike.trans X.warmed.alike
  obtain ⟨D, cfV, kV, iV, fV, hD, gV, stV, knV, obV, asV, slV⟩ := id V
  obtain ⟨D', cfC, kC, iC, fC, hD', gC, stC, -, -, asC, slC⟩ := id C
  cases hD.symm.trans hD'
  obtain ⟨D2, kD, e1, e2, e3, e4, e5⟩ := id E
  cases hD.symm.trans e1
  obtain ⟨c2, k2, i1, i2, i3, -⟩ := Cond.instantiable_spec wi
  cases e2.symm.trans i1
  cases e3.symm.trans i2
  obtain ⟨kU, u1, u2⟩ := al.2.2 _ _ e3
  have hB : Blank ST x D P.U := ⟨hD, ⟨knV, fun q hq => by rw [hq] at obV; cases obV⟩, by rw [al.findClass]; exact e2, kU, u1, by rw [u2]; exact i3, by rw [u2]; exact e5 i3⟩
  have F1 : Found ST "value" "[B" fV P.U := ⟨SBG.found_only al ⟨cfV, kV, iV, gV⟩, stV⟩
  have F2 : Found ST "coder" "B" fC P.U := ⟨SBG.found_only al ⟨cfC, kC, iC, gC⟩, stC⟩
  have hA : Ch b A P.U := ⟨⟨K.1, State.isArrayOf_alike al K.2.1, K.2.2, by omega⟩, hty⟩
  have hS : StaticIs P.U ST "COMPACT_STRINGS" "Z" (.int z) := by
    obtain ⟨cfS, iS, kS, fS, st, cS, t1, t2, t3, t4, t5, t6, t7⟩ := S
    exact StaticIs.there (s := { Z with heap := P.U.heap }) ⟨cfS, iS, kS, fS, st, cS, t1, t2, t3, t4, t5, (fun q => by rw [q] at t6; cases t6), t7⟩ al rfl
  obtain ⟨v, B, X', ⟨⟨hv, E', V', q1, q2, q3, q4, q5, q6, q7, q8, q9, q10, q11⟩, hl, hc, hs⟩, st⟩ := New1.pays x D fV fC b A z (tab_of (moved hZ hw)) hfr hlo m meth c P g ig mk _ X hg hsize hdg hW hn ⟨r1, r2, rfl, hB, F1, F2, hA, hS, hz, l0, l2, hp⟩
  have al' : Z.vm.Alike B.U.vm := hZ.alike.trans X'.warmed.alike
  have hsz : E'.slots.size = D.slots.size := by
    obtain ⟨-, -, -, kB, w1, w2, w3⟩ := q1
    obtain ⟨kB', y1, y2⟩ := al'.2.2 _ _ e3
    rw [q2.2.1] at w1
    cases w1.symm.trans y1
    rw [w3, e5 i3, y2]
  refine ⟨v, B, X', ⟨_, ⟨hv, ?_, ⟨by omega, fun y cy hy hn' => q10 y cy (by simpa using hn') hy, fun y cy hy => ?_⟩, q11, ⟨E', _, q1.1, by rw [q2.2.1]; exact e2, by rw [q2.2.1]; exact e3, by rw [q2.1]; exact obV, fun _ => by rw [hsz]; exact e5 i3⟩,
    ⟨E', cfV, kV, iV, fV, q1.1, gV, stV, by rw [q2.1]; exact knV, by rw [q2.1]; exact obV, by rw [q2.2.1]; exact asV, q3⟩, ⟨E', cfC, kC, iC, fC, q1.1, gC, stC, by rw [q2.1]; exact knV, by rw [q2.1]; exact obV, by rw [q2.2.1]; exact asC, q4⟩,
    ⟨V', ⟨q5.1, State.isArrayOf_alike al'.symm q5.2.1, q5.2.2.1⟩, q6, by rw [← al'.findClass]; exact q7, q8, fun j hj => by have := q9 j hj; rwa [Nat.zero_add] at this⟩, fun O n d w F n1 n2 => ?_⟩, hl, hc, hs⟩, st⟩
  · intro y hy
    simp only [List.mem_cons, List.not_mem_nil, or_false] at hy
    rcases hy with rfl | rfl <;> rfl
  · by_cases q : y = x
    · subst q
      cases hD.symm.trans hy
      exact ⟨E', q1.1, q2.2.1, q2.1, hsz⟩
    · exact ⟨cy, q10 y cy q hy, rfl, rfl, rfl⟩
  · obtain ⟨D3, cf, k, i, f, g1, g2, g3, g4, g5, g6, g7⟩ := F
    cases hD.symm.trans g1
    simp only [RoadKit.slotOf, g2, gV, gC, Option.map_some, Option.getD_some] at n1 n2
    exact ⟨E', cf, k, i, f, q1.1, g2, g3, by rw [q2.1]; exact g4, by rw [q2.1]; exact g5, by rw [q2.2.1]; exact g6, by rw [q2.2.2 f.slot (by simp [n1, n2])]; exact g7⟩
end StrChars.Road
namespace StrChars.Road
open Jvm Sem ClassFile Op Lib Jvm.Stand Jvm.Free Jvm.Free.XT
/-- WHAT COMES BACK, the byte[] as a list of values -/
def QA (Z : State) (x : Addr) (zn : Int32) (cs : List Int32) (h : Heap) (v : Option Value) (h' : Heap) (L : List Loc) : Prop := v = none ∧ (∀ y ∈ L, y.base = x) ∧ RoadKit.Keep h h' [x] ∧ h'.size = h.size + 1 ∧ RoadKit.Exa Z h' x ST ∧ RoadKit.Fld Z h' x ST "value" "[B" (.ref h.size) ∧ RoadKit.Fld Z h' x ST "coder" "B" (.int 0) ∧
  (∃ kb, Z.vm.findClass "[B" = some kb ∧ RoadKit.Arv Z h' h.size kb .byte zn (cs.map fun c => .int (lo8 c)) (.int 0)) ∧
  ∀ (O n d : String) (w : Value), RoadKit.Fld Z h x O n d w → RoadKit.slotOf Z O n d ≠ RoadKit.slotOf Z ST "value" "[B" → RoadKit.slotOf Z O n d ≠ RoadKit.slotOf Z ST "coder" "B" → RoadKit.Fld Z h' x O n d w
/-- **new String(chars) AT A CALL, THE ARRAYS AS LISTS**: the char[] at b holds cs, not empty, no char above 255 -/
theorem backArv {p : Program} {l : Launch} {e : Env} {R : Room} {s : State} {args : Array Value} {below : List Frame} {len W : Nat} {Z : State} {a0 : Array Value} {h : Heap} (hZ : Z.Warmed39 s.vm) (hw : ∀ d ∈ words, d.before a0 Z = true) {kI : Nat} (wi : (Jvm.Cond.instantiable ST kI).before a0 Z = true)
    {x b : Addr} {k : ClassId} {zn z : Int32} {cs : List Int32} {dv v0 c0 : Value} (E : RoadKit.Exa Z h x ST) (V : RoadKit.Fld Z h x ST "value" "[B" v0) (C : RoadKit.Fld Z h x ST "coder" "B" c0) (K : RoadKit.Arv Z h b k .char zn (cs.map Value.int) dv) (S : RoadKit.Sta Z h ST "COMPACT_STRINGS" "Z" (.int z)) (hz : ¬ z = 0)
    (hlen : zn.toNatClampNeg = cs.length) (h0 : 0 < cs.length) (hbig : cs.length ≤ 536870912) (hall : ∀ c ∈ cs, ¬ 255 < c) (hfr : 4 ≤ R.frames) (hlo : W + 65 ≤ R.locals) :
    Back l R p e below s args New1.yN len W (fun P a => a = #[.ref x, .ref b] ∧ P.U.heap = h ∧ P.cells + 1 ≤ R.cells ∧ P.slots + cs.length ≤ R.slots)
      (fun P _ v B => ∃ L, QA Z x zn cs h v B.U.heap L ∧ B.locs = P.locs ++ L ∧ B.cells = P.cells + 1 ∧ B.slots = P.slots + cs.length) := by
  obtain ⟨A, K1, K2, K3, K4, K5, K6⟩ := K
  have e : A.slots.size = cs.length := K3.trans hlen
  have hat : ∀ (i : Nat) (hi : i < cs.length), A.slots[i]? = some (.int cs[i]) := fun i hi => by rw [K5 i (by omega)]; simp [List.getD_eq_getElem?_getD, hi]
  have hcv : ∀ (i : Nat) (hi : i < cs.length), cv A i = cs[i] := fun i hi => by unfold cv; rw [hat i hi]
  have hty : Typed .char A := fun i v hv => by
    have hi : i < A.slots.size := (Array.getElem?_eq_some_iff.mp hv).1
    have q := K5 i hi
    rw [hv] at q
    rw [Option.some.inj q]
    exact K6 i hi
  refine Back.mono (back hZ hw wi E V C K1 hty S hz (by omega) (by omega) (fun i hi => by rw [hcv i (by omega)]; exact hall _ (List.getElem_mem _)) hfr hlo) (fun P a hp => ⟨hp.1, hp.2.1, hp.2.2.1, by rw [e]; exact hp.2.2.2⟩) (fun P a v B hp hq => ?_)
  obtain ⟨L, ⟨q1, q2, q3, q4, q5, q6, q7, ⟨V', v1, v2, v3, v4, v5⟩, q9⟩, hl, hc, hs⟩ := hq
  refine ⟨L, ⟨q1, q2, q3, q4, q5, q6, q7, ⟨V'.cls, v3, V', v1, rfl, by rw [v4, e, hlen], K4, fun i hi => ?_, fun i hi => ?_⟩, q9⟩, hl, hc, by rw [hs, e]⟩
  · have hi' : i < cs.length := by omega
    rw [v5 i (by omega), hcv i hi']; simp [List.getD_eq_getElem?_getD, hi']
  · have hi' : i < cs.length := by omega
    simp only [List.getD_eq_getElem?_getD, List.getElem?_map, List.getElem?_eq_getElem hi', Option.map_some, Option.getD_some]
    exact fits_lo8 _
end StrChars.Road
namespace StrChars.Road
open Jvm Sem ClassFile Op Lib Jvm.Stand Jvm.Free Jvm.Free.XT
/-- WHAT COMES BACK, in the writer's own shape -/
def QV (Z : State) (x : Addr) (N : Int32) (bs : List Int32) (h : Heap) (n0 : Nat) (v : Option Value) (h' : Heap) (L : List Loc) : Prop := v = none ∧ RoadKit.Fr n0 L ∧ RoadKit.Keep h h' [x] ∧ RoadKit.Exa Z h' x ST ∧ RoadKit.Fld Z h' x ST "coder" "B" (.int 0) ∧
  ∃ (t : Addr) (kb : ClassId), n0 ≤ t ∧ h.size ≤ t ∧ ¬ t = x ∧ RoadKit.Fld Z h' x ST "value" "[B" (.ref t) ∧ RoadKit.Arv Z h' t kb .byte N (bs.map Value.int) (.int 0)
/-- **new String(chars) AT A CALL, FOR THE WRITER**: a char[] of n known ints, each 0 to 255 -/
theorem backV {p : Program} {l : Launch} {e : Env} {R : Room} {s : State} {args : Array Value} {below : List Frame} {len W : Nat} {Z : State} {a0 : Array Value} {h : Heap} (hZ : Z.Warmed39 s.vm) (hw : ∀ d ∈ words, d.before a0 Z = true) {kI : Nat} (wi : (Jvm.Cond.instantiable ST kI).before a0 Z = true)
    {x b : Addr} {kC : ClassId} {cs bs : List Int32} {d v0 c0 : Value} {z N : Int32} {n n0 : Nat} (hx0 : n0 ≤ x) (hh0 : n0 ≤ h.size) (E : RoadKit.Exa Z h x ST) (V : RoadKit.Fld Z h x ST "value" "[B" v0) (C : RoadKit.Fld Z h x ST "coder" "B" c0) (K : RoadKit.Arv Z h b kC .char N (cs.map Value.int) d) (S : RoadKit.Sta Z h ST "COMPACT_STRINGS" "Z" (.int z)) (hz : ¬ z = 0)
    (hn : cs.length = n) (hN : N = Int32.ofNat n) (l0 : 0 < n) (l2 : n ≤ 4000) (hp : ∀ c ∈ cs, ¬ c < 0 ∧ ¬ (255 : Int32) < c) (hb : bs = cs.map (fun c => c.toInt8.toInt32)) (hfr : 4 ≤ R.frames) (hlo : W + 65 ≤ R.locals) :
    Back l R p e below s args (⟨"java/lang/String", "<init>", "([C)V"⟩ : MethodName) len W (fun P a => a = #[.ref x, .ref b] ∧ P.U.heap = h ∧ P.cells + 1 ≤ R.cells ∧ P.slots + n ≤ R.slots)
      (fun P _ v B => ∃ L, QV Z x N bs h n0 v B.U.heap L ∧ B.locs = P.locs ++ L ∧ B.cells = P.cells + 1 ∧ B.slots = P.slots + n) := by
  subst hn hN hb
  refine Back.mono (backArv hZ hw wi E V C K S hz (n32 (by omega)) l0 (by omega) (fun c hc => (hp c hc).2) hfr hlo) (fun P a hp => hp) (fun P a v B hp hq => ?_)
  obtain ⟨L, ⟨q1, q2, q3, q4, q5, q6, q7, ⟨kb, v1, v2⟩, q9⟩, hl, hc, hs⟩ := hq
  exact ⟨L, ⟨q1, fun y hy => by rw [q2 y hy]; exact hx0, q3, q5, q7, h.size, kb, hh0, Nat.le_refl _, Nat.ne_of_gt E.lt, q6, by rw [List.map_map]; exact v2⟩, hl, hc, hs⟩
end StrChars.Road
namespace StrChars
open Jvm Sem ClassFile Op Lib Jvm.Stand Jvm.Free.XT Jvm.Free.ALB Jvm.Free.JM Jvm.Free
open Jvm.Lib.Cold (StaticIs)
def hi8 (x : Int32) : Int32 := lo8 (x >>> ((8 : Int32) &&& 31))
end StrChars
namespace StrChars.Road
open Jvm Sem ClassFile Op Lib Jvm.Stand Jvm.Free Jvm.Free.XT
open Jvm.Lib.Cold (StaticIs)
/-- the bytes of the chars cs, low before high -/
def wideBytes : List Int32 → List Value
  | [] => []
  | c :: cs => .int (lo8 c) :: .int (hi8 c) :: wideBytes cs
/-- an array of N2 bytes vs codes the chars cs by the coder cd -/
def CodA (cs : List Int32) (cd N2 : Int32) (vs : List Value) : Prop := (cd = 0 ∧ N2 = Int32.ofNat cs.length ∧ vs = (cs.map fun c => Value.int (lo8 c)) ∧ ∀ c ∈ cs, ¬ 255 < c) ∨ (cd = 1 ∧ N2 = Int32.ofNat (2 * cs.length) ∧ vs = wideBytes cs ∧ ∃ c ∈ cs, 255 < c)
end StrChars.Road
namespace StrChars.Road
open Jvm Sem ClassFile Op Lib Jvm.Stand Jvm.Free Jvm.Free.XT
open Jvm.Lib.Cold (StaticIs)
/-- what backV says of its String, as the contracts of this text ask it: cs's low bytes, coder 0 -/
theorem codOf {cs : List Int32} {n : Nat} (hn : cs.length = n) (hb : ∀ c ∈ cs, ¬ 255 < c) : CodA cs 0 (Int32.ofNat n) ((cs.map lo8).map Value.int) := Or.inl ⟨rfl, by rw [hn], by simp [List.map_map, Function.comp_def], hb⟩
end StrChars.Road
end Jvm.Pilot.@@N@@
namespace Jvm.Pilot.@@N@@
open Jvm Jvm.ClassFile Sem Op Lib Jvm.Free Jvm.Stand Jvm.LawKit Jvm.RoadKit Bundle Jvm.Pilot.@@N@@.Jvm.D
abbrev CL : List (String × Nat) := consts_1
abbrev NL : Bool := false
/-! OWN KIT: a forward form of the walk (Rc: the run has come to pc with these locals, this stack and this heap), over the library's Stand. -/
abbrev HW (a0 : Array Value) (Z : State) : Prop := ∀ d ∈ tables_1, d.before a0 Z = true
abbrev rmo (f c s l : Nat) : Room := { frames := f, cells := c, slots := s, locals := l }
section OwnKit
open Jvm.Free.SB Jvm.Free.SBG
def Sx (Z : State) (h : Heap) (Ds : List Addr) (a : Addr) (units : Array UInt16) : Prop :=
  ∃ (q : SQ) (cS : ClassId), q.sa = a ∧ Sl q cS ({ Z with heap := h } : State) ∧ (∃ kS : Class, Z.vm.classes[cS]? = some kS ∧ kS.kind = .ordinary ∧ q.sC.slots.size = kS.instanceTypes.size) ∧ Z.vm.findClass "[B" = some q.SA.cls ∧ q.SA.slots = stringBytes units ∧ q.sa ∉ Ds ∧ q.sd ∉ Ds
theorem own_al (Z : State) : Z.vm.Alike Z.vm := (State.Warmed39.refl Z).alike
theorem Sx.keep {Z : State} {h h' : Heap} {Ds ws : List Addr} {a : Addr} {u : Array UInt16} (F : Sx Z h Ds a u) (K : Keep h h' ws) (q : ∀ x ∈ ws, x ∈ Ds) : Sx Z h' Ds a u := by
  obtain ⟨s, cS, h1, h2, h3, h4, h5, h6, h7⟩ := F
  exact ⟨s, cS, h1, Sl.carry (U := ({ Z with heap := h } : State)) (U' := ({ Z with heap := h' } : State)) (own_al Z) (K.2.1 _ _ h2.1.1 (fun m => h6 (q _ m))) (K.2.1 _ _ h2.1.2.2.2.2.2.2.2.2.2.1 (fun m => h7 (q _ m))) h2, h3, h4, h5, h6, h7⟩
theorem Sx.less {Z : State} {h : Heap} {Ds Ds' : List Addr} {a : Addr} {u : Array UInt16} (F : Sx Z h Ds a u) (q : ∀ x ∈ Ds', x ∈ Ds) : Sx Z h Ds' a u := by
  obtain ⟨s, cS, h1, h2, h3, h4, h5, h6, h7⟩ := F
  exact ⟨s, cS, h1, h2, h3, h4, h5, fun m => h6 (q _ m), fun m => h7 (q _ m)⟩
theorem Sx.more {Z : State} {h : Heap} {Ds : List Addr} {a b : Addr} {u : Array UInt16} (F : Sx Z h Ds a u) (hb : h.size ≤ b) : Sx Z h (b :: Ds) a u := by
  obtain ⟨s, cS, h1, h2, h3, h4, h5, h6, h7⟩ := F
  have l1 : s.sa < h.size := (Array.getElem?_eq_some_iff.mp h2.1.1).1
  have l2 : s.sd < h.size := (Array.getElem?_eq_some_iff.mp h2.1.2.2.2.2.2.2.2.2.2.1).1
  refine ⟨s, cS, h1, h2, h3, h4, h5, fun m => ?_, fun m => ?_⟩
  · rcases List.mem_cons.mp m with e | e
    · exact absurd e (Nat.ne_of_lt (Nat.lt_of_lt_of_le l1 hb))
    · exact h6 e
  · rcases List.mem_cons.mp m with e | e
    · exact absurd e (Nat.ne_of_lt (Nat.lt_of_lt_of_le l2 hb))
    · exact h7 e
def Lk (Z : State) : Prop := ∀ (own : String) (idx : Nat), (own, idx) ∈ CL → ∃ (a0 : Array Value) (text : String), (Jvm.Cond.stringLink own idx text).before a0 Z = true ∧ (∀ c ∈ text.toList, c.toNat < 256) ∧ ∀ d ∈ Bundle.stringAtoms, d.before a0 Z = true
def JJ (Z : State) (n0 : Nat) (vm : Vm) (h : Heap) (Ds : List Addr) : Prop :=
  Old Z n0 h ∧ (NL = true → Z.WarmedH vm) ∧ (∀ x ∈ Ds, n0 ≤ x ∧ x < h.size) ∧ Lk Z ∧
    ∀ (own : String) (idx : Nat), (own, idx) ∈ CL → ∀ (c : ClassId) (k : Class) (cf : ClassFile) (i : Nat) (units : Array UInt16) (a : Addr), vm.findClass own = some c → vm.classes[c]? = some k → k.cf = some cf →
      cf.constantPool[idx]? = some (.string i) → cf.constantPool[i]? = some (.utf8 units) →
      (k.resolved[idx]? = some (some (.string a)) ∨ (k.resolved[idx]? = some none ∧ vm.interned.find? (fun p => p.1 == units) = some (units, a))) → Sx Z h Ds a units
theorem JJ.keep {Z : State} {n0 : Nat} {vm : Vm} {h h' : Heap} {Ds ws : List Addr} (J : JJ Z n0 vm h Ds) (K : Keep h h' ws) (q : ∀ x ∈ ws, x ∈ Ds) : JJ Z n0 vm h' Ds :=
  ⟨J.1.keep K (fun x hx => (J.2.2.1 x (q x hx)).1), J.2.1, fun x hx => ⟨(J.2.2.1 x hx).1, Nat.lt_of_lt_of_le (J.2.2.1 x hx).2 K.1⟩, J.2.2.2.1, fun o i hm c k cf j u a q1 q2 q3 q4 q5 q6 => (J.2.2.2.2 o i hm c k cf j u a q1 q2 q3 q4 q5 q6).keep K q⟩
theorem JJ.ext {Z : State} {n0 : Nat} {vm : Vm} {h h' : Heap} {Ds : List Addr} (J : JJ Z n0 vm h Ds) (E : Ext h h') : JJ Z n0 vm h' Ds := J.keep ((Keep.refl h []).ext E) (fun x hx => nomatch hx)
theorem JJ.less {Z : State} {n0 : Nat} {vm : Vm} {h : Heap} {Ds Ds' : List Addr} (J : JJ Z n0 vm h Ds) (q : ∀ x ∈ Ds', x ∈ Ds) : JJ Z n0 vm h Ds' :=
  ⟨J.1, J.2.1, fun x hx => J.2.2.1 x (q x hx), J.2.2.2.1, fun o i hm c k cf j u a q1 q2 q3 q4 q5 q6 => (J.2.2.2.2 o i hm c k cf j u a q1 q2 q3 q4 q5 q6).less q⟩
theorem own_n0 {Z : State} {n0 : Nat} {h : Heap} (X : Old Z n0 h) : n0 ≤ h.size := X.1 ▸ X.2.1
theorem JJ.born {Z : State} {n0 : Nat} {vm : Vm} {h h' : Heap} {Ds : List Addr} (J : JJ Z n0 vm h Ds) (E : Ext h h') (hb : h.size < h'.size) : JJ Z n0 vm h' (h.size :: Ds) := by
  refine ⟨J.1.ext E, J.2.1, fun x hx => ?_, J.2.2.2.1, fun o i hm c k cf j u a q1 q2 q3 q4 q5 q6 => ((J.2.2.2.2 o i hm c k cf j u a q1 q2 q3 q4 q5 q6).more (Nat.le_refl _)).keep ((Keep.refl h []).ext E) (fun x hx => nomatch hx)⟩
  rcases List.mem_cons.mp hx with e | e
  · subst e; exact ⟨own_n0 J.1, hb⟩
  · exact ⟨(J.2.2.1 x e).1, Nat.lt_of_lt_of_le (J.2.2.1 x e).2 E.1⟩
theorem JJ.step {Z t : State} {n0 : Nat} {vm' : Vm} {h : Heap} {Ds : List Addr} (J : JJ Z n0 t.vm h Ds) (hZ : Z.Warmed39 t.vm) (hW : t.Warmed39 vm')
    (hint : vm'.interned = t.vm.interned ∨ ∃ (u : Array UInt16) (a' : Addr), vm'.interned = t.vm.interned.push (u, a') ∧ (t.vm.interned.find? (fun p => p.1 == u) = none → Sx Z h Ds a' u)) (hcl : NL = true → Z.WarmedH vm') : JJ Z n0 vm' h Ds := by
  refine ⟨J.1, hcl, J.2.2.1, J.2.2.2.1, fun own idx hm c k' cf i units a hc' hk' hcf' hp hu hor => ?_⟩
  obtain ⟨a0, text, w, hlat, -⟩ := J.2.2.2.1 own idx hm
  have hal : t.vm.Alike vm' := hW.alike
  have hc : t.vm.findClass own = some c := by rw [← hal.findClass]; exact hc'
  have wt : (Jvm.Cond.stringLink own idx text).before a0 t = true := mvS (s := t) (vm0 := t.vm) hZ w
  obtain ⟨k, cf0, i0, units0, hk, hcf, hp0, hu0, hnm, htext, -⟩ := Cond.stringLink_spec hc wt
  obtain ⟨k'', hk'', hke, -, ee, -⟩ := hW.2.2.2 c k hk
  cases hk'.symm.trans hk''
  have hcfk : k'.cf = k.cf := by rw [hke]
  cases (hcfk ▸ hcf').symm.trans hcf
  cases hp.symm.trans hp0
  cases hu.symm.trans hu0
  have base := fun a => J.2.2.2.2 own idx hm c k cf i units a hc hk hcf hp hu
  have hfind : ∀ a, vm'.interned.find? (fun p => p.1 == units) = some (units, a) → k.resolved[idx]? = some none → Sx Z h Ds a units := by
    intro a hf hop
    rcases hint with e | ⟨u, a', e, hS⟩
    · rw [e] at hf; exact base a (Or.inr ⟨hop, hf⟩)
    · rw [e, Array.find?_push] at hf
      cases hs : t.vm.interned.find? (fun p => p.1 == units) with
      | some pr =>
        rw [hs] at hf
        have hpr : pr = (units, a) := by simpa using hf
        exact base a (Or.inr ⟨hop, by rw [hs, hpr]⟩)
      | none =>
        rw [hs, Option.none_or] at hf
        by_cases hb : (u == units) = true
        · have hu' : u = units := by simpa using hb
          subst hu'
          have : a' = a := by simpa using hf
          subst this
          exact hS hs
        · simp [hb] at hf
  rcases ee idx with e0 | ⟨hop, r, e1, hr | ⟨a3, t', si, us, rfl, -, q3, q4, q5⟩⟩
  · rcases hor with h0 | ⟨h0, hf⟩
    · exact base a (Or.inl (e0 ▸ h0))
    · exact hfind a hf (e0 ▸ h0)
  · exfalso
    cases r <;> simp [State.rightAt, hk, hcf, hnm] at hr
  · rw [hcf] at q3 q4
    have e3 : si = i := by
      have := q3.symm.trans hp
      simpa using this
    subst e3
    have e4 : us = units := by simpa [ConstantPool.utf8?, hu] using q4.symm
    subst e4
    rcases hor with h0 | ⟨h0, -⟩
    · have ea : a3 = a := by have := e1.symm.trans h0; simpa using this
      subst ea
      exact hfind a3 q5 hop
    · have := e1.symm.trans h0; simp at this
theorem JJ.warm {Z t : State} {n0 : Nat} {vm' : Vm} {h : Heap} {Ds : List Addr} (J : JJ Z n0 t.vm h Ds) (hZ : Z.Warmed39 t.vm) (hW : t.WarmedH vm') : JJ Z n0 vm' h Ds :=
  J.step hZ hW.wide (Or.inl hW.interned_eq) (fun e => State.WarmedH.trans (J.2.1 e) hW)
abbrev Cx : Type := Program × Launch × Env × State × MethodId × Array Value × List Frame × Method × Code × State
abbrev Cx.p (C : Cx) : Program := C.1
abbrev Cx.l (C : Cx) : Launch := C.2.1
abbrev Cx.e (C : Cx) : Env := C.2.2.1
abbrev Cx.s (C : Cx) : State := C.2.2.2.1
abbrev Cx.m (C : Cx) : MethodId := C.2.2.2.2.1
abbrev Cx.args (C : Cx) : Array Value := C.2.2.2.2.2.1
abbrev Cx.below (C : Cx) : List Frame := C.2.2.2.2.2.2.1
abbrev Cx.meth (C : Cx) : Method := C.2.2.2.2.2.2.2.1
abbrev Cx.c (C : Cx) : Code := C.2.2.2.2.2.2.2.2.1
abbrev Cx.s0 (C : Cx) : State := C.2.2.2.2.2.2.2.2.2
/-- the run has come to pc -/
def Rc (C : Cx) (R : Room) (own : String) (bs : ByteArray) (ml : Nat) (Z : State) (n0 ce sl pc : Nat) (Ls : Array Slot) (S : List Value) (h : Heap) (Ds : List Addr) : Prop :=
  ∃ (T : State) (locs : List Loc) (vm0 : Vm) (k0 : Nat), Stand C.p C.l C.e R (C.s.setVm vm0) C.m C.args C.below C.meth C.c T locs ce sl ∧ C.s.Since vm0 k0 ∧ k0 ≤ h.size ∧ Z.Warmed39 vm0 ∧ JJ Z n0 vm0 h Ds ∧ T.heap = h ∧ Fr n0 locs ∧
    (C.p.tables.exec = Jvm.exec ∧ C.c.code = bs ∧ C.c.maxLocals = ml ∧ vm0.findClass own = some C.m.cls ∧ C.meth.locks = false) ∧
    ∀ t, Steps C.p.tables C.e C.below (T.setTop (mkF C.m pc Ls S)) t → Steps C.p.tables C.e C.below C.s0 t
/-- the invocation has ended -/
def Done (C : Cx) (Z : State) (n0 : Nat) (Q : Option Value → Heap → List Addr → Prop) (kc ks : Nat) : Prop :=
  ∃ (t : State) (o : Outcome), Steps C.p.tables C.e C.below C.s0 t ∧ t.status = .running ∧ Ended t C.below o ∧ ∃ (v : Option Value) (L : List Loc) (Ds : List Addr), o = .returned v ∧ Q v t.heap Ds ∧ JJ Z n0 t.vm t.heap Ds ∧ Fr n0 L ∧ ReturnedEndW C.s o t L kc ks
/-- a contract -/
def Ctr (l : Launch) (Z : State) (y : MethodName) (bytes : ByteArray) (maxL : Nat) (ret : Option FieldType) (ws : List Jvm.Cond) (rm : Room) (as' : Array Value) (h : Heap) (n0 : Nat) (Ds : List Addr) (Q : Option Value → Heap → List Addr → Prop) : Prop :=
  MetFree l y (head1 (Jvm.Cond.code y bytes maxL ret :: ws) rm) (fun a U => a = as' ∧ Z.Warmed39 U.vm ∧ U.heap = h ∧ JJ Z n0 U.vm h Ds) (fun _ _ _ _ _ => True)
    (fun _ U o U' => ∃ (v : Option Value) (L : List Loc) (Ds' : List Addr), o = .returned v ∧ Q v U'.heap Ds' ∧ JJ Z n0 U'.vm U'.heap Ds' ∧ Fr n0 L ∧ ReturnedEndW U o U' L rm.cells rm.slots)
theorem ctr_of {l : Launch} {Z : State} {y : MethodName} {bytes : ByteArray} {maxL : Nat} {ret : Option FieldType} {ws : List Jvm.Cond} {rm : Room} {as' : Array Value} {h : Heap} {n0 : Nat} {Ds : List Addr} {Q : Option Value → Heap → List Addr → Prop} {Ls : Array Slot}
    (pf : plainFor y = true) (ef : ∀ m : MethodId, entryFrame m as' maxL = mkF m 0 Ls [])
    (wk : ∀ C : Cx, C.l = l → C.meth.sig.returnType = ret → C.meth.name = y.name → Rc C rm y.cls bytes maxL Z n0 0 0 0 Ls [] h Ds → Done C Z n0 Q rm.cells rm.slots) : Ctr l Z y bytes maxL ret ws rm as' h n0 Ds Q := by
  refine MetFree.of_bodySF pf hisR ?_
  intro p e s m args below meth c s₁ Bd hml0 hP hK
  obtain ⟨rfl, hZ, hh, hJ⟩ := hP
  have X0 : Stand p l e rm s m args below meth c s₁ [] 0 0 := Stand.of_body Bd
  have e0 : s₁.heap = h := by rw [← hh, Bd.state]; rfl
  have hown : s.vm.findClass y.cls = some m.cls := findClass_of_methodNamed Bd.named
  have hnm := (name_of_methodNamed Bd.named Bd.method).1
  have hlk : meth.locks = false := BodyLoose.notSynchronized Bd
  exact wk (p, l, e, s, m, args, below, meth, c, s₁.setTop (entryFrame m args maxL)) rfl Bd.returns hnm
    ⟨s₁, [], s.vm, 0, X0, (State.WarmedH.refl s).since 0, Nat.zero_le _, hZ, hJ, e0, Fr.nil n0, ⟨Bd.exec, Bd.bytes, hml0, hown, hlk⟩, fun t k => castTop (ef m) k⟩
theorem ctrBack {l : Launch} {R : Room} {p : Program} {e : Env} {below : List Frame} {s : State} {args : Array Value} {Z : State} {a0 : Array Value} {h : Heap} {n0 : Nat} {Ds : List Addr} {y : MethodName} {bytes : ByteArray} {maxL : Nat} {ret : Option FieldType} {rm : Room} {len W : Nat} {as' : Array Value} {Q : Option Value → Heap → List Addr → Prop}
    (hM : Ctr l Z y bytes maxL ret [] rm as' h n0 Ds Q) (hZ : Z.Warmed39 s.vm) (hJ : JJ Z n0 s.vm h Ds) (wc : (Jvm.Cond.code y bytes maxL ret).before a0 Z = true) (wz : (Jvm.Cond.initialized y.cls).before a0 Z = true) (hf : rm.frames + 1 ≤ R.frames) (hl : W + (maxL + 11) + rm.locals ≤ R.locals) :
    BackS l R p e below s args y len W (fun A a => a = as' ∧ A.U.heap = h ∧ A.cells + rm.cells ≤ R.cells ∧ A.slots + rm.slots ≤ R.slots)
      (fun A _ v B => ∃ (L : List Loc) (Ds' : List Addr), Q v B.U.heap Ds' ∧ JJ Z n0 B.U.vm B.U.heap Ds' ∧ Fr n0 L ∧ B.locs = A.locs ++ L ∧ B.cells = A.cells + rm.cells ∧ B.slots = A.slots + rm.slots) :=
  BackS.of_freeW (bytes := bytes) (maxL := maxL) (ret := ret) (E := fun _ _ o t L k n => k = rm.cells ∧ n = rm.slots ∧ ∃ (v : Option Value) (Ds' : List Addr), o = .returned v ∧ Q v t.heap Ds' ∧ JJ Z n0 t.vm t.heap Ds' ∧ Fr n0 L) hM hf hl
    (fun m meth c A a Y hp => have hU : Z.Warmed39 A.U.vm := wtrans hZ Y.warmed
      ⟨by show (Jvm.Cond.and _ .tt).before a A.U = true; rw [Cond.before_and, mv hU wc]; rfl, mv hU wc, mv hU wz, hp.2.2.1, hp.2.2.2⟩)
    (fun m meth c A a g mk Y hp => ⟨hp.1, wtrans hZ Y.warmed, hp.2.1, hJ.warm hZ Y.warmed⟩) (fun _ _ _ _ _ _ _ _ _ => trivial)
    (fun _ _ _ _ ⟨v, L, Ds', h1, h2, h3, h4, h5⟩ => ⟨L, _, _, h5, rfl, rfl, v, Ds', h1, h2, h3, h4⟩)
    (fun m meth c A a g mk v t L k n Y hp _ _ ⟨e1, e2, v', Ds', e3, e4, e5, e6⟩ => by cases e3; subst e1 e2; exact ⟨L, Ds', e4, e5, e6, rfl, rfl, rfl⟩)
variable {C : Cx} {R : Room} {own : String} {bs : ByteArray} {ml : Nat} {Z : State} {n0 ce sl pc : Nat} {Ls : Array Slot} {S rest : List Value} {h : Heap} {Ds : List Addr} {a0 : Array Value}
theorem Rc.go {pc' : Nat} {Ls' : Array Slot} {S' : List Value} (H : Rc C R own bs ml Z n0 ce sl pc Ls S h Ds) (f : ∀ T t, At T C.m C.c C.below → C.p.tables.exec = Jvm.exec → C.c.code = bs → Steps C.p.tables C.e C.below (T.setTop (mkF C.m pc' Ls' S')) t → Steps C.p.tables C.e C.below (T.setTop (mkF C.m pc Ls S)) t) : Rc C R own bs ml Z n0 ce sl pc' Ls' S' h Ds := by
  obtain ⟨T, locs, vm0, k0, X, h1, h2, h3, h4, h5, h6, h7, k⟩ := H
  exact ⟨T, locs, vm0, k0, X, h1, h2, h3, h4, h5, h6, h7, fun t ht => k _ (f T t X.here h7.1 h7.2.1 ht)⟩
theorem Rc.goX {pc' : Nat} {Ls' : Array Slot} {S' : List Value} (H : Rc C R own bs ml Z n0 ce sl pc Ls S h Ds) (f : ∀ (s : State) (T : State) (locs : List Loc) t, Stand C.p C.l C.e R s C.m C.args C.below C.meth C.c T locs ce sl → Z.Warmed39 s.vm → s.vm.findClass own = some C.m.cls → T.heap = h → C.p.tables.exec = Jvm.exec → C.c.code = bs → Steps C.p.tables C.e C.below (T.setTop (mkF C.m pc' Ls' S')) t → Steps C.p.tables C.e C.below (T.setTop (mkF C.m pc Ls S)) t) : Rc C R own bs ml Z n0 ce sl pc' Ls' S' h Ds := by
  obtain ⟨T, locs, vm0, k0, X, h1, h2, h3, h4, h5, h6, h7, k⟩ := H
  exact ⟨T, locs, vm0, k0, X, h1, h2, h3, h4, h5, h6, h7, fun t ht => k _ (f _ T locs t X h3 h7.2.2.2.1 h5 h7.1 h7.2.1 ht)⟩
theorem Rc.stk {S' : List Value} (H : Rc C R own bs ml Z n0 ce sl pc Ls S h Ds) (e : S = S') : Rc C R own bs ml Z n0 ce sl pc Ls S' h Ds := e ▸ H
theorem Rc.loc {Ls' : Array Slot} (H : Rc C R own bs ml Z n0 ce sl pc Ls S h Ds) (e : Ls = Ls') : Rc C R own bs ml Z n0 ce sl pc Ls' S h Ds := e ▸ H
theorem Rc.old (H : Rc C R own bs ml Z n0 ce sl pc Ls S h Ds) : Old Z n0 h := by
  obtain ⟨T, locs, vm0, k0, X, h1, h2, h3, h4, h5, h6, h7, k⟩ := H
  exact h4.1
theorem Rc.mem (H : Rc C R own bs ml Z n0 ce sl pc Ls S h Ds) {x : Addr} (hx : x ∈ Ds) : n0 ≤ x ∧ x < h.size := by
  obtain ⟨T, locs, vm0, k0, X, h1, h2, h3, h4, h5, h6, h7, k⟩ := H
  exact h4.2.2.1 x hx
theorem Rc.mono {ce' sl' : Nat} (H : Rc C R own bs ml Z n0 ce sl pc Ls S h Ds) (h1 : ce ≤ ce') (h2 : sl ≤ sl') : Rc C R own bs ml Z n0 ce' sl' pc Ls S h Ds := by
  obtain ⟨T, locs, vm0, k0, X, r⟩ := H
  exact ⟨T, locs, vm0, k0, X.mono h1 h2, r⟩
theorem Rc.less {Ds' : List Addr} (H : Rc C R own bs ml Z n0 ce sl pc Ls S h Ds) (q : ∀ x ∈ Ds', x ∈ Ds) : Rc C R own bs ml Z n0 ce sl pc Ls S h Ds' := by
  obtain ⟨T, locs, vm0, k0, X, h1, h2, h3, h4, r⟩ := H
  exact ⟨T, locs, vm0, k0, X, h1, h2, h3, h4.less q, r⟩
theorem Rc.iload {pc' : Nat} {k : Nat} {v : Int32} (H : Rc C R own bs ml Z n0 ce sl pc Ls S h Ds) (hd : decode bs pc = .ok (.iload k, 2)) (hl : Ls[k]? = some (.val (.int v))) (hp : pc + 2 = pc') : Rc C R own bs ml Z n0 ce sl pc' Ls (.int v :: S) h Ds := by
  subst hp
  exact H.go fun T t hA hx hby kk => XS.iload hA hx rfl (hb hby hd) hl kk
theorem Rc.iloadN {pc' : Nat} {k : Fin 4} {v : Int32} (H : Rc C R own bs ml Z n0 ce sl pc Ls S h Ds) (hd : decode bs pc = .ok (.iload_n k, 1)) (hl : Ls[k.val]? = some (.val (.int v))) (hp : pc + 1 = pc') : Rc C R own bs ml Z n0 ce sl pc' Ls (.int v :: S) h Ds := by
  subst hp
  exact H.go fun T t hA hx hby kk => XS.iloadN hA hx rfl (hb hby hd) hl kk
theorem Rc.aload {pc' : Nat} {k : Nat} {v : Value} (H : Rc C R own bs ml Z n0 ce sl pc Ls S h Ds) (hd : decode bs pc = .ok (.aload k, 2)) (hl : Ls[k]? = some (.val v)) (hv : v.isRef = true) (hp : pc + 2 = pc') : Rc C R own bs ml Z n0 ce sl pc' Ls (v :: S) h Ds := by
  subst hp
  exact H.go fun T t hA hx hby kk => XS.aload hA hx rfl (hb hby hd) hl hv kk
theorem Rc.aloadN {pc' : Nat} {k : Fin 4} {v : Value} (H : Rc C R own bs ml Z n0 ce sl pc Ls S h Ds) (hd : decode bs pc = .ok (.aload_n k, 1)) (hl : Ls[k.val]? = some (.val v)) (hv : v.isRef = true) (hp : pc + 1 = pc') : Rc C R own bs ml Z n0 ce sl pc' Ls (v :: S) h Ds := by
  subst hp
  exact H.go fun T t hA hx hby kk => XS.aloadN hA hx rfl (hb hby hd) hl hv kk
theorem Rc.lload {pc' : Nat} {k : Nat} {v : Int64} (H : Rc C R own bs ml Z n0 ce sl pc Ls S h Ds) (hd : decode bs pc = .ok (.lload k, 2)) (hl : Ls[k]? = some (.val (.long v))) (hp : pc + 2 = pc') : Rc C R own bs ml Z n0 ce sl pc' Ls (.long v :: S) h Ds := by
  subst hp
  exact H.go fun T t hA hx hby kk => XS.lload hA hx rfl (hb hby hd) hl kk
theorem Rc.lloadN {pc' : Nat} {k : Fin 4} {v : Int64} (H : Rc C R own bs ml Z n0 ce sl pc Ls S h Ds) (hd : decode bs pc = .ok (.lload_n k, 1)) (hl : Ls[k.val]? = some (.val (.long v))) (hp : pc + 1 = pc') : Rc C R own bs ml Z n0 ce sl pc' Ls (.long v :: S) h Ds := by
  subst hp
  exact H.go fun T t hA hx hby kk => XS.lloadN hA hx rfl (hb hby hd) hl kk
theorem Rc.istore {pc' : Nat} {k : Nat} {x : Int32} {l' : Array Slot} (H : Rc C R own bs ml Z n0 ce sl pc Ls (.int x :: rest) h Ds) (hd : decode bs pc = .ok (.istore k, 2)) (hl : storeLocals Ls k (.int x) = some l') (hp : pc + 2 = pc') : Rc C R own bs ml Z n0 ce sl pc' l' rest h Ds := by
  subst hp
  exact H.go fun T t hA hx hby kk => XS.istore hA hx rfl (hb hby hd) rfl hl kk
theorem Rc.istoreN {pc' : Nat} {k : Fin 4} {x : Int32} {l' : Array Slot} (H : Rc C R own bs ml Z n0 ce sl pc Ls (.int x :: rest) h Ds) (hd : decode bs pc = .ok (.istore_n k, 1)) (hl : storeLocals Ls k.val (.int x) = some l') (hp : pc + 1 = pc') : Rc C R own bs ml Z n0 ce sl pc' l' rest h Ds := by
  subst hp
  exact H.go fun T t hA hx hby kk => XS.istoreN hA hx rfl (hb hby hd) rfl hl kk
theorem Rc.astore {pc' : Nat} {k : Nat} {x : Value} {l' : Array Slot} (H : Rc C R own bs ml Z n0 ce sl pc Ls (x :: rest) h Ds) (hd : decode bs pc = .ok (.astore k, 2)) (hv : x.isRef = true) (hl : storeLocals Ls k x = some l') (hp : pc + 2 = pc') : Rc C R own bs ml Z n0 ce sl pc' l' rest h Ds := by
  subst hp
  exact H.go fun T t hA hx hby kk => XS.astore hA hx rfl (hb hby hd) rfl hv hl kk
theorem Rc.astoreN {pc' : Nat} {k : Fin 4} {x : Value} {l' : Array Slot} (H : Rc C R own bs ml Z n0 ce sl pc Ls (x :: rest) h Ds) (hd : decode bs pc = .ok (.astore_n k, 1)) (hv : x.isRef = true) (hl : storeLocals Ls k.val x = some l') (hp : pc + 1 = pc') : Rc C R own bs ml Z n0 ce sl pc' l' rest h Ds := by
  subst hp
  exact H.go fun T t hA hx hby kk => XS.astoreN hA hx rfl (hb hby hd) rfl hv hl kk
theorem Rc.lstore {pc' : Nat} {k : Nat} {x : Int64} {l' : Array Slot} (H : Rc C R own bs ml Z n0 ce sl pc Ls (.long x :: rest) h Ds) (hd : decode bs pc = .ok (.lstore k, 2)) (hl : storeLocals Ls k (.long x) = some l') (hp : pc + 2 = pc') : Rc C R own bs ml Z n0 ce sl pc' l' rest h Ds := by
  subst hp
  exact H.go fun T t hA hx hby kk => XS.lstore hA hx rfl (hb hby hd) rfl hl kk
theorem Rc.lstoreN {pc' : Nat} {k : Fin 4} {x : Int64} {l' : Array Slot} (H : Rc C R own bs ml Z n0 ce sl pc Ls (.long x :: rest) h Ds) (hd : decode bs pc = .ok (.lstore_n k, 1)) (hl : storeLocals Ls k.val (.long x) = some l') (hp : pc + 1 = pc') : Rc C R own bs ml Z n0 ce sl pc' l' rest h Ds := by
  subst hp
  exact H.go fun T t hA hx hby kk => XS.lstoreN hA hx rfl (hb hby hd) rfl hl kk
theorem Rc.iconst {pc' : Nat} {i : Int} {z : Int32} (H : Rc C R own bs ml Z n0 ce sl pc Ls S h Ds) (hd : decode bs pc = .ok (.iconst i, 1)) (hz : Int32.ofInt i = z) (hp : pc + 1 = pc') : Rc C R own bs ml Z n0 ce sl pc' Ls (.int z :: S) h Ds := by
  subst hp hz
  exact H.go fun T t hA hx hby kk => XS.iconst hA hx rfl (hb hby hd) kk
theorem Rc.bipush {pc' : Nat} {i : Int} {z : Int32} (H : Rc C R own bs ml Z n0 ce sl pc Ls S h Ds) (hd : decode bs pc = .ok (.bipush i, 2)) (hz : (Int8.ofInt i).toInt32 = z) (hp : pc + 2 = pc') : Rc C R own bs ml Z n0 ce sl pc' Ls (.int z :: S) h Ds := by
  subst hp hz
  exact H.go fun T t hA hx hby kk => XS.bipush hA hx rfl (hb hby hd) kk
theorem Rc.sipush {pc' : Nat} {i : Int} {z : Int32} (H : Rc C R own bs ml Z n0 ce sl pc Ls S h Ds) (hd : decode bs pc = .ok (.sipush i, 3)) (hz : (Int16.ofInt i).toInt32 = z) (hp : pc + 3 = pc') : Rc C R own bs ml Z n0 ce sl pc' Ls (.int z :: S) h Ds := by
  subst hp hz
  exact H.go fun T t hA hx hby kk => XS.sipush hA hx rfl (hb hby hd) kk
theorem Rc.lconst {pc' : Nat} {i : Fin 2} {z : Int64} (H : Rc C R own bs ml Z n0 ce sl pc Ls S h Ds) (hd : decode bs pc = .ok (.lconst i, 1)) (hz : Int64.ofNat i = z) (hp : pc + 1 = pc') : Rc C R own bs ml Z n0 ce sl pc' Ls (.long z :: S) h Ds := by
  subst hp hz
  exact H.go fun T t hA hx hby kk => XS.lconst hA hx rfl (hb hby hd) kk
theorem Rc.anull {pc' : Nat}  (H : Rc C R own bs ml Z n0 ce sl pc Ls S h Ds) (hd : decode bs pc = .ok (.aconst_null, 1)) (hp : pc + 1 = pc') : Rc C R own bs ml Z n0 ce sl pc' Ls (.null :: S) h Ds := by
  subst hp
  exact H.go fun T t hA hx hby kk => XS.aconstNull hA hx rfl (hb hby hd) kk
theorem Rc.iadd {pc' : Nat} {x y : Int32} (H : Rc C R own bs ml Z n0 ce sl pc Ls (.int y :: .int x :: rest) h Ds) (hd : decode bs pc = .ok (.iadd, 1)) (hp : pc + 1 = pc') : Rc C R own bs ml Z n0 ce sl pc' Ls (.int (x + y) :: rest) h Ds := by
  subst hp
  exact H.go fun T t hA hx hby kk => XS.iadd hA hx rfl (hb hby hd) rfl kk
theorem Rc.ladd {pc' : Nat} {x y : Int64} (H : Rc C R own bs ml Z n0 ce sl pc Ls (.long y :: .long x :: rest) h Ds) (hd : decode bs pc = .ok (.ladd, 1)) (hp : pc + 1 = pc') : Rc C R own bs ml Z n0 ce sl pc' Ls (.long (x + y) :: rest) h Ds := by
  subst hp
  exact H.go fun T t hA hx hby kk => XS.ladd hA hx rfl (hb hby hd) rfl kk
theorem Rc.isub {pc' : Nat} {x y : Int32} (H : Rc C R own bs ml Z n0 ce sl pc Ls (.int y :: .int x :: rest) h Ds) (hd : decode bs pc = .ok (.isub, 1)) (hp : pc + 1 = pc') : Rc C R own bs ml Z n0 ce sl pc' Ls (.int (x - y) :: rest) h Ds := by
  subst hp
  exact H.go fun T t hA hx hby kk => XS.isub hA hx rfl (hb hby hd) rfl kk
theorem Rc.lsub {pc' : Nat} {x y : Int64} (H : Rc C R own bs ml Z n0 ce sl pc Ls (.long y :: .long x :: rest) h Ds) (hd : decode bs pc = .ok (.lsub, 1)) (hp : pc + 1 = pc') : Rc C R own bs ml Z n0 ce sl pc' Ls (.long (x - y) :: rest) h Ds := by
  subst hp
  exact H.go fun T t hA hx hby kk => XS.lsub hA hx rfl (hb hby hd) rfl kk
theorem Rc.imul {pc' : Nat} {x y : Int32} (H : Rc C R own bs ml Z n0 ce sl pc Ls (.int y :: .int x :: rest) h Ds) (hd : decode bs pc = .ok (.imul, 1)) (hp : pc + 1 = pc') : Rc C R own bs ml Z n0 ce sl pc' Ls (.int (x * y) :: rest) h Ds := by
  subst hp
  exact H.go fun T t hA hx hby kk => XS.imul hA hx rfl (hb hby hd) rfl kk
theorem Rc.lmul {pc' : Nat} {x y : Int64} (H : Rc C R own bs ml Z n0 ce sl pc Ls (.long y :: .long x :: rest) h Ds) (hd : decode bs pc = .ok (.lmul, 1)) (hp : pc + 1 = pc') : Rc C R own bs ml Z n0 ce sl pc' Ls (.long (x * y) :: rest) h Ds := by
  subst hp
  exact H.go fun T t hA hx hby kk => XS.lmul hA hx rfl (hb hby hd) rfl kk
theorem Rc.iand {pc' : Nat} {x y : Int32} (H : Rc C R own bs ml Z n0 ce sl pc Ls (.int y :: .int x :: rest) h Ds) (hd : decode bs pc = .ok (.iand, 1)) (hp : pc + 1 = pc') : Rc C R own bs ml Z n0 ce sl pc' Ls (.int (x &&& y) :: rest) h Ds := by
  subst hp
  exact H.go fun T t hA hx hby kk => XS.iand hA hx rfl (hb hby hd) rfl kk
theorem Rc.land {pc' : Nat} {x y : Int64} (H : Rc C R own bs ml Z n0 ce sl pc Ls (.long y :: .long x :: rest) h Ds) (hd : decode bs pc = .ok (.land, 1)) (hp : pc + 1 = pc') : Rc C R own bs ml Z n0 ce sl pc' Ls (.long (x &&& y) :: rest) h Ds := by
  subst hp
  exact H.go fun T t hA hx hby kk => XS.land hA hx rfl (hb hby hd) rfl kk
theorem Rc.ior {pc' : Nat} {x y : Int32} (H : Rc C R own bs ml Z n0 ce sl pc Ls (.int y :: .int x :: rest) h Ds) (hd : decode bs pc = .ok (.ior, 1)) (hp : pc + 1 = pc') : Rc C R own bs ml Z n0 ce sl pc' Ls (.int (x ||| y) :: rest) h Ds := by
  subst hp
  exact H.go fun T t hA hx hby kk => XS.ior hA hx rfl (hb hby hd) rfl kk
theorem Rc.lor {pc' : Nat} {x y : Int64} (H : Rc C R own bs ml Z n0 ce sl pc Ls (.long y :: .long x :: rest) h Ds) (hd : decode bs pc = .ok (.lor, 1)) (hp : pc + 1 = pc') : Rc C R own bs ml Z n0 ce sl pc' Ls (.long (x ||| y) :: rest) h Ds := by
  subst hp
  exact H.go fun T t hA hx hby kk => XS.lor hA hx rfl (hb hby hd) rfl kk
theorem Rc.ixor {pc' : Nat} {x y : Int32} (H : Rc C R own bs ml Z n0 ce sl pc Ls (.int y :: .int x :: rest) h Ds) (hd : decode bs pc = .ok (.ixor, 1)) (hp : pc + 1 = pc') : Rc C R own bs ml Z n0 ce sl pc' Ls (.int (x ^^^ y) :: rest) h Ds := by
  subst hp
  exact H.go fun T t hA hx hby kk => XS.ixor hA hx rfl (hb hby hd) rfl kk
theorem Rc.lxor {pc' : Nat} {x y : Int64} (H : Rc C R own bs ml Z n0 ce sl pc Ls (.long y :: .long x :: rest) h Ds) (hd : decode bs pc = .ok (.lxor, 1)) (hp : pc + 1 = pc') : Rc C R own bs ml Z n0 ce sl pc' Ls (.long (x ^^^ y) :: rest) h Ds := by
  subst hp
  exact H.go fun T t hA hx hby kk => XS.lxor hA hx rfl (hb hby hd) rfl kk
theorem Rc.ishl {pc' : Nat} {x : Int32} {y : Int32} (H : Rc C R own bs ml Z n0 ce sl pc Ls (.int y :: .int x :: rest) h Ds) (hd : decode bs pc = .ok (.ishl, 1)) (hp : pc + 1 = pc') : Rc C R own bs ml Z n0 ce sl pc' Ls (.int (x <<< (y &&& 31)) :: rest) h Ds := by
  subst hp
  exact H.go fun T t hA hx hby kk => XS.ishl hA hx rfl (hb hby hd) rfl kk
theorem Rc.ishr {pc' : Nat} {x : Int32} {y : Int32} (H : Rc C R own bs ml Z n0 ce sl pc Ls (.int y :: .int x :: rest) h Ds) (hd : decode bs pc = .ok (.ishr, 1)) (hp : pc + 1 = pc') : Rc C R own bs ml Z n0 ce sl pc' Ls (.int (x >>> (y &&& 31)) :: rest) h Ds := by
  subst hp
  exact H.go fun T t hA hx hby kk => XS.ishr hA hx rfl (hb hby hd) rfl kk
theorem Rc.iushr {pc' : Nat} {x : Int32} {y : Int32} (H : Rc C R own bs ml Z n0 ce sl pc Ls (.int y :: .int x :: rest) h Ds) (hd : decode bs pc = .ok (.iushr, 1)) (hp : pc + 1 = pc') : Rc C R own bs ml Z n0 ce sl pc' Ls (.int ((x.toUInt32 >>> (y &&& 31).toUInt32).toInt32) :: rest) h Ds := by
  subst hp
  exact H.go fun T t hA hx hby kk => XS.iushr hA hx rfl (hb hby hd) rfl kk
theorem Rc.lshl {pc' : Nat} {x : Int64} {y : Int32} (H : Rc C R own bs ml Z n0 ce sl pc Ls (.int y :: .long x :: rest) h Ds) (hd : decode bs pc = .ok (.lshl, 1)) (hp : pc + 1 = pc') : Rc C R own bs ml Z n0 ce sl pc' Ls (.long (x <<< (y &&& 0x3f).toInt64) :: rest) h Ds := by
  subst hp
  exact H.go fun T t hA hx hby kk => XS.lshl hA hx rfl (hb hby hd) rfl kk
theorem Rc.lshr {pc' : Nat} {x : Int64} {y : Int32} (H : Rc C R own bs ml Z n0 ce sl pc Ls (.int y :: .long x :: rest) h Ds) (hd : decode bs pc = .ok (.lshr, 1)) (hp : pc + 1 = pc') : Rc C R own bs ml Z n0 ce sl pc' Ls (.long (x >>> (y &&& 0x3f).toInt64) :: rest) h Ds := by
  subst hp
  exact H.go fun T t hA hx hby kk => XS.lshr hA hx rfl (hb hby hd) rfl kk
theorem Rc.lushr {pc' : Nat} {x : Int64} {y : Int32} (H : Rc C R own bs ml Z n0 ce sl pc Ls (.int y :: .long x :: rest) h Ds) (hd : decode bs pc = .ok (.lushr, 1)) (hp : pc + 1 = pc') : Rc C R own bs ml Z n0 ce sl pc' Ls (.long ((x.toUInt64 >>> (y &&& 0x3f).toInt64.toUInt64).toInt64) :: rest) h Ds := by
  subst hp
  exact H.go fun T t hA hx hby kk => XS.lushr hA hx rfl (hb hby hd) rfl kk
theorem Rc.ineg {pc' : Nat} {x : Int32} (H : Rc C R own bs ml Z n0 ce sl pc Ls (.int x :: rest) h Ds) (hd : decode bs pc = .ok (.ineg, 1)) (hp : pc + 1 = pc') : Rc C R own bs ml Z n0 ce sl pc' Ls (.int (-x) :: rest) h Ds := by
  subst hp
  exact H.go fun T t hA hx hby kk => XS.ineg hA hx rfl (hb hby hd) rfl kk
theorem Rc.lneg {pc' : Nat} {x : Int64} (H : Rc C R own bs ml Z n0 ce sl pc Ls (.long x :: rest) h Ds) (hd : decode bs pc = .ok (.lneg, 1)) (hp : pc + 1 = pc') : Rc C R own bs ml Z n0 ce sl pc' Ls (.long (-x) :: rest) h Ds := by
  subst hp
  exact H.go fun T t hA hx hby kk => XS.lneg hA hx rfl (hb hby hd) rfl kk
theorem Rc.i2l {pc' : Nat} {x : Int32} (H : Rc C R own bs ml Z n0 ce sl pc Ls (.int x :: rest) h Ds) (hd : decode bs pc = .ok (.i2l, 1)) (hp : pc + 1 = pc') : Rc C R own bs ml Z n0 ce sl pc' Ls (.long x.toInt64 :: rest) h Ds := by
  subst hp
  exact H.go fun T t hA hx hby kk => XS.i2l hA hx rfl (hb hby hd) rfl kk
theorem Rc.l2i {pc' : Nat} {x : Int64} (H : Rc C R own bs ml Z n0 ce sl pc Ls (.long x :: rest) h Ds) (hd : decode bs pc = .ok (.l2i, 1)) (hp : pc + 1 = pc') : Rc C R own bs ml Z n0 ce sl pc' Ls (.int x.toInt32 :: rest) h Ds := by
  subst hp
  exact H.go fun T t hA hx hby kk => XS.l2i hA hx rfl (hb hby hd) rfl kk
theorem Rc.i2b {pc' : Nat} {x : Int32} (H : Rc C R own bs ml Z n0 ce sl pc Ls (.int x :: rest) h Ds) (hd : decode bs pc = .ok (.i2b, 1)) (hp : pc + 1 = pc') : Rc C R own bs ml Z n0 ce sl pc' Ls (.int x.toInt8.toInt32 :: rest) h Ds := by
  subst hp
  exact H.go fun T t hA hx hby kk => XS.i2b hA hx rfl (hb hby hd) rfl kk
theorem Rc.i2s {pc' : Nat} {x : Int32} (H : Rc C R own bs ml Z n0 ce sl pc Ls (.int x :: rest) h Ds) (hd : decode bs pc = .ok (.i2s, 1)) (hp : pc + 1 = pc') : Rc C R own bs ml Z n0 ce sl pc' Ls (.int x.toInt16.toInt32 :: rest) h Ds := by
  subst hp
  exact H.go fun T t hA hx hby kk => XS.i2s hA hx rfl (hb hby hd) rfl kk
theorem Rc.i2c {pc' : Nat} {x : Int32} (H : Rc C R own bs ml Z n0 ce sl pc Ls (.int x :: rest) h Ds) (hd : decode bs pc = .ok (.i2c, 1)) (hp : pc + 1 = pc') : Rc C R own bs ml Z n0 ce sl pc' Ls (.int x.toUInt32.toUInt16.toUInt32.toInt32 :: rest) h Ds := by
  subst hp
  exact H.go fun T t hA hx hby kk => XS.i2c hA hx rfl (hb hby hd) rfl kk
theorem Rc.lcmp {pc' : Nat} {x y : Int64} (H : Rc C R own bs ml Z n0 ce sl pc Ls (.long y :: .long x :: rest) h Ds) (hd : decode bs pc = .ok (.lcmp, 1)) (hp : pc + 1 = pc') : Rc C R own bs ml Z n0 ce sl pc' Ls (.int (lcmpW x y) :: rest) h Ds := by
  subst hp
  exact H.go fun T t hA hx hby kk => XS.lcmp hA hx rfl (hb hby hd) rfl kk
theorem Rc.idiv {pc' : Nat} {x y : Int32} (H : Rc C R own bs ml Z n0 ce sl pc Ls (.int y :: .int x :: rest) h Ds) (hd : decode bs pc = .ok (.idiv, 1)) (hy : y ≠ 0) (hp : pc + 1 = pc') : Rc C R own bs ml Z n0 ce sl pc' Ls (.int (x / y) :: rest) h Ds := by
  subst hp
  exact H.go fun T t hA hx hby kk => XS.idiv hA hx rfl (hb hby hd) rfl hy kk
theorem Rc.dup {pc' : Nat} {x : Value} (H : Rc C R own bs ml Z n0 ce sl pc Ls (x :: rest) h Ds) (hd : decode bs pc = .ok (.dup, 1)) (hc : x.category = 1) (hp : pc + 1 = pc') : Rc C R own bs ml Z n0 ce sl pc' Ls (x :: x :: rest) h Ds := by
  subst hp
  exact H.go fun T t hA hx hby kk => XS.dup hA hx rfl (hb hby hd) rfl hc kk
theorem Rc.pop {pc' : Nat} {x : Value} (H : Rc C R own bs ml Z n0 ce sl pc Ls (x :: rest) h Ds) (hd : decode bs pc = .ok (.pop, 1)) (hc : x.category = 1) (hp : pc + 1 = pc') : Rc C R own bs ml Z n0 ce sl pc' Ls rest h Ds := by
  subst hp
  exact H.go fun T t hA hx hby kk => XS.pop hA hx rfl (hb hby hd) rfl hc kk
theorem Rc.dupX1 {pc' : Nat} {x y : Value} (H : Rc C R own bs ml Z n0 ce sl pc Ls (x :: y :: rest) h Ds) (hd : decode bs pc = .ok (.dup_x1, 1)) (hc : x.category = 1) (hc' : y.category = 1) (hp : pc + 1 = pc') : Rc C R own bs ml Z n0 ce sl pc' Ls (x :: y :: x :: rest) h Ds := by
  subst hp
  exact H.go fun T t hA hx hby kk => XS.dupX1 hA hx rfl (hb hby hd) rfl hc hc' kk
theorem Rc.iinc {pc' : Nat} {k : Nat} {cst : Int} {x : Int32} {l' : Array Slot} (H : Rc C R own bs ml Z n0 ce sl pc Ls S h Ds) (hd : decode bs pc = .ok (.iinc k cst, 3)) (hl : Ls[k]? = some (.val (.int x))) (hl' : storeLocals Ls k (.int (x + Int32.ofInt cst)) = some l') (hp : pc + 3 = pc') : Rc C R own bs ml Z n0 ce sl pc' l' S h Ds := by
  subst hp
  exact H.go fun T t hA hx hby kk => XS.iinc hA hx rfl (hb hby hd) hl hl' kk
theorem Rc.irem {pc' : Nat} {x y : Int32} (H : Rc C R own bs ml Z n0 ce sl pc Ls (.int y :: .int x :: rest) h Ds) (hd : decode bs pc = .ok (.irem, 1)) (hy : y ≠ 0) (hp : pc + 1 = pc') : Rc C R own bs ml Z n0 ce sl pc' Ls (.int (x % y) :: rest) h Ds := by
  subst hp
  exact H.goX fun s T locs t X hZ hown eT hx hby kk => iremM X hx rfl (hb hby hd) rfl hy kk
theorem Rc.goto {pc' : Nat} {o : Int} (H : Rc C R own bs ml Z n0 ce sl pc Ls S h Ds) (hd : decode bs pc = .ok (.goto o, 3)) (ho : 0 ≤ (pc : Int) + o) (hp : ((pc : Int) + o).toNat = pc') : Rc C R own bs ml Z n0 ce sl pc' Ls S h Ds :=
  H.go fun T t hA hx hby kk => XS.goto hA hx rfl (pc0 := pc) rfl (hb hby hd) ho hp kk
theorem Rc.ifY {pc' : Nat} {o : Int} {cd : ClassFile.Cond} {x : Int32} (H : Rc C R own bs ml Z n0 ce sl pc Ls (.int x :: rest) h Ds) (hd : decode bs pc = .ok (.ifCond cd o, 3)) (hc : if_icmp.holds cd x 0 = true) (ho : 0 ≤ (pc : Int) + o) (hp : ((pc : Int) + o).toNat = pc') : Rc C R own bs ml Z n0 ce sl pc' Ls rest h Ds :=
  H.go fun T t hA hx hby kk => XS.ifYes hA hx rfl (pc0 := pc) rfl (hb hby hd) rfl ((if0 _ _).trans hc) ho hp kk
theorem Rc.ifN {pc' : Nat} {o : Int} {cd : ClassFile.Cond} {x : Int32} (H : Rc C R own bs ml Z n0 ce sl pc Ls (.int x :: rest) h Ds) (hd : decode bs pc = .ok (.ifCond cd o, 3)) (hc : if_icmp.holds cd x 0 = false) (hp : pc + 3 = pc') : Rc C R own bs ml Z n0 ce sl pc' Ls rest h Ds := by
  subst hp
  exact H.go fun T t hA hx hby kk => XS.ifNo hA hx rfl (hb hby hd) rfl ((if0 _ _).trans hc) kk
theorem Rc.icmpY {pc' : Nat} {o : Int} {cd : ClassFile.Cond} {x y : Int32} (H : Rc C R own bs ml Z n0 ce sl pc Ls (.int y :: .int x :: rest) h Ds) (hd : decode bs pc = .ok (.if_icmp cd o, 3)) (hc : if_icmp.holds cd x y = true) (ho : 0 ≤ (pc : Int) + o) (hp : ((pc : Int) + o).toNat = pc') : Rc C R own bs ml Z n0 ce sl pc' Ls rest h Ds :=
  H.go fun T t hA hx hby kk => XS.icmpYes hA hx rfl (pc0 := pc) rfl (hb hby hd) rfl hc ho hp kk
theorem Rc.icmpN {pc' : Nat} {o : Int} {cd : ClassFile.Cond} {x y : Int32} (H : Rc C R own bs ml Z n0 ce sl pc Ls (.int y :: .int x :: rest) h Ds) (hd : decode bs pc = .ok (.if_icmp cd o, 3)) (hc : if_icmp.holds cd x y = false) (hp : pc + 3 = pc') : Rc C R own bs ml Z n0 ce sl pc' Ls rest h Ds := by
  subst hp
  exact H.go fun T t hA hx hby kk => XS.icmpNo hA hx rfl (hb hby hd) rfl hc kk
theorem Rc.ifnullY {pc' : Nat} {o : Int} (H : Rc C R own bs ml Z n0 ce sl pc Ls (.null :: rest) h Ds) (hd : decode bs pc = .ok (.ifnull o, 3)) (ho : 0 ≤ (pc : Int) + o) (hp : ((pc : Int) + o).toNat = pc') : Rc C R own bs ml Z n0 ce sl pc' Ls rest h Ds :=
  H.go fun T t hA hx hby kk => XS.ifnullYes hA hx rfl (pc0 := pc) rfl (hb hby hd) rfl ho hp kk
theorem Rc.ifnullN {pc' : Nat} {b : Addr} {o : Int} (H : Rc C R own bs ml Z n0 ce sl pc Ls (.ref b :: rest) h Ds) (hd : decode bs pc = .ok (.ifnull o, 3)) (hp : pc + 3 = pc') : Rc C R own bs ml Z n0 ce sl pc' Ls rest h Ds := by
  subst hp
  exact H.go fun T t hA hx hby kk => XS.ifnullNo hA hx rfl (hb hby hd) rfl kk
theorem Rc.ifnonnullY {pc' : Nat} {b : Addr} {o : Int} (H : Rc C R own bs ml Z n0 ce sl pc Ls (.ref b :: rest) h Ds) (hd : decode bs pc = .ok (.ifnonnull o, 3)) (ho : 0 ≤ (pc : Int) + o) (hp : ((pc : Int) + o).toNat = pc') : Rc C R own bs ml Z n0 ce sl pc' Ls rest h Ds :=
  H.go fun T t hA hx hby kk => XS.ifnonnullYes hA hx rfl (pc0 := pc) rfl (hb hby hd) rfl ho hp kk
theorem Rc.ifnonnullN {pc' : Nat} {o : Int} (H : Rc C R own bs ml Z n0 ce sl pc Ls (.null :: rest) h Ds) (hd : decode bs pc = .ok (.ifnonnull o, 3)) (hp : pc + 3 = pc') : Rc C R own bs ml Z n0 ce sl pc' Ls rest h Ds := by
  subst hp
  exact H.go fun T t hA hx hby kk => XS.ifnonnullNo hA hx rfl (hb hby hd) rfl kk
theorem Rc.acmp {pc' : Nat} {o : Int} {cd : ACond} {x y : Value} {same : Bool} (H : Rc C R own bs ml Z n0 ce sl pc Ls (y :: x :: rest) h Ds) (hd : decode bs pc = .ok (.if_acmp cd o, 3)) (h1 : x.isRef = true) (h2 : y.isRef = true) (hq : decide (x = y) = same) (ho : 0 ≤ (pc : Int) + o) (hp : pc' = if acV cd same = true then ((pc : Int) + o).toNat else pc + 3) : Rc C R own bs ml Z n0 ce sl pc' Ls rest h Ds :=
  H.goX fun s T locs t X hZ hown eT hx hby kk => Jvm.RoadKit.acmp X hx rfl h1 h2 (pc0 := pc) rfl (hb hby hd) rfl hq ho hp kk

theorem own_ws1 {a : Addr} {Ds : List Addr} (ha : a ∈ Ds) : ∀ x ∈ [a], x ∈ Ds := fun x hx => by rw [List.mem_singleton.mp hx]; exact ha
theorem Rc.getF {pc' : Nat} {a : Addr} {v : Value} {R0 O n d host : String} {idx : Nat} (H : Rc C R own bs ml Z n0 ce sl pc Ls (.ref a :: rest) h Ds) (w : (Jvm.Cond.fieldLink own idx R0 n d).before a0 Z = true ∨ (Jvm.Cond.fieldLinkNest own idx R0 n d host).before a0 Z = true) (via : Via Z R0 O n d) (F : Fld Z h a O n d v) (hd : decode bs pc = .ok (.getfield idx, 3)) (hp : pc + 3 = pc') : Rc C R own bs ml Z n0 ce sl pc' Ls (v :: rest) h Ds := by
  subst hp
  obtain ⟨T, locs, vm0, k0, X, h1, h2, h3, h4, h5, h6, h7, k⟩ := H
  obtain ⟨T', X', e', st⟩ := RoadKit.getF X h7.1 (Z := Z) h3 h7.2.2.2.1 w via h5 F (g := mkF C.m pc Ls (.ref a :: rest)) rfl rfl (hb h7.2.1 hd)
  exact ⟨T', locs, vm0, k0, X', h1, h2, h3, h4, e', h6, h7, fun t ht => k _ (st _ ht)⟩
theorem Rc.getS {pc' : Nat} {v : Value} {R0 O n d host : String} {idx : Nat} (H : Rc C R own bs ml Z n0 ce sl pc Ls S h Ds) (w : (Jvm.Cond.fieldLink own idx R0 n d).before a0 Z = true ∨ (Jvm.Cond.fieldLinkNest own idx R0 n d host).before a0 Z = true) (via : Via Z R0 O n d) (F : Sta Z Z.heap O n d v) (hd : decode bs pc = .ok (.getstatic idx, 3)) (hp : pc + 3 = pc') : Rc C R own bs ml Z n0 ce sl pc' Ls (v :: S) h Ds := by
  subst hp
  obtain ⟨T, locs, vm0, k0, X, h1, h2, h3, h4, h5, h6, h7, k⟩ := H
  obtain ⟨T', X', e', st⟩ := getS2 X h7.1 (Z := Z) h3 h7.2.2.2.1 w via h5 (F.ext h4.1.2) (g := mkF C.m pc Ls S) rfl (hb h7.2.1 hd)
  exact ⟨T', locs, vm0, k0, X', h1, h2, h3, h4, e', h6, h7, fun t ht => k _ (st _ ht)⟩
theorem Rc.putF {pc' : Nat} {a : Addr} {v old : Value} {R0 O n d host Cc : String} {idx kk : Nat} {ty : FieldType} (H : Rc C R own bs ml Z n0 ce sl pc Ls (v :: .ref a :: rest) h Ds) (w : (Jvm.Cond.fieldLink own idx R0 n d).before a0 Z = true ∨ (Jvm.Cond.fieldLinkNest own idx R0 n d host).before a0 Z = true) (via : Via Z R0 O n d) (F : Fld Z h a O n d old) (E : Exa Z h a Cc)
    (L : (Jvm.Cond.lays Cc O n d).before a0 Z = true ∨ ((Jvm.Cond.laysFinal Cc O n d).before a0 Z = true ∧ own = O ∧ C.meth.name = "<init>")) (wi : (Jvm.Cond.instantiable Cc kk).before a0 Z = true) (hty : parseFieldDescriptor d = some ty) (hn : narrow ty v = v) (hf : fits ty v = true) (ha : a ∈ Ds) (hd : decode bs pc = .ok (.putfield idx, 3)) (hp : pc + 3 = pc') :
    ∃ h', Wr h h' a (RoadKit.slotOf Z O n d) v ∧ Rc C R own bs ml Z n0 ce sl pc' Ls rest h' Ds := by
  subst hp
  obtain ⟨T, locs, vm0, k0, X, h1, h2, h3, h4, h5, h6, h7, k⟩ := H
  obtain ⟨T', h', X', e', W', st⟩ := RoadKit.putF X h7.1 (Z := Z) h3 h7.2.2.2.1 w via h5 F E L wi hty hn hf (g := mkF C.m pc Ls (v :: .ref a :: rest)) rfl rfl (hb h7.2.1 hd)
  exact ⟨h', W', T', _, vm0, k0, X', h1, by rw [W'.size]; exact h2, h3, h4.keep (Keep.of_wr W') (own_ws1 ha), e', Fr.snoc X' h6 (h4.2.2.1 a ha).1, h7, fun t ht => k _ (st _ ht)⟩
theorem Rc.putFN {pc' : Nat} {a : Addr} {v v' old : Value} {R0 O n d Cc : String} {idx kk : Nat} {ty : FieldType} (H : Rc C R own bs ml Z n0 ce sl pc Ls (v :: .ref a :: rest) h Ds) (w : (Jvm.Cond.fieldLink own idx R0 n d).before a0 Z = true) (via : Via Z R0 O n d) (F : Fld Z h a O n d old) (E : Exa Z h a Cc)
    (L : (Jvm.Cond.lays Cc O n d).before a0 Z = true ∨ ((Jvm.Cond.laysFinal Cc O n d).before a0 Z = true ∧ own = O ∧ C.meth.name = "<init>")) (wi : (Jvm.Cond.instantiable Cc kk).before a0 Z = true) (hty : parseFieldDescriptor d = some ty) (hn : narrow ty v = v') (hf : fits ty v' = true) (ha : a ∈ Ds) (hd : decode bs pc = .ok (.putfield idx, 3)) (hp : pc + 3 = pc') :
    ∃ h', Wr h h' a (RoadKit.slotOf Z O n d) v' ∧ Rc C R own bs ml Z n0 ce sl pc' Ls rest h' Ds := by
  subst hp
  obtain ⟨T, locs, vm0, k0, X, h1, h2, h3, h4, h5, h6, h7, k⟩ := H
  obtain ⟨T', h', X', e', W', st⟩ := RoadKit.putFN X h7.1 (Z := Z) h3 h7.2.2.2.1 w via h5 F E L wi hty hn hf (g := mkF C.m pc Ls (v :: .ref a :: rest)) rfl rfl (hb h7.2.1 hd)
  exact ⟨h', W', T', _, vm0, k0, X', h1, by rw [W'.size]; exact h2, h3, h4.keep (Keep.of_wr W') (own_ws1 ha), e', Fr.snoc X' h6 (h4.2.2.1 a ha).1, h7, fun t ht => k _ (st _ ht)⟩
theorem Rc.newO {pc' : Nat} {Cc : String} {idx n : Nat} (H : Rc C R own bs ml Z n0 ce sl pc Ls S h Ds) (w : (Jvm.Cond.classLink own idx Cc).before a0 Z = true) (wi : (Jvm.Cond.instantiable Cc n).before a0 Z = true) (wz : (Jvm.Cond.initialized Cc).before a0 Z = true) (hd : decode bs pc = .ok (.new idx, 3)) (hc : ce + 1 ≤ R.cells) (hl : sl + n ≤ R.slots) (hp : pc + 3 = pc') :
    ∃ (h' : Heap) (b : Addr), b = h.size ∧ Ext h h' ∧ Exa Z h' b Cc ∧ (∀ {O nm d : String} {ty : FieldType}, Laid Z a0 Cc O nm d → parseFieldDescriptor d = some ty → Fld Z h' b O nm d (defaultValue ty)) ∧ Rc C R own bs ml Z n0 (ce + 1) (sl + n) pc' Ls (.ref b :: S) h' (b :: Ds) := by
  subst hp
  obtain ⟨T, locs, vm0, k0, X, h1, h2, h3, h4, h5, h6, h7, k⟩ := H
  obtain ⟨T', h', X', e', E', A', D', -, st⟩ := RoadKit.newO X h7.1 (Z := Z) h3 h7.2.2.2.1 w wi wz h5 (g := mkF C.m pc Ls S) rfl (hb h7.2.1 hd) hc hl
  exact ⟨h', h.size, rfl, E', A', D', T', _, vm0, k0, X', h1, Nat.le_trans h2 E'.1, h3, h4.born E' A'.lt, e', h6, h7, fun t ht => k _ (st _ ht)⟩
theorem Rc.newP {pc' : Nat} {aty : ArrayType} {n : Int32} {cap : Nat} (H : Rc C R own bs ml Z n0 ce sl pc Ls (.int n :: rest) h Ds) (w : (Jvm.Cond.arrayClass (newarray.typeOf aty)).before a0 Z = true) (hd : decode bs pc = .ok (.newarray aty, 2)) (hn : ¬ n < 0) (hcap : n.toNatClampNeg ≤ cap) (hb' : cap * 8 ≤ 536870912) (hc : ce + 1 ≤ R.cells) (hl : sl + cap ≤ R.slots) (hp : pc + 2 = pc') :
    ∃ (h' : Heap) (b : Addr) (kA : ClassId), b = h.size ∧ Ext h h' ∧ Arv Z h' b kA (newarray.typeOf aty) n [] (defaultValue (newarray.typeOf aty)) ∧ Rc C R own bs ml Z n0 (ce + 1) (sl + cap) pc' Ls (.ref b :: rest) h' (b :: Ds) := by
  subst hp
  obtain ⟨T, locs, vm0, k0, X, h1, h2, h3, h4, h5, h6, h7, k⟩ := H
  obtain ⟨T', h', kA, X', e', E', A', st⟩ := RoadKit.newP X h7.1 (Z := Z) h3 w h5 (g := mkF C.m pc Ls (.int n :: rest)) rfl (hb h7.2.1 hd) rfl hn hcap hb' hc hl
  exact ⟨h', h.size, kA, rfl, E', Arv.new A' hn, T', _, vm0, k0, X', h1, Nat.le_trans h2 E'.1, h3, h4.born E' A'.lt, e', h6, h7, fun t ht => k _ (st _ ht)⟩
theorem Rc.castore {pc' : Nat} {a : Addr} {x j z : Int32} {kA : ClassId} {vs : List Value} {dv : Value} (H : Rc C R own bs ml Z n0 ce sl pc Ls (.int x :: .int j :: .ref a :: rest) h Ds) (V : Arv Z h a kA .char z vs dv) (hj : ¬ j < 0 ∧ j < z) (i : Nat) (hi : j.toNatClampNeg = i) (hl : i < vs.length) (ha : a ∈ Ds) (hd : decode bs pc = .ok (.castore, 1)) (hp : pc + 1 = pc') :
    ∃ h', Keep h h' [a] ∧ Arv Z h' a kA .char z (vs.set i (.int (nar .char x))) dv ∧ Rc C R own bs ml Z n0 ce sl pc' Ls rest h' Ds := by
  subst hp
  obtain ⟨T, locs, vm0, k0, X, h1, h2, h3, h4, h5, h6, h7, k⟩ := H
  obtain ⟨cl, Ar, q1, q2, q3, q4, q5⟩ := V
  obtain ⟨T', h', X', e', W', st⟩ := stC X h7.1 (Z := Z) h3 h5 Ar (j := j) (inb_of q2 hj) (g := mkF C.m pc Ls (.int x :: .int j :: .ref a :: rest)) rfl rfl (hb h7.2.1 hd)
  exact ⟨h', Keep.of_wr W', Arv.set Ar q1 q2 q3 q4 q5 (fits_nar_char _) W' i hi hl, T', _, vm0, k0, X', h1, by rw [W'.size]; exact h2, h3, h4.keep (Keep.of_wr W') (own_ws1 ha), e', Fr.snoc X' h6 (h4.2.2.1 a ha).1, h7, fun t ht => k _ (st _ ht)⟩
theorem Rc.bastore {pc' : Nat} {a : Addr} {x j z : Int32} {kA : ClassId} {vs : List Value} {dv : Value} (H : Rc C R own bs ml Z n0 ce sl pc Ls (.int x :: .int j :: .ref a :: rest) h Ds) (V : Arv Z h a kA .byte z vs dv) (hj : ¬ j < 0 ∧ j < z) (i : Nat) (hi : j.toNatClampNeg = i) (hl : i < vs.length) (ha : a ∈ Ds) (hd : decode bs pc = .ok (.bastore, 1)) (hp : pc + 1 = pc') :
    ∃ h', Keep h h' [a] ∧ Arv Z h' a kA .byte z (vs.set i (.int (nar .byte x))) dv ∧ Rc C R own bs ml Z n0 ce sl pc' Ls rest h' Ds := by
  subst hp
  obtain ⟨T, locs, vm0, k0, X, h1, h2, h3, h4, h5, h6, h7, k⟩ := H
  obtain ⟨cl, Ar, q1, q2, q3, q4, q5⟩ := V
  obtain ⟨T', h', X', e', W', st⟩ := stB X h7.1 (Z := Z) h3 h5 Ar (j := j) (inb_of q2 hj) (g := mkF C.m pc Ls (.int x :: .int j :: .ref a :: rest)) rfl rfl (hb h7.2.1 hd)
  exact ⟨h', Keep.of_wr W', Arv.set Ar q1 q2 q3 q4 q5 (fits_nar_byte _) W' i hi hl, T', _, vm0, k0, X', h1, by rw [W'.size]; exact h2, h3, h4.keep (Keep.of_wr W') (own_ws1 ha), e', Fr.snoc X' h6 (h4.2.2.1 a ha).1, h7, fun t ht => k _ (st _ ht)⟩
theorem Rc.caload {pc' : Nat} {a : Addr} {j z : Int32} {v : Value} {kA : ClassId} {vs : List Value} {dv : Value} (H : Rc C R own bs ml Z n0 ce sl pc Ls (.int j :: .ref a :: rest) h Ds) (V : Arv Z h a kA .char z vs dv) (hj : ¬ j < 0 ∧ j < z) (hv : vs.getD j.toNatClampNeg dv = v) (hd : decode bs pc = .ok (.caload, 1)) (hp : pc + 1 = pc') : Rc C R own bs ml Z n0 ce sl pc' Ls (v :: rest) h Ds := by
  subst hp
  obtain ⟨cl, Ar, q1, q2, q3, q4, q5⟩ := V
  exact H.goX fun s T locs t X hZ hown eT hx hby kk => X.caload hx (j := j) (v := v) (by rw [eT]; exact Ar.1) (State.isArrayOf_alike hZ.alike Ar.2.1) Ar.2.2 (inb_of q2 hj) (q4.at (inb_of q2 hj) hv) (g := mkF C.m pc Ls (.int j :: .ref a :: rest)) rfl rfl (hb hby hd) _ kk
theorem Rc.baload {pc' : Nat} {a : Addr} {j z : Int32} {v : Value} {kA : ClassId} {vs : List Value} {dv : Value} (H : Rc C R own bs ml Z n0 ce sl pc Ls (.int j :: .ref a :: rest) h Ds) (V : Arv Z h a kA .byte z vs dv) (hj : ¬ j < 0 ∧ j < z) (hv : vs.getD j.toNatClampNeg dv = v) (hd : decode bs pc = .ok (.baload, 1)) (hp : pc + 1 = pc') : Rc C R own bs ml Z n0 ce sl pc' Ls (v :: rest) h Ds := by
  subst hp
  obtain ⟨cl, Ar, q1, q2, q3, q4, q5⟩ := V
  exact H.goX fun s T locs t X hZ hown eT hx hby kk => X.baloadBytes hx (j := j) (v := v) (by rw [eT]; exact Ar.1) (State.isArrayOf_alike hZ.alike Ar.2.1) Ar.2.2 (inb_of q2 hj) (q4.at (inb_of q2 hj) hv) (g := mkF C.m pc Ls (.int j :: .ref a :: rest)) rfl rfl (hb hby hd) _ kk
theorem Rc.aaload {pc' : Nat} {a : Addr} {j z : Int32} {v : Value} {kA : ClassId} {ty : FieldType} {vs : List Value} {dv : Value} (H : Rc C R own bs ml Z n0 ce sl pc Ls (.int j :: .ref a :: rest) h Ds) (V : Arv Z h a kA ty z vs dv) (hty : ty.isReference = true) (hj : ¬ j < 0 ∧ j < z) (hv : vs.getD j.toNatClampNeg dv = v) (hd : decode bs pc = .ok (.aaload, 1)) (hp : pc + 1 = pc') : Rc C R own bs ml Z n0 ce sl pc' Ls (v :: rest) h Ds := by
  subst hp
  obtain ⟨cl, Ar, q1, q2, q3, q4, q5⟩ := V
  exact H.goX fun s T locs t X hZ hown eT hx hby kk => X.aaload hx (j := j) (v := v) (by rw [eT]; exact Ar.1) (State.isArrayOf_alike hZ.alike Ar.2.1) hty Ar.2.2 (inb_of q2 hj) (q4.at (inb_of q2 hj) hv) (g := mkF C.m pc Ls (.int j :: .ref a :: rest)) rfl rfl (hb hby hd) _ kk
theorem Rc.arraylength {pc' : Nat} {a : Addr} {z : Int32} {kA : ClassId} {ty : FieldType} {vs : List Value} {dv : Value} (H : Rc C R own bs ml Z n0 ce sl pc Ls (.ref a :: rest) h Ds) (V : Arv Z h a kA ty z vs dv) (hd : decode bs pc = .ok (.arraylength, 1)) (hp : pc + 1 = pc') : Rc C R own bs ml Z n0 ce sl pc' Ls (.int z :: rest) h Ds := by
  subst hp
  obtain ⟨cl, Ar, q1, q2, q3, q4, q5⟩ := V
  have e := len_of q2 q3
  exact H.goX fun s T locs t X hZ hown eT hx hby kk => X.arraylength hx (by rw [eT]; exact Ar.1) (State.isArrayOf_alike hZ.alike Ar.2.1) (g := mkF C.m pc Ls (.ref a :: rest)) rfl rfl (hb hby hd) _ (by rw [e]; exact kk)
theorem Rc.initO {pc' : Nat} {a : Addr} {idx W : Nat} (H : Rc C R own bs ml Z n0 ce sl pc Ls (.ref a :: rest) h Ds) (w1 : (Jvm.Cond.methodLink own idx Lib.objectInit).before a0 Z = true) (w2 : (Jvm.Cond.instanceMethod Lib.objectInit).before a0 Z = true) (w3 : (Jvm.Cond.code Lib.objectInit ⟨#[0xb1]⟩ 1 none).before a0 Z = true) (hsz : Ls.size = ml) (hd : decode bs pc = .ok (.invokespecial idx, 3)) (hf : 1 ≤ R.frames) (hW : (rest.map fun v => v.category).sum = W) (hl : W + 12 ≤ R.locals) (hp : pc + 3 = pc') : Rc C R own bs ml Z n0 ce sl pc' Ls rest h Ds := by
  subst hp
  obtain ⟨T, locs, vm0, k0, X, h1, h2, h3, h4, h5, h6, h7, k⟩ := H
  obtain ⟨T', X', e', st⟩ := RoadKit.initO X h7.1 (Z := Z) h3 h7.2.2.2.1 w1 w2 w3 h5 (g := mkF C.m pc Ls (.ref a :: rest)) rfl (hsz.trans h7.2.2.1.symm) rfl (hb h7.2.1 hd) hf (W := W) (by show 2 * 0 + _ ≤ _; omega) hl
  exact ⟨T', locs, vm0, k0, X', h1, h2, h3, h4, e', h6, h7, fun t ht => k _ (st _ ht)⟩
theorem Rc.castY {pc' : Nat} {a : Addr} {K : String} {idx : Nat} (H : Rc C R own bs ml Z n0 ce sl pc Ls (.ref a :: rest) h Ds) (w : (Jvm.Cond.classLink own idx K).before a0 Z = true) (F : Ins Z h a K true) (hd : decode bs pc = .ok (.checkcast idx, 3)) (hp : pc + 3 = pc') : Rc C R own bs ml Z n0 ce sl pc' Ls (.ref a :: rest) h Ds := by
  subst hp
  obtain ⟨T, locs, vm0, k0, X, h1, h2, h3, h4, h5, h6, h7, k⟩ := H
  obtain ⟨T', X', e', st⟩ := RoadKit.castY X h7.1 (Z := Z) h3 h7.2.2.2.1 w h5 F (g := mkF C.m pc Ls (.ref a :: rest)) rfl rfl (hb h7.2.1 hd)
  exact ⟨T', locs, vm0, k0, X', h1, h2, h3, h4, e', h6, h7, fun t ht => k _ (st _ ht)⟩
theorem Rc.castNull {pc' : Nat} {idx : Nat} (H : Rc C R own bs ml Z n0 ce sl pc Ls (.null :: rest) h Ds) (hd : decode bs pc = .ok (.checkcast idx, 3)) (hp : pc + 3 = pc') : Rc C R own bs ml Z n0 ce sl pc' Ls (.null :: rest) h Ds := by
  subst hp
  exact H.goX fun s T locs t X hZ hown eT hx hby kk => X.checkcastNull hx (g := mkF C.m pc Ls (.null :: rest)) rfl rfl (hb hby hd) _ kk
theorem Rc.instNull {pc' : Nat} {idx : Nat} (H : Rc C R own bs ml Z n0 ce sl pc Ls (.null :: rest) h Ds) (hd : decode bs pc = .ok (.instanceof idx, 3)) (hp : pc + 3 = pc') : Rc C R own bs ml Z n0 ce sl pc' Ls (.int 0 :: rest) h Ds := by
  subst hp
  exact H.goX fun s T locs t X hZ hown eT hx hby kk => X.instanceofNull hx (g := mkF C.m pc Ls (.null :: rest)) rfl rfl (hb hby hd) _ kk
theorem Rc.instY {pc' : Nat} {a : Addr} {K : String} {idx : Nat} (H : Rc C R own bs ml Z n0 ce sl pc Ls (.ref a :: rest) h Ds) (w : (Jvm.Cond.classLink own idx K).before a0 Z = true) (F : Ins Z h a K true) (hd : decode bs pc = .ok (.instanceof idx, 3)) (hp : pc + 3 = pc') : Rc C R own bs ml Z n0 ce sl pc' Ls (.int 1 :: rest) h Ds := by
  subst hp
  obtain ⟨T, locs, vm0, k0, X, h1, h2, h3, h4, h5, h6, h7, k⟩ := H
  obtain ⟨T', X', e', st⟩ := RoadKit.instY X h7.1 (Z := Z) h3 h7.2.2.2.1 w h5 F (g := mkF C.m pc Ls (.ref a :: rest)) rfl rfl (hb h7.2.1 hd)
  exact ⟨T', locs, vm0, k0, X', h1, h2, h3, h4, e', h6, h7, fun t ht => k _ (st _ ht)⟩
theorem Rc.instNo {pc' : Nat} {a : Addr} {K Cc : String} {idx : Nat} (H : Rc C R own bs ml Z n0 ce sl pc Ls (.ref a :: rest) h Ds) (w : (Jvm.Cond.classLink own idx K).before a0 Z = true) (E : Exa Z h a Cc) (F : ∃ c t, Z.vm.findClass Cc = some c ∧ Z.vm.findClass K = some t ∧ Z.vm.assignable c t = false) (hd : decode bs pc = .ok (.instanceof idx, 3)) (hp : pc + 3 = pc') : Rc C R own bs ml Z n0 ce sl pc' Ls (.int 0 :: rest) h Ds := by
  subst hp
  obtain ⟨T, locs, vm0, k0, X, h1, h2, h3, h4, h5, h6, h7, k⟩ := H
  obtain ⟨T', X', e', st⟩ := RoadKit.instNo X h7.1 (Z := Z) h3 h7.2.2.2.1 w h5 E F (g := mkF C.m pc Ls (.ref a :: rest)) rfl rfl (hb h7.2.1 hd)
  exact ⟨T', locs, vm0, k0, X', h1, h2, h3, h4, e', h6, h7, fun t ht => k _ (st _ ht)⟩
/-! calls by a contract -/
abbrev NoMH (y : MethodName) : Prop := y.cls ≠ "java/lang/invoke/MethodHandle" ∧ y.cls ≠ "java/lang/invoke/VarHandle"
theorem own_fin {Q : Option Value → Heap → List Addr → Prop} {T : State} {locs : List Loc} {vm0 : Vm} {k0 pc' : Nat} {g : JFrame} {rm : Room} {v : Option Value} {B : Pt} {rest : List Value}
    (h1 : C.s.Since vm0 k0) (h2 : k0 ≤ h.size) (h3 : Z.Warmed39 vm0) (h5 : T.heap = h) (h6 : Fr n0 locs) (h7 : C.p.tables.exec = Jvm.exec ∧ C.c.code = bs ∧ C.c.maxLocals = ml ∧ vm0.findClass own = some C.m.cls ∧ C.meth.locks = false)
    (k : ∀ t, Steps C.p.tables C.e C.below (T.setTop g) t → Steps C.p.tables C.e C.below C.s0 t)
    (X' : Stand C.p C.l C.e R ((C.s.setVm vm0).setVm B.U.vm) C.m C.args C.below C.meth C.c B.U B.locs B.cells B.slots) (hS' : (C.s.setVm vm0).Since B.U.vm B.U.heap.size) (hgr : T.heap.size ≤ B.U.heap.size)
    (hq : ∃ (L : List Loc) (Ds' : List Addr), Q v B.U.heap Ds' ∧ JJ Z n0 B.U.vm B.U.heap Ds' ∧ Fr n0 L ∧ B.locs = locs ++ L ∧ B.cells = ce + rm.cells ∧ B.slots = sl + rm.slots)
    (st : Steps C.p.tables C.e C.below (T.setTop g) (B.U.setTop (mkF C.m pc' Ls (v.toList ++ rest)))) :
    ∃ (v : Option Value) (h' : Heap) (Ds' : List Addr), Q v h' Ds' ∧ Rc C R own bs ml Z n0 (ce + rm.cells) (sl + rm.slots) pc' Ls (v.toList ++ rest) h' Ds' := by
  obtain ⟨L, Ds', hQ, hJ, hFr, e1, e2, e3⟩ := hq
  refine ⟨v, B.U.heap, Ds', hQ, B.U, B.locs, B.U.vm, B.U.heap.size, ?_, h1.trans hS' (by rw [h5] at hgr; exact Nat.le_trans h2 hgr), Nat.le_refl _, State.Warmed39.trans (t := C.s.setVm vm0) h3 hS'.1, hJ, rfl, ?_, ⟨h7.1, h7.2.1, h7.2.2.1, ?_, h7.2.2.2.2⟩, fun t ht => k _ (st.trans ht)⟩
  · rw [← e2, ← e3]; exact X'
  · rw [e1]; exact Fr.app h6 hFr
  · rw [hS'.1.alike.findClass]; exact h7.2.2.2.1
theorem Rc.callS {pc' : Nat} {y : MethodName} {idx ml' W : Nat} {by' : ByteArray} {ret' : Option FieldType} {rm : Room} {argsL : List Value} {Q : Option Value → Heap → List Addr → Prop} (H : Rc C R own bs ml Z n0 ce sl pc Ls S h Ds)
    (hlink : (Jvm.Cond.methodLink own idx y).before a0 Z = true) (hstat : (Jvm.Cond.static y).before a0 Z = true) (hinit : (Jvm.Cond.initialized y.cls).before a0 Z = true) (hcode : (Jvm.Cond.code y by' ml' ret').before a0 Z = true) (hy : NoMH y)
    (K : Ctr C.l Z y by' ml' ret' [] rm argsL.toArray h n0 Ds Q) (hsz : Ls.size = ml) (hlen : ∀ sig, parseMethodDescriptor y.desc = some sig → argsL.length = sig.parameters.length) (hst : S = argsL.reverse ++ rest) (hW : (rest.map fun v => v.category).sum = W)
    (hd : decode bs pc = .ok (.invokestatic idx, 3)) (hfr : rm.frames + 1 ≤ R.frames) (hlo : W + (ml' + 11) + rm.locals ≤ R.locals) (hce : ce + rm.cells ≤ R.cells) (hsl : sl + rm.slots ≤ R.slots) (hp : pc + 3 = pc') :
    ∃ (v : Option Value) (h' : Heap) (Ds' : List Addr), Q v h' Ds' ∧ Rc C R own bs ml Z n0 (ce + rm.cells) (sl + rm.slots) pc' Ls (v.toList ++ rest) h' Ds' := by
  subst hp hst
  obtain ⟨T, locs, vm0, k0, X, h1, h2, h3, h4, h5, h6, h7, k⟩ := H
  obtain ⟨v, vm₁, B, hw1, X', hS', hgr, hq, st⟩ := callSS X h7.1 h7.2.2.2.1 (mvT (s := C.s.setVm vm0) h3 hlink) (mvT (s := C.s.setVm vm0) h3 hstat) (mvT (s := C.s.setVm vm0) h3 hinit) (mvT (s := C.s.setVm vm0) h3 hcode) hy (ctrBack (s := C.s.setVm vm0) (W := W) K h3 h4 hcode hinit hfr hlo) (g := mkF C.m pc Ls (argsL.reverse ++ rest)) rfl (hsz.trans h7.2.2.1.symm) hlen rfl (by show 2 * 0 + _ ≤ _; omega) (hb h7.2.1 hd) (fun vm₁ hw => ⟨rfl, h5, hce, hsl⟩)
  exact own_fin h1 h2 h3 h5 h6 h7 k X' hS' hgr hq st
theorem Rc.callSN {pc' : Nat} {y : MethodName} {host : String} {idx ml' W : Nat} {by' : ByteArray} {ret' : Option FieldType} {rm : Room} {argsL : List Value} {Q : Option Value → Heap → List Addr → Prop} (H : Rc C R own bs ml Z n0 ce sl pc Ls S h Ds)
    (hlink : (Jvm.Cond.methodLinkNest own idx y host).before a0 Z = true) (hstat : (Jvm.Cond.static y).before a0 Z = true) (hinit : (Jvm.Cond.initialized y.cls).before a0 Z = true) (hcode : (Jvm.Cond.code y by' ml' ret').before a0 Z = true) (hy : NoMH y)
    (K : Ctr C.l Z y by' ml' ret' [] rm argsL.toArray h n0 Ds Q) (hsz : Ls.size = ml) (hlen : ∀ sig, parseMethodDescriptor y.desc = some sig → argsL.length = sig.parameters.length) (hst : S = argsL.reverse ++ rest) (hW : (rest.map fun v => v.category).sum = W)
    (hd : decode bs pc = .ok (.invokestatic idx, 3)) (hfr : rm.frames + 1 ≤ R.frames) (hlo : W + (ml' + 11) + rm.locals ≤ R.locals) (hce : ce + rm.cells ≤ R.cells) (hsl : sl + rm.slots ≤ R.slots) (hp : pc + 3 = pc') :
    ∃ (v : Option Value) (h' : Heap) (Ds' : List Addr), Q v h' Ds' ∧ Rc C R own bs ml Z n0 (ce + rm.cells) (sl + rm.slots) pc' Ls (v.toList ++ rest) h' Ds' := by
  subst hp hst
  obtain ⟨T, locs, vm0, k0, X, h1, h2, h3, h4, h5, h6, h7, k⟩ := H
  obtain ⟨v, vm₁, B, hw1, X', hS', hgr, hq, st⟩ := callSNS X h7.1 h7.2.2.2.1 (Jvm.Cond.methodLinkNest_wide h3 hlink) (mvT (s := C.s.setVm vm0) h3 hstat) (mvT (s := C.s.setVm vm0) h3 hinit) (mvT (s := C.s.setVm vm0) h3 hcode) hy (ctrBack (s := C.s.setVm vm0) (W := W) K h3 h4 hcode hinit hfr hlo) (g := mkF C.m pc Ls (argsL.reverse ++ rest)) rfl (hsz.trans h7.2.2.1.symm) hlen rfl (by show 2 * 0 + _ ≤ _; omega) (hb h7.2.1 hd) (fun vm₁ hw => ⟨rfl, h5, hce, hsl⟩)
  exact own_fin h1 h2 h3 h5 h6 h7 k X' hS' hgr hq st
theorem Rc.callI {pc' : Nat} {y : MethodName} {idx ml' W : Nat} {by' : ByteArray} {rm : Room} {a : Addr} {argsL : List Value} {Q : Option Value → Heap → List Addr → Prop} (H : Rc C R own bs ml Z n0 ce sl pc Ls S h Ds) (hy1 : y.name = "<init>")
    (hlink : (Jvm.Cond.methodLink own idx y).before a0 Z = true) (hinst : (Jvm.Cond.instanceMethod y).before a0 Z = true) (hinit : (Jvm.Cond.initialized y.cls).before a0 Z = true) (hcode : (Jvm.Cond.code y by' ml' none).before a0 Z = true) (hy : NoMH y)
    (K : Ctr C.l Z y by' ml' none [] rm (.ref a :: argsL).toArray h n0 Ds Q) (hsz : Ls.size = ml) (hlen : ∀ sig, parseMethodDescriptor y.desc = some sig → argsL.length = sig.parameters.length) (hst : S = argsL.reverse ++ .ref a :: rest) (hW : (rest.map fun v => v.category).sum = W)
    (hd : decode bs pc = .ok (.invokespecial idx, 3)) (hfr : rm.frames + 1 ≤ R.frames) (hlo : W + (ml' + 11) + rm.locals ≤ R.locals) (hce : ce + rm.cells ≤ R.cells) (hsl : sl + rm.slots ≤ R.slots) (hp : pc + 3 = pc') :
    ∃ (v : Option Value) (h' : Heap) (Ds' : List Addr), Q v h' Ds' ∧ Rc C R own bs ml Z n0 (ce + rm.cells) (sl + rm.slots) pc' Ls (v.toList ++ rest) h' Ds' := by
  subst hp hst
  obtain ⟨T, locs, vm0, k0, X, h1, h2, h3, h4, h5, h6, h7, k⟩ := H
  obtain ⟨v, vm₁, B, hw1, X', hS', hgr, hq, st⟩ := X.specialBackS h7.1 hy1 h7.2.2.2.1 (mvT (s := C.s.setVm vm0) h3 hlink) (mvT (s := C.s.setVm vm0) h3 hinst) (mvT (s := C.s.setVm vm0) h3 hcode) hy (ctrBack (s := C.s.setVm vm0) (W := W) K h3 h4 hcode hinit hfr hlo) (g := mkF C.m pc Ls (argsL.reverse ++ .ref a :: rest)) rfl (hsz.trans h7.2.2.1.symm) (Steps.refl _) hlen rfl (by show 2 * 0 + _ ≤ _; omega) (hb h7.2.1 hd) (fun vm₁ hw => ⟨rfl, h5, hce, hsl⟩)
  exact own_fin h1 h2 h3 h5 h6 h7 k X' hS' hgr hq st
theorem Rc.callV {pc' : Nat} {y z : MethodName} {Cc : String} {idx ml' W : Nat} {by' : ByteArray} {ret' : Option FieldType} {rm : Room} {a : Addr} {argsL : List Value} {Q : Option Value → Heap → List Addr → Prop} (H : Rc C R own bs ml Z n0 ce sl pc Ls S h Ds)
    (hlink : (Jvm.Cond.methodLink own idx y).before a0 Z = true) (hdecl : (Jvm.Cond.declares y).before a0 Z = true) (hnf : ∀ s' : State, Z.Warmed39 s'.vm → NotFace s' y) (hsel : (Jvm.Cond.selects Cc y z).before a0 Z = true) (hinst : (Jvm.Cond.instanceMethod z).before a0 Z = true) (hinit : (Jvm.Cond.initialized z.cls).before a0 Z = true) (hcode : (Jvm.Cond.code z by' ml' ret').before a0 Z = true) (hy : NoMH y)
    (E : Exa Z h a Cc) (K : Ctr C.l Z z by' ml' ret' [] rm (.ref a :: argsL).toArray h n0 Ds Q) (hsz : Ls.size = ml) (hlen : ∀ sig, parseMethodDescriptor y.desc = some sig → argsL.length = sig.parameters.length) (hst : S = argsL.reverse ++ .ref a :: rest) (hW : (rest.map fun v => v.category).sum = W)
    (hd : decode bs pc = .ok (.invokevirtual idx, 3)) (hfr : rm.frames + 1 ≤ R.frames) (hlo : W + (ml' + 11) + rm.locals ≤ R.locals) (hce : ce + rm.cells ≤ R.cells) (hsl : sl + rm.slots ≤ R.slots) (hp : pc + 3 = pc') :
    ∃ (v : Option Value) (h' : Heap) (Ds' : List Addr), Q v h' Ds' ∧ Rc C R own bs ml Z n0 (ce + rm.cells) (sl + rm.slots) pc' Ls (v.toList ++ rest) h' Ds' := by
  subst hp hst
  obtain ⟨T, locs, vm0, k0, X, h1, h2, h3, h4, h5, h6, h7, k⟩ := H
  obtain ⟨cq, kq, qa, qb, qc⟩ := isOf (s := C.s.setVm vm0) h3 h5 E
  obtain ⟨v, vm₁, B, hw1, X', hS', hgr, hq, st⟩ := X.virtualBackS h7.1 (y := y) (z := z) h7.2.2.2.1 (mvT (s := C.s.setVm vm0) h3 hlink) (mvT (s := C.s.setVm vm0) h3 hdecl) (hnf _ h3) (mvT (s := C.s.setVm vm0) h3 hsel) (mvT (s := C.s.setVm vm0) h3 hinst) hy (ctrBack (s := C.s.setVm vm0) (W := W) K h3 h4 hcode hinit hfr hlo) qa qc (g := mkF C.m pc Ls (argsL.reverse ++ .ref a :: rest)) rfl (hsz.trans h7.2.2.1.symm) (Steps.refl _) hlen rfl (by show 2 * 0 + _ ≤ _; omega) (hb h7.2.1 hd) (fun vm₁ hw => ⟨rfl, h5, hce, hsl⟩)
  exact own_fin h1 h2 h3 h5 h6 h7 k X' hS' hgr hq st
/-! calls by a Back (a law of the library's) -/
theorem own_finB {Qb : Option Value → Heap → List Loc → Prop} {T : State} {locs : List Loc} {vm0 : Vm} {k0 pc' kc ks : Nat} {g : JFrame} {v : Option Value} {B : Pt} {rest : List Value}
    (h1 : C.s.Since vm0 k0) (h2 : k0 ≤ h.size) (h3 : Z.Warmed39 vm0) (h4 : JJ Z n0 vm0 h Ds) (h6 : Fr n0 locs) (h7 : C.p.tables.exec = Jvm.exec ∧ C.c.code = bs ∧ C.c.maxLocals = ml ∧ vm0.findClass own = some C.m.cls ∧ C.meth.locks = false)
    (k : ∀ t, Steps C.p.tables C.e C.below (T.setTop g) t → Steps C.p.tables C.e C.below C.s0 t)
    (hQ : ∀ v h' L, Qb v h' L → Fr n0 L ∧ ∃ ws, Keep h h' ws ∧ ∀ x ∈ ws, x ∈ Ds)
    (X' : Stand C.p C.l C.e R (C.s.setVm vm0) C.m C.args C.below C.meth C.c B.U B.locs B.cells B.slots)
    (hq : ∃ (L : List Loc), Qb v B.U.heap L ∧ B.locs = locs ++ L ∧ B.cells = ce + kc ∧ B.slots = sl + ks)
    (st : ∀ t, Steps C.p.tables C.e C.below (B.U.setTop (mkF C.m pc' Ls (v.toList ++ rest))) t → Steps C.p.tables C.e C.below (T.setTop g) t) :
    ∃ (v : Option Value) (h' : Heap) (L : List Loc), Qb v h' L ∧ Rc C R own bs ml Z n0 (ce + kc) (sl + ks) pc' Ls (v.toList ++ rest) h' Ds := by
  obtain ⟨L, hQb, e1, e2, e3⟩ := hq
  obtain ⟨hFr, ws, K, hws⟩ := hQ _ _ _ hQb
  refine ⟨v, B.U.heap, L, hQb, B.U, B.locs, vm0, k0, ?_, h1, Nat.le_trans h2 K.1, h3, h4.keep K hws, rfl, ?_, h7, fun t ht => k _ (st _ ht)⟩
  · rw [← e2, ← e3]; exact X'
  · rw [e1]; exact Fr.app h6 hFr
theorem Rc.backI {pc' : Nat} {y : MethodName} {idx ml' W kc ks : Nat} {by' : ByteArray} {a : Addr} {argsL : List Value} {Qb : Option Value → Heap → List Loc → Prop} (H : Rc C R own bs ml Z n0 ce sl pc Ls S h Ds) (hy1 : y.name = "<init>")
    (hlink : (Jvm.Cond.methodLink own idx y).before a0 Z = true) (hinst : (Jvm.Cond.instanceMethod y).before a0 Z = true) (hcode : (Jvm.Cond.code y by' ml' none).before a0 Z = true) (hy : NoMH y)
    (K : ∀ s' : State, Z.Warmed39 s'.vm → Back C.l R C.p C.e C.below s' C.args y 3 W (fun P a' => a' = (.ref a :: argsL).toArray ∧ P.U.heap = h ∧ P.cells + kc ≤ R.cells ∧ P.slots + ks ≤ R.slots) (fun P _ v B => ∃ L, Qb v B.U.heap L ∧ B.locs = P.locs ++ L ∧ B.cells = P.cells + kc ∧ B.slots = P.slots + ks))
    (hQ : ∀ v h' L, Qb v h' L → Fr n0 L ∧ ∃ ws, Keep h h' ws ∧ ∀ x ∈ ws, x ∈ Ds) (hsz : Ls.size = ml) (hlen : ∀ sig, parseMethodDescriptor y.desc = some sig → argsL.length = sig.parameters.length) (hst : S = argsL.reverse ++ .ref a :: rest) (hW : (rest.map fun v => v.category).sum = W)
    (hd : decode bs pc = .ok (.invokespecial idx, 3)) (hce : ce + kc ≤ R.cells) (hsl : sl + ks ≤ R.slots) (hp : pc + 3 = pc') :
    ∃ (v : Option Value) (h' : Heap) (L : List Loc), Qb v h' L ∧ Rc C R own bs ml Z n0 (ce + kc) (sl + ks) pc' Ls (v.toList ++ rest) h' Ds := by
  subst hp hst
  obtain ⟨T, locs, vm0, k0, X, h1, h2, h3, h4, h5, h6, h7, k⟩ := H
  obtain ⟨v, vm₁, B, hw1, X', hq, st⟩ := X.specialBack h7.1 hy1 h7.2.2.2.1 (mvT (s := C.s.setVm vm0) h3 hlink) (mvT (s := C.s.setVm vm0) h3 hinst) (mvT (s := C.s.setVm vm0) h3 hcode) hy (K _ h3) (g := mkF C.m pc Ls (argsL.reverse ++ .ref a :: rest)) rfl (hsz.trans h7.2.2.1.symm) (Steps.refl _) hlen rfl (by show 2 * 0 + _ ≤ _; omega) (hb h7.2.1 hd) (fun vm₁ hw => ⟨rfl, h5, hce, hsl⟩)
  exact own_finB h1 h2 h3 h4 h6 h7 k hQ X' hq (fun t ht => st.trans ht)
theorem Rc.backV {pc' : Nat} {y z : MethodName} {Cc : String} {idx W kc ks : Nat} {a : Addr} {argsL : List Value} {Qb : Option Value → Heap → List Loc → Prop} (H : Rc C R own bs ml Z n0 ce sl pc Ls S h Ds)
    (hlink : (Jvm.Cond.methodLink own idx y).before a0 Z = true) (hdecl : (Jvm.Cond.declares y).before a0 Z = true) (hnf : ∀ s' : State, Z.Warmed39 s'.vm → NotFace s' y) (hsel : (Jvm.Cond.selects Cc y z).before a0 Z = true) (hinst : (Jvm.Cond.instanceMethod z).before a0 Z = true) (hy : NoMH y) (E : Exa Z h a Cc)
    (K : ∀ s' : State, Z.Warmed39 s'.vm → Back C.l R C.p C.e C.below s' C.args z 3 W (fun P a' => a' = (.ref a :: argsL).toArray ∧ P.U.heap = h ∧ P.cells + kc ≤ R.cells ∧ P.slots + ks ≤ R.slots) (fun P _ v B => ∃ L, Qb v B.U.heap L ∧ B.locs = P.locs ++ L ∧ B.cells = P.cells + kc ∧ B.slots = P.slots + ks))
    (hQ : ∀ v h' L, Qb v h' L → Fr n0 L ∧ ∃ ws, Keep h h' ws ∧ ∀ x ∈ ws, x ∈ Ds) (hsz : Ls.size = ml) (hlen : ∀ sig, parseMethodDescriptor y.desc = some sig → argsL.length = sig.parameters.length) (hst : S = argsL.reverse ++ .ref a :: rest) (hW : (rest.map fun v => v.category).sum = W)
    (hd : decode bs pc = .ok (.invokevirtual idx, 3)) (hce : ce + kc ≤ R.cells) (hsl : sl + ks ≤ R.slots) (hp : pc + 3 = pc') :
    ∃ (v : Option Value) (h' : Heap) (L : List Loc), Qb v h' L ∧ Rc C R own bs ml Z n0 (ce + kc) (sl + ks) pc' Ls (v.toList ++ rest) h' Ds := by
  subst hp hst
  obtain ⟨T, locs, vm0, k0, X, h1, h2, h3, h4, h5, h6, h7, k⟩ := H
  obtain ⟨cq, kq, qa, qb, qc⟩ := isOf (s := C.s.setVm vm0) h3 h5 E
  obtain ⟨v, vm₁, B, hw1, X', hq, st⟩ := X.virtualBack h7.1 (y := y) (z := z) h7.2.2.2.1 (mvT (s := C.s.setVm vm0) h3 hlink) (mvT (s := C.s.setVm vm0) h3 hdecl) (hnf _ h3) (mvT (s := C.s.setVm vm0) h3 hsel) (mvT (s := C.s.setVm vm0) h3 hinst) hy (K _ h3) qa qc (g := mkF C.m pc Ls (argsL.reverse ++ .ref a :: rest)) rfl (hsz.trans h7.2.2.1.symm) (Steps.refl _) hlen rfl (by show 2 * 0 + _ ≤ _; omega) (hb h7.2.1 hd) (fun vm₁ hw => ⟨rfl, h5, hce, hsl⟩)
  exact own_finB h1 h2 h3 h4 h6 h7 k hQ X' hq (fun t ht => st.trans ht)
/-! returns -/
theorem Rc.retX {Q : Option Value → Heap → List Addr → Prop} {v : Option Value} {kc ks : Nat} {Ds' : List Addr} (H : Rc C R own bs ml Z n0 ce sl pc Ls S h Ds) (hv : C.meth.sig.returnType = none → v = none)
    (f : ∀ (s T : State) (locs : List Loc) (fs : List Frame), Stand C.p C.l C.e R s C.m C.args C.below C.meth C.c T locs ce sl → C.p.tables.exec = Jvm.exec → C.c.code = bs → (∀ (f : JFrame) (acts : List Action), f.method = C.m → f.locked = none → f.entered = [] → (doReturn C.e (T.setTop f) acts v).1 = T.setFrames fs) → Steps C.p.tables C.e C.below (T.setTop (mkF C.m pc Ls S)) (T.setFrames fs))
    (hk : ce ≤ kc) (hs : sl ≤ ks) (hds : ∀ x ∈ Ds', x ∈ Ds) (hq : Q v h Ds') : Done C Z n0 Q kc ks := by
  obtain ⟨T, locs, vm0, k0, X, h1, h2, h3, h4, h5, h6, h7, k⟩ := H
  obtain ⟨fs, hr, hrun, hend, hE⟩ := X.leaveW h1 (by rw [h5]; exact h2) hv h7.2.2.2.2
  refine ⟨T.setFrames fs, .returned v, k _ (f _ T locs fs X h7.1 h7.2.1 hr), hrun, hend, v, locs, Ds', rfl, ?_, ?_, h6, hE.1, hE.2.1, hE.2.2.1, hE.2.2.2.mono hk hs⟩
  · show Q v T.heap Ds'
    rw [h5]; exact hq
  · show JJ Z n0 T.vm T.heap Ds'
    rw [h5]
    exact (JJ.warm (t := C.s.setVm vm0) h4 h3 X.warmed).less hds
theorem Rc.retI {Q : Option Value → Heap → List Addr → Prop} {z : Int32} {kc ks : Nat} {Ds' : List Addr} (H : Rc C R own bs ml Z n0 ce sl pc Ls (.int z :: rest) h Ds) (hret : C.meth.sig.returnType = some .int) (hd : decode bs pc = .ok (.ireturn, 1)) (hk : ce ≤ kc) (hs : sl ≤ ks) (hds : ∀ x ∈ Ds', x ∈ Ds) (hq : Q (some (.int z)) h Ds') : Done C Z n0 Q kc ks :=
  H.retX (v := some (.int z)) (fun e => by rw [hret] at e; cases e) (fun s T locs fs X hx hby hr => retOut X hx hret rfl (Or.inl ⟨rfl, Or.inl rfl, z, rfl⟩) (hb hby hd) hr) hk hs hds hq
theorem Rc.retN {Q : Option Value → Heap → List Addr → Prop} {z z' : Int32} {t : FieldType} {kc ks : Nat} {Ds' : List Addr} (H : Rc C R own bs ml Z n0 ce sl pc Ls (.int z :: rest) h Ds) (hret : C.meth.sig.returnType = some t) (ht : t = .boolean ∨ t = .byte ∨ t = .char ∨ t = .short) (hz : nar t z = z') (hd : decode bs pc = .ok (.ireturn, 1)) (hk : ce ≤ kc) (hs : sl ≤ ks) (hds : ∀ x ∈ Ds', x ∈ Ds) (hq : Q (some (.int z')) h Ds') : Done C Z n0 Q kc ks := by
  subst hz
  exact H.retX (v := some (.int (nar t z))) (fun e => by rw [hret] at e; cases e) (fun s T locs fs X hx hby hr => RoadKit.retN X hx hret ht (hb hby hd) hr) hk hs hds hq
theorem Rc.retA {Q : Option Value → Heap → List Addr → Prop} {w : Value} {t : FieldType} {kc ks : Nat} {Ds' : List Addr} (H : Rc C R own bs ml Z n0 ce sl pc Ls (w :: rest) h Ds) (hret : C.meth.sig.returnType = some t) (ht : t.isReference = true) (hn : narrow t w = w) (hw : w.isRef = true) (hd : decode bs pc = .ok (.areturn, 1)) (hk : ce ≤ kc) (hs : sl ≤ ks) (hds : ∀ x ∈ Ds', x ∈ Ds) (hq : Q (some w) h Ds') : Done C Z n0 Q kc ks :=
  H.retX (v := some w) (fun e => by rw [hret] at e; cases e) (fun s T locs fs X hx hby hr => retOut X hx hret hn (Or.inr (Or.inr (Or.inr (Or.inr ⟨rfl, ht, hw⟩)))) (hb hby hd) hr) hk hs hds hq
theorem Rc.retV {Q : Option Value → Heap → List Addr → Prop} {kc ks : Nat} {Ds' : List Addr} (H : Rc C R own bs ml Z n0 ce sl pc Ls [] h Ds) (hret : C.meth.sig.returnType = none) (hd : decode bs pc = .ok (.return_, 1)) (hk : ce ≤ kc) (hs : sl ≤ ks) (hds : ∀ x ∈ Ds', x ∈ Ds) (hq : Q none h Ds') : Done C Z n0 Q kc ks :=
  H.retX (v := none) (fun _ => rfl) (fun s T locs fs X hx hby hr => X.returnOut hx hret (hb hby hd) hr) hk hs hds hq
/-! Strings -/
abbrev STR0 : String := "java/lang/String"
def bytesOfCs (cs : List Int32) : List Value := (cs.map fun c => c.toInt8.toInt32).map Value.int
def IsStr (Z : State) (h : Heap) (a : Addr) (cs : List Int32) : Prop :=
  Exa Z h a "java/lang/String" ∧ Fld Z h a "java/lang/String" "coder" "B" (.int 0) ∧ (∀ c ∈ cs, ¬ c < 0 ∧ ¬ (255 : Int32) < c) ∧ cs.length ≤ 4000 ∧
    ∃ (t : Addr) (kb : ClassId), Fld Z h a "java/lang/String" "value" "[B" (.ref t) ∧ Arv Z h t kb .byte (Int32.ofNat cs.length) (bytesOfCs cs) (.int 0)
def NotB (Z : State) (h : Heap) (w : Addr) : Prop := ∀ (t : Addr) (kb : ClassId) (z : Int32) (vs : List Value) (d : Value), Arv Z h t kb .byte z vs d → t ≠ w
theorem notB_exa {Z : State} {h : Heap} {w : Addr} {Cc : String} {n : Nat} {a0 : Array Value} (E : Exa Z h w Cc) (wi : (Jvm.Cond.instantiable Cc n).before a0 Z = true) : NotB Z h w := fun t kb z vs d F e => (E.neArv F wi) e.symm
theorem notB_arv {Z : State} {h : Heap} {w : Addr} {k : ClassId} {ty : FieldType} {z : Int32} {vs : List Value} {dv : Value} (V : Arv Z h w k ty z vs dv) (hty : ty ≠ .byte) : NotB Z h w := fun t kb z' vs' d F e => by
  subst e
  obtain ⟨c1, A1, -⟩ := F
  obtain ⟨c2, A2, -⟩ := V
  cases A1.1.symm.trans A2.1
  obtain ⟨-, k1, p1, comp1, q1⟩ := A1.2.1
  obtain ⟨-, k2, p2, comp2, q2⟩ := A2.2.1
  cases p1.symm.trans p2
  rw [q1] at q2
  cases q2
  exact hty rfl
theorem notB_new {Z : State} {h : Heap} {w : Addr} (e : h.size ≤ w) : NotB Z h w := fun t kb z vs d F q => by subst q; exact absurd F.lt (Nat.not_lt.mpr e)
theorem IsStr.keep {Z : State} {h h' : Heap} {a : Addr} {cs : List Int32} {ws : List Addr} (F : IsStr Z h a cs) (K : Keep h h' ws) (q : a ∉ ws) (q' : ∀ w ∈ ws, NotB Z h w) : IsStr Z h' a cs := by
  obtain ⟨f1, f2, f3, f4, t, kb, f5, f6⟩ := F
  exact ⟨f1.keep K, f2.keep K q, f3, f4, t, kb, f5.keep K q, f6.keep K (fun m => q' t m t kb _ _ _ f6 rfl)⟩
theorem IsStr.ext {Z : State} {h h' : Heap} {a : Addr} {cs : List Int32} (F : IsStr Z h a cs) (E : Ext h h') : IsStr Z h' a cs := F.keep ((Keep.refl h []).ext E) (fun m => nomatch m) (fun w m => nomatch m)
theorem IsStr.lt {Z : State} {h : Heap} {a : Addr} {cs : List Int32} (F : IsStr Z h a cs) : a < h.size := F.1.lt
theorem byte_of (n : Nat) (h : n < 256) : Jvm.Lit.byteI n.toUInt16 = (Int32.ofNat n).toInt8.toInt32 := by
  have t : ∀ k : Fin 256, Jvm.Lit.byteI k.val.toUInt16 = (Int32.ofNat k.val).toInt8.toInt32 := by decide +kernel
  exact t ⟨n, h⟩
theorem chr_of (n : Nat) (h : n < 256) : ¬ Int32.ofNat n < 0 ∧ ¬ (255 : Int32) < Int32.ofNat n := by
  have t : ∀ k : Fin 256, ¬ Int32.ofNat k.val < 0 ∧ ¬ (255 : Int32) < Int32.ofNat k.val := by decide +kernel
  exact t ⟨n, h⟩
theorem Sx.slOf {Z T : State} {h : Heap} {Ds : List Addr} {a : Addr} {u : Array UInt16} (F : Sx Z h Ds a u) (hal : Z.vm.Alike T.vm) (e : T.heap = h) : SlOf T a u := by
  obtain ⟨q, cS, h1, h2, ⟨kS, k1, k2, k3⟩, h4, h5, -, -⟩ := F
  obtain ⟨kS', hk', ek⟩ := hal.2.2 _ _ k1
  exact ⟨q, cS, h1, Sl.carry (U := ({ Z with heap := h } : State)) hal (by rw [e]; exact h2.1.1) (by rw [e]; exact h2.1.2.2.2.2.2.2.2.2.2.1) h2, ⟨kS', hk', by rw [ek]; exact k2, by rw [ek]; exact k3⟩, by rw [hal.findClass]; exact h4, h5⟩
theorem Sx.of_in {Z T : State} {Ds : List Addr} {a : Addr} {u : Array UInt16} {lo hi : Nat} (F : SlIn lo hi T a u) (hal : T.vm.Alike Z.vm) (hlo : lo ≤ hi) (ha : hi ≤ a) (hD : ∀ x ∈ Ds, x < hi) : Sx Z T.heap Ds a u := by
  obtain ⟨q, cS, h1, h2, ⟨kS, k1, k2, k3⟩, h4, h5, h6⟩ := F
  obtain ⟨kS', hk', ek⟩ := hal.2.2 _ _ k1
  subst h1
  have hb : hi ≤ q.sd := by
    rcases h6 with ⟨x, -⟩ | ⟨-, y⟩
    · exact absurd (Nat.lt_of_lt_of_le x hlo) (Nat.not_lt.mpr ha)
    · exact y
  exact ⟨q, cS, rfl, Sl.carry (U' := ({ Z with heap := T.heap } : State)) hal h2.1.1 h2.1.2.2.2.2.2.2.2.2.2.1 h2, ⟨kS', hk', by rw [ek]; exact k2, by rw [ek]; exact k3⟩, by rw [hal.findClass]; exact h4, h5, fun m => absurd (hD _ m) (Nat.not_lt.mpr ha), fun m => absurd (hD _ m) (Nat.not_lt.mpr hb)⟩
theorem Sx.str {Z : State} {h : Heap} {Ds : List Addr} {a : Addr} {units : Array UInt16} {text : String} {cs : List Int32} (F : Sx Z h Ds a units) (htext : utf16ToString? units = some text) (hlat : ∀ c ∈ text.toList, c.toNat < 256) (hcs : text.toList.map (fun c => Int32.ofNat c.toNat) = cs) (hlen : cs.length ≤ 4000) : IsStr Z h a cs ∧ a ∉ Ds := by
  obtain ⟨q, cS, hqa, ⟨⟨s1, s2, s3, ⟨cv, kv, iv, s4, s4'⟩, ⟨cc, kc, ic, s5, s5'⟩, s6, s7, s8, s9, s10, s11, s12, s13, s14, s15, s16⟩, hfS, hcS⟩, ⟨kS, k1, k2, k3⟩, hB, hbyt, hn1, hn2⟩ := F
  subst hqa
  have hl := Jvm.ClassFile.lat_of_text htext hlat
  have eu : bytesOfCs cs = units.toList.map fun u => Value.int (Jvm.Lit.byteI u) := by
    rw [Jvm.ClassFile.units_of_text htext hlat, List.map_map, ← hcs]
    show List.map Value.int (List.map (fun c => c.toInt8.toInt32) (List.map (fun c => Int32.ofNat c.toNat) text.toList)) = _
    rw [List.map_map, List.map_map]
    refine List.map_congr_left fun c hc => ?_
    show Value.int ((Int32.ofNat c.toNat).toInt8.toInt32) = Value.int (Jvm.Lit.byteI c.toNat.toUInt16)
    rw [byte_of _ (hlat c hc)]
  have el : cs.length = units.size := by
    have := congrArg List.length eu
    simpa [bytesOfCs] using this
  have hsl : q.SA.slots = units.map fun u => Value.int (Jvm.Lit.byteI u) := by rw [hbyt, SBG.stringBytes_lat hl]; rfl
  have hsz : q.SA.slots.size = units.size := by rw [hsl, Array.size_map]
  have Hh : Has q.SA (bytesOfCs cs) (.int 0) := fun j hj => by
    have hj' : j < units.size := by omega
    rw [hsl, eu]; simp [hj']
  have n32 : (Int32.ofNat cs.length).toNatClampNeg = cs.length := by
    have t : (Int32.ofNat cs.length).toInt = (cs.length : Int) := Int32.toInt_ofNat_small (by omega)
    show (Int32.ofNat cs.length).toInt.toNat = cs.length
    omega
  have nneg : ¬ Int32.ofNat cs.length < 0 := by
    have t : (Int32.ofNat cs.length).toInt = (cs.length : Int) := Int32.toInt_ofNat_small (by omega)
    rw [Int32.lt_iff_toInt_lt]
    have z0 : (0 : Int32).toInt = 0 := rfl
    omega
  refine ⟨⟨⟨q.sC, kS, s1, by rw [hcS]; exact hfS, by rw [hcS]; exact k1, s3, fun _ => k3⟩, ⟨q.sC, cc, kc, ic, q.fSC, s1, s5, s7, s2, s3, s5', s9⟩, ?_, hlen, q.sd, q.SA.cls, ⟨q.sC, cv, kv, iv, q.fSV, s1, s4, s6, s2, s3, s4', s8⟩, ⟨q.SA, ⟨s10, s11, s12⟩, rfl, by rw [hsz, n32, el], nneg, Hh, fun j hj => ?_⟩⟩, hn1⟩
  · intro c hc
    rw [← hcs] at hc
    obtain ⟨ch, h1, rfl⟩ := List.mem_map.mp hc
    exact chr_of _ (hlat ch h1)
  · have e1 := s16 j hj
    have e2 := Hh j hj
    rw [SBG.getD_of e2] at e1
    exact e1
theorem own_atoms {Z s : State} {a0 args : Array Value} (hZ : Z.Warmed39 s.vm) (wS : ∀ a ∈ Bundle.stringAtoms, a.before a0 Z = true) : ∀ a ∈ Bundle.stringAtoms, a.before args s = true := fun d hd => by
  have q := wS d hd
  simp only [Bundle.stringAtoms, List.mem_cons, List.not_mem_nil, or_false] at hd
  rcases hd with rfl | rfl | rfl | rfl | rfl | rfl | rfl
  · exact mv hZ q
  · exact mv hZ q
  · exact mvA hZ q
  · exact mv hZ q
  · exact mv hZ q
  · exact mv hZ q
  · exact mv hZ q
theorem open_stays {s : State} {vm' : Vm} (hW : s.WarmedH vm') {c : ClassId} {k k' : Class} {cf : ClassFile} {idx : Nat} {text : String} (hk : s.vm.classes[c]? = some k) (hk' : vm'.classes[c]? = some k') (hcf : k.cf = some cf) (hnm : namesOf? cf.constantPool idx = some (.string text)) (ho : k.resolved[idx]? = some none) : k'.resolved[idx]? = some none := by
  obtain ⟨-, -, hfw⟩ := hW
  obtain ⟨k2, hk2, -, -, ee, -⟩ := hfw _ k hk
  cases hk2.symm.trans hk'
  rcases ee idx with e0 | ⟨-, r, -, hr⟩
  · exact e0.trans ho
  · exfalso
    cases r <;> simp [State.rightAt, hk, hcf, hnm] at hr
/-- 'ldc' of a String constant at the state at hand -/
theorem ldcNow {p : Program} {l : Launch} {e : Env} {R : Room} {s : State} {m : MethodId} {args : Array Value} {below : List Frame} {meth : Method} {c : Code} {T : State} {locs : List Loc} {cells slots : Nat}
    (X : Stand p l e R s m args below meth c T locs cells slots) (hexec : p.tables.exec = Jvm.exec) {own text : String} {index : Nat} (hown : T.vm.findClass own = some m.cls)
    (hlink : (Jvm.Cond.stringLink own index text).before args T = true) (hS : ∀ a ∈ Bundle.stringAtoms, a.before args T = true) (hheld : ConstHeldL T own index) (hlat : ∀ units : Array UInt16, utf16ToString? units = some text → units.all (· < 256) = true)
    {g : JFrame} (hg : g.method = m) (hdg : decode c.code g.pc = .ok (.ldc index, 2)) {n : Nat} (hn : 4 * text.toList.length ≤ n) (hbig : n ≤ 536870912) (hRcells : cells + 2 ≤ R.cells) (hRslots : slots + (n + 4) ≤ R.slots) :
    ∃ (a : Addr) (T₂ : State), Stand p l e R (s.setVm T₂.vm) m args below meth c T₂ locs (cells + 2) (slots + (n + 4)) ∧ s.Since T₂.vm T₂.heap.size ∧ (∃ k₂, T₂.vm.classes[m.cls]? = some k₂ ∧ k₂.resolved[index]? = some (some (.string a))) ∧
      (∀ a0, a0 < T.heap.size → T₂.heap[a0]? = T.heap[a0]?) ∧ T.heap.size ≤ T₂.heap.size ∧ T.Warmed39 T₂.vm ∧ T.Interned1 T₂ ∧ (T₂.vm.interned = T.vm.interned ∨ ∃ (units : Array UInt16) (a' : Addr), utf16ToString? units = some text ∧ T₂.vm.interned = T.vm.interned.push (units, a')) ∧
      (∃ units : Array UInt16, utf16ToString? units = some text ∧ SlIn T.heap.size T.heap.size T₂ a units) ∧
      ∀ target, Steps p.tables e below (T₂.setTop { g with pc := g.pc + 2, stack := .ref a :: g.stack }) target → Steps p.tables e below (T.setTop g) target := by
  obtain ⟨g₀, hf0⟩ := X.frames_eq
  have hcur : T.cur < T.threads.size := State.cur_lt_of_frames hf0
  obtain ⟨th, hth, -⟩ := State.frames_cons hf0
  have hF : (T.setFrames (.invoking m args :: below)).frames = .invoking m args :: below := State.frames_setFrames _ hcur
  have hme : (T.setFrames (.invoking m args :: below)).me.stackBytes = T.me.stackBytes := by
    simp [State.me, State.setFrames, Array.getElem_modify, hcur]
  have hlim : e.platform.stackLimits (T.setFrames (.invoking m args :: below)).me = e.platform.stackLimits T.me := by
    show e.platform.limitsFor _ = e.platform.limitsFor _
    rw [hme]
  have hroom : (T.setFrames (.invoking m args :: below)).hasRoom e.platform ({ R with cells := R.cells - cells, slots := R.slots - slots } : Room) = true := by
    have h0 := X.room
    have hb := X.book
    have hsz := X.heapSize
    have hus := X.used
    have hU : (T.setFrames (.invoking m args :: below)).localsInUse = s.localsInUse := by
      rw [State.localsInUse_invoking hF (show (T.setFrames (.invoking m args :: below)).vm.method? m = some meth from X.method') X.code, State.localsInUse_invoking X.frames X.method X.code]
    have hfl : (T.setFrames (.invoking m args :: below)).frames.length = s.frames.length := by rw [hF, X.frames]
    unfold State.hasRoom at h0 ⊢
    rw [hU, hfl, hlim, X.limits, hme, X.bytes]
    simp only [Bool.and_eq_true, decide_eq_true_eq] at h0 ⊢
    obtain ⟨⟨⟨⟨q1, q2⟩, q3⟩, q4⟩, q5⟩ := h0
    refine ⟨⟨⟨⟨q1, q2⟩, ?_⟩, ?_⟩, hb⟩
    · show T.heap.size + (R.cells - cells) ≤ _
      omega
    · show T.slotsUsed + (R.slots - slots) ≤ _
      omega
  have hhears : (T.setFrames (.invoking m args :: below)).hears m below = true := by
    have h0 := X.hears
    have hmeth : ∀ mm : MethodId, (T.setFrames (.invoking m args :: below)).vm.method? mm = s.vm.method? mm := fun mm => X.warmed.alike.method? mm
    have hcode : ∀ mm : MethodId, (T.setFrames (.invoking m args :: below)).code? mm = s.code? mm := fun mm => by rw [State.code?_eq, State.code?_eq, hmeth]
    cases hb : below with
    | nil => rw [hb] at h0 hmeth; simp only [State.hears] at h0 ⊢; rw [hmeth]; exact h0
    | cons f r =>
      rw [hb] at h0 hmeth hcode
      cases f <;> simp only [State.hears] at h0 ⊢ <;> first | (rw [hcode]; exact h0) | (rw [hmeth]; exact h0) | exact h0
  have hsame : (T.setFrames (.invoking m args :: below)).sameButNew (T.setVm (T.setFrames (.invoking m args :: below)).vm) [] 0 0 := by
    have hd0 : T.heap.toList.drop T.heap.size = [] := List.drop_eq_nil_of_le (by simp)
    refine ⟨?_, Nat.le_refl _, Nat.le_refl _, ?_, ?_, fun a cl hcl => ⟨cl, hcl, rfl, rfl, fun _ _ => rfl⟩⟩
    · show T = { (T.setFrames (.invoking m args :: below)).setFrames T.frames with heap := T.heap, slotsUsed := T.slotsUsed }
      rw [State.setFrames_setFrames, State.setFrames_self hth]
    · show T.slotsUsed = T.slotsUsed + ((T.heap.toList.drop T.heap.size).map (·.slots.size)).sum
      rw [hd0]; rfl
    · show ((T.heap.toList.drop T.heap.size).map (·.slots.size)).sum ≤ 0
      rw [hd0]; exact Nat.le_refl _
  have X' : Stand p l e ({ R with cells := R.cells - cells, slots := R.slots - slots } : Room) (T.setFrames (.invoking m args :: below)) m args below meth c T [] 0 0 :=
    ⟨X.admits, X.cas, X.clock, hF, hroom, hhears, X.method', X.code, X.here, X.tail, State.WarmedH.refl (T.setFrames (.invoking m args :: below)), hlim.symm, hme.symm, hsame⟩
  obtain ⟨a, T₂, X2, hS2, hres, hkeep, hint1, hint, hin, st⟩ := X'.ldcColdF (fun b cl h => h) hexec (own := own) (text := text) (index := index) hown hlink (own_atoms (Z := T) (s := T.setFrames (.invoking m args :: below)) (State.Warmed39.refl T) hS) hheld hlat hg hdg hn hbig (by show 0 + 2 ≤ R.cells - cells; omega) (by show 0 + (n + 4) ≤ R.slots - slots; omega)
  have hsm : T.sameButNew (T₂.setVm T.vm) [] 2 (n + 4) := by
    have q := X2.same.setVm T.vm
    obtain ⟨r1, r2, r3, r4, r5, r6⟩ := q
    refine ⟨?_, r2, by simpa using r3, r4, by simpa using r5, r6⟩
    refine r1.trans ?_
    show ({ (T.setFrames (.invoking m args :: below)).setFrames T₂.frames with heap := T₂.heap, slotsUsed := T₂.slotsUsed } : State) = _
    rw [State.setFrames_setFrames]
    rfl
  obtain ⟨Y, hSY⟩ := X.movedW (T₂ := T₂) X2.here X2.tail (X2.limits.trans hlim) (X2.bytes.trans hme) hS2.1 hS2.2 hsm
  rw [List.append_nil] at Y
  exact ⟨a, T₂, Y, hSY, hres, hkeep, hint1.1, hS2.1, hint1, hint, hin, st⟩
theorem Rc.ldcS {pc' idx n : Nat} {text : String} {cs : List Int32} (H : Rc C R own bs ml Z n0 ce sl pc Ls S h Ds) (hm : (own, idx) ∈ CL) (w : (Jvm.Cond.stringLink own idx text).before a0 Z = true) (hlat : ∀ c ∈ text.toList, c.toNat < 256) (hcs : text.toList.map (fun c => Int32.ofNat c.toNat) = cs) (hlen : cs.length ≤ 4000)
    (hd : decode bs pc = .ok (.ldc idx, 2)) (hn : 4 * text.toList.length ≤ n) (hbig : n ≤ 536870912) (hc : ce + 2 ≤ R.cells) (hl : sl + (n + 4) ≤ R.slots) (hp : pc + 2 = pc') :
    ∃ (h' : Heap) (a : Addr), Ext h h' ∧ IsStr Z h' a cs ∧ a ∉ Ds ∧ Rc C R own bs ml Z n0 (ce + 2) (sl + (n + 4)) pc' Ls (.ref a :: S) h' Ds := by
  subst hp
  obtain ⟨T, locs, vm0, k0, X, h1, h2, h3, h4, h5, h6, h7, k⟩ := H
  obtain ⟨aS, -, -, -, wS⟩ := h4.2.2.2.1 own idx hm
  have hownB : (C.s.setVm vm0).vm.findClass own = some C.m.cls := h7.2.2.2.1
  have wB : (Jvm.Cond.stringLink own idx text).before C.args (C.s.setVm vm0) = true := mvS (s := C.s) h3 w
  obtain ⟨kB, cf, i, units, hkB, hcf, hpB, hu, hnm, htext, hres⟩ := Cond.stringLink_spec hownB wB
  rcases hres with hopen | ⟨a, hra⟩
  · -- open: the rebased cold law
    have hZT : Z.Warmed39 T.vm := State.Warmed39.trans (t := C.s.setVm vm0) h3 X.warmed.wide
    have JT : JJ Z n0 T.vm h Ds := JJ.warm (t := C.s.setVm vm0) h4 h3 X.warmed
    have hownT : T.vm.findClass own = some C.m.cls := by rw [X.warmed.alike.findClass]; exact hownB
    have wT : (Jvm.Cond.stringLink own idx text).before C.args T = true := mvS (s := T) (vm0 := T.vm) hZT w
    have hheld : ConstHeldL T own idx := fun c k cf i units a q1 q2 q3 q4 q5 q6 => (JT.2.2.2.2 own idx hm c k cf i units a q1 q2 q3 q4 q5 q6).slOf hZT.alike h5
    obtain ⟨a, T₂, X2, hS2, ⟨kk, hkk, hrr⟩, hkeep, hgr, hW2, hint1, hint, ⟨us, htu, hin⟩, st⟩ := ldcNow X h7.1 hownT wT (own_atoms hZT wS) hheld (fun units hu => Jvm.ClassFile.lat_of_text hu hlat) (g := mkF C.m pc Ls S) rfl (hb h7.2.1 hd) hn hbig hc hl
    have E : Ext h T₂.heap := by rw [← h5]; exact ext_of hkeep
    have sameU : ∀ u v : Array UInt16, utf16ToString? u = some text → utf16ToString? v = some text → u = v := fun u v hu hv => by
      apply Array.toList_inj.mp
      rw [Jvm.ClassFile.units_of_text hu hlat, Jvm.ClassFile.units_of_text hv hlat]
    -- the entry, as T and as T₂ have it
    obtain ⟨kT, cfT, iT, unT, hkT, hcfT, hpT, huT, hnmT, htT, hresT⟩ := Cond.stringLink_spec hownT wT
    obtain ⟨k2, hk2, hke2, -, ee2, -⟩ := hW2.2.2.2 _ kT hkT
    cases hk2.symm.trans hkk
    have hcl : NL = true → Z.WarmedH T₂.vm := fun e => by first | exact absurd e (by decide) | exact absurd hm (List.not_mem_nil)
    have hintJ : T₂.vm.interned = T.vm.interned ∨ ∃ (u : Array UInt16) (a' : Addr), T₂.vm.interned = T.vm.interned.push (u, a') ∧ (T.vm.interned.find? (fun p => p.1 == u) = none → Sx Z T₂.heap Ds a' u) := by
      rcases hint with e | ⟨u, a', hu', e⟩
      · exact Or.inl e
      · refine Or.inr ⟨u, a', e, fun hnone => ?_⟩
        have ha' : T.heap.size ≤ a' := by
          rcases hint1.2 with q | ⟨u2, a2, q, r1, -⟩
          · rw [q] at e
            have := congrArg Array.size e
            simp at this
          · have := q.symm.trans e
            have := Array.push_inj_right.mp this
            cases this
            exact r1
        -- a is a'
        have hopT : kT.resolved[idx]? = some none := open_stays X.warmed hkB hkT hcf hnm hopen
        have eu : u = unT := sameU _ _ hu' htT
        have eus : us = u := sameU _ _ htu hu'
        have haa : a = a' := by
          rcases ee2 idx with e0 | ⟨-, r, e1, hr | ⟨a3, t3, si, us3, rfl, -, z3, z4, z5⟩⟩
          · have := (e0.trans hopT).symm.trans hrr
            simp at this
          · exfalso
            cases r <;> simp [State.rightAt, hkT, hcfT, hnmT] at hr
          · rw [hcfT] at z3 z4
            have e3 : si = iT := by
              have := z3.symm.trans hpT
              simpa using this
            subst e3
            have e4 : us3 = unT := by simpa [ConstantPool.utf8?, huT] using z4.symm
            subst e4
            have ea : a3 = a := by have := e1.symm.trans hrr; simpa using this
            subst ea
            rw [e, Array.find?_push, ← eu, hnone, Option.none_or] at z5
            simp at z5
            exact z5.symm
        subst haa
        rw [← eus]
        exact Sx.of_in hin (State.Warmed39.trans hZT hW2).alike.symm (Nat.le_refl _) ha' (fun x hx => by rw [h5]; exact (h4.2.2.1 x hx).2)
    have J2 : JJ Z n0 T₂.vm T₂.heap Ds := (JT.ext E).step hZT hW2 hintJ hcl
    have hcf2 : kk.cf = some cfT := by rw [hke2]; exact hcfT
    have hown2 : T₂.vm.findClass own = some C.m.cls := by rw [hW2.alike.findClass]; exact hownT
    have SX := J2.2.2.2.2 own idx hm _ kk cfT iT unT a hown2 hkk hcf2 hpT huT (Or.inl hrr)
    obtain ⟨hstr, hnin⟩ := SX.str htT hlat hcs hlen
    exact ⟨T₂.heap, a, E, hstr, hnin, T₂, locs, T₂.vm, T₂.heap.size, X2, h1.trans hS2 (Nat.le_trans h2 E.1), Nat.le_refl _, State.Warmed39.trans hZT hW2, J2, rfl, h6, ⟨h7.1, h7.2.1, h7.2.2.1, hown2, h7.2.2.2.2⟩, fun t ht => k _ (st _ ht)⟩
  · -- resolved already
    have SX := h4.2.2.2.2 own idx hm _ kB cf i units a hownB hkB hcf hpB hu (Or.inl hra)
    obtain ⟨hstr, hnin⟩ := SX.str htext hlat hcs hlen
    have L : Lit (C.s.setVm vm0) own idx a := by
      have hkB' : vm0.classes[C.m.cls]? = some kB := hkB
      have hown' : vm0.findClass own = some C.m.cls := hownB
      simp [Lit, State.resolvedAt?, State.setVm, hown', hkB', hra]
    have st := ldcAgain X h7.1 h3 h7.2.2.2.1 w L (g := mkF C.m pc Ls S) rfl (hb h7.2.1 hd)
    exact ⟨h, a, ⟨Nat.le_refl _, fun _ _ q => q⟩, hstr, hnin, T, locs, vm0, k0, X.mono (by omega) (by omega), h1, h2, h3, h4, h5, h6, h7, fun t ht => k _ (st _ ht)⟩
theorem own_sx0 {s : State} {a : Addr} {units : Array UInt16} (F : SlOf s a units) : Sx s s.heap [] a units := by
  obtain ⟨q, cS, h1, h2, h3, h4, h5⟩ := F
  exact ⟨q, cS, h1, h2, h3, h4, h5, by simp, by simp⟩
theorem ch0 : ∀ c ∈ ([] : List Int32), ¬ c < 0 ∧ ¬ (255 : Int32) < c := fun c hc => nomatch hc
theorem chS {x : Int32} {cs : List Int32} (p : ¬ x < 0 ∧ ¬ (255 : Int32) < x) (q : ∀ c ∈ cs, ¬ c < 0 ∧ ¬ (255 : Int32) < c) : ∀ c ∈ x :: cs, ¬ c < 0 ∧ ¬ (255 : Int32) < c := fun c hc => by
  rcases List.mem_cons.mp hc with e | e
  · rw [e]; exact p
  · exact q c e
def bi (b : Bool) : Int32 := if b then 1 else 0
theorem bi_nar (b : Bool) : nar .boolean (bi b) = bi b := by cases b <;> rfl
theorem memS {n : Addr} {Ns Ds : List Addr} (h : n ∈ Ds) (f : ∀ x ∈ Ns, x ∈ Ds) : ∀ x ∈ n :: Ns, x ∈ Ds := fun x hx => by
  rcases List.mem_cons.mp hx with e | e
  · rw [e]; exact h
  · exact f x e
theorem own_toInt {x : Int32} (h : ¬ x < 0 ∧ ¬ (255 : Int32) < x) : 0 ≤ x.toInt ∧ x.toInt ≤ 255 := by
  obtain ⟨h1, h2⟩ := h
  rw [Int32.lt_iff_toInt_lt] at h1 h2
  have e0 : (0 : Int32).toInt = 0 := rfl
  have e1 : (255 : Int32).toInt = 255 := rfl
  omega
theorem ofFin {x : Int32} (h : ¬ x < 0 ∧ ¬ (255 : Int32) < x) : ∃ k : Fin 256, x = Int32.ofNat k.val := by
  have b := own_toInt h
  refine ⟨⟨x.toInt.toNat, by omega⟩, ?_⟩
  apply Int32.toInt_inj.mp
  rw [Int32.toInt_ofNat_of_lt (by show x.toInt.toNat < _; omega)]
  show x.toInt = (x.toInt.toNat : Int)
  omega
theorem nar_of {x : Int32} (h : ¬ x < 0 ∧ ¬ (255 : Int32) < x) : nar .char x = x := by
  obtain ⟨k, rfl⟩ := ofFin h
  revert k; decide +kernel
theorem own_nr {ty : FieldType} {v : Value} (ht : ty.isReference = true) (hv : v.isRef = true) : narrow ty v = v := by
  rcases ref_cases hv with rfl | ⟨_, rfl⟩ <;> cases ty <;> first | rfl | cases ht
theorem own_fr {ty : FieldType} {v : Value} (ht : ty.isReference = true) (hv : v.isRef = true) : fits ty v = true := by
  rcases ref_cases hv with rfl | ⟨_, rfl⟩ <;> cases ty <;> first | rfl | cases ht
theorem own_nsroot {Z : State} {a0 : Array Value} {O K : String} {n : Nat} (w : (Jvm.Cond.noSuperclass O).before a0 Z = true) (wi : (Jvm.Cond.instantiable K n).before a0 Z = true) (hn : O ≠ K) : NS Z O K := by
  obtain ⟨c, k, h1, h2, h3, -, -⟩ := Cond.noSuperclass_spec w
  obtain ⟨t, kt, g1, -⟩ := Cond.instantiable_spec wi
  have ne := ids_ne h1 g1 hn
  refine ⟨c, t, h1, g1, fun fuel => ?_⟩
  cases fuel with
  | zero => rfl
  | succ f => simp [Vm.isSubclassAux, ne, h2, h3]
theorem own_nsno {Z : State} {a0 : Array Value} {Cc S K : String} {m : Nat} (w : (Jvm.Cond.superclass Cc S).before a0 Z = true) (wi : (Jvm.Cond.instantiable K m).before a0 Z = true) (n : NS Z Cc K) (hn : Cc ≠ K) : ∃ c t, Z.vm.findClass Cc = some c ∧ Z.vm.findClass K = some t ∧ Z.vm.assignable c t = false := by
  obtain ⟨c, t, h0, g0, n3⟩ := n
  obtain ⟨p, k, kp, h1, h2, h3, h4, h5, -, h7⟩ := Cond.superclass_spec h0 w
  obtain ⟨t', k', g1, g2, g5, g7, -⟩ := Cond.instantiable_spec wi
  cases g0.symm.trans g1
  have g8 : k'.isInterface = false := by simp only [Bool.or_eq_false_iff] at g7; exact g7.1
  have ne := ids_ne h0 g0 hn
  refine ⟨c, t, h0, g0, ?_⟩
  show Z.vm.assignableAux (255 + 1) c t = false
  simp [Vm.assignableAux, ne, h2, g2, h5, g5, g8, Vm.isSubclass, n3]
/-! clones of arrays; more steps -/
theorem arv_of_arh {Z : State} {h : Heap} {a : Addr} {k : ClassId} {ty : FieldType} {z : Int32} {vs : List Value} {dv : Value} (F : Arh Z h a k ty z [] vs dv) : Arv Z h a k ty z vs dv := F
theorem Rc.clone {pc' idx W cap : Nat} {ad : String} {a : Addr} {kA : ClassId} {ty : FieldType} {z : Int32} {vs : List Value} {dv : Value} (H : Rc C R own bs ml Z n0 ce sl pc Ls (.ref a :: rest) h Ds)
    (w1 : (Jvm.Cond.methodLink own idx ⟨ad, "clone", "()Ljava/lang/Object;"⟩).before a0 Z = true) (w2 : (Jvm.Cond.sameMethod ad "java/lang/Object" "clone" "()Ljava/lang/Object;").before a0 Z = true) (w3 : (Jvm.Cond.native ⟨"java/lang/Object", "clone", "()Ljava/lang/Object;"⟩).before a0 Z = true)
    (w4 : (Jvm.Cond.instanceMethod ⟨"java/lang/Object", "clone", "()Ljava/lang/Object;"⟩).before a0 Z = true) (w5 : (Jvm.Cond.selects ad ⟨ad, "clone", "()Ljava/lang/Object;"⟩ ⟨"java/lang/Object", "clone", "()Ljava/lang/Object;"⟩).before a0 Z = true) (w6 : (Jvm.Cond.castable ad "java/lang/Cloneable").before a0 Z = true)
    (V : Arv Z h a kA ty z vs dv) (E : Exa Z h a ad) (hsz : Ls.size = ml) (hd : decode bs pc = .ok (.invokevirtual idx, 3)) (hf : 1 ≤ R.frames) (hW : (rest.map fun v => v.category).sum = W) (hl : W + 14 ≤ R.locals) (hcap : z.toNatClampNeg ≤ cap) (hc : ce + 1 ≤ R.cells) (hsl : sl + cap ≤ R.slots) (hp : pc + 3 = pc') :
    ∃ (h' : Heap) (b : Addr), b = h.size ∧ Ext h h' ∧ Arv Z h' b kA ty z vs dv ∧ Exa Z h' b ad ∧ Rc C R own bs ml Z n0 (ce + 1) (sl + cap) pc' Ls (.ref b :: rest) h' (b :: Ds) := by
  subst hp
  obtain ⟨T, locs, vm0, k0, X, h1, h2, h3, h4, h5, h6, h7, k⟩ := H
  obtain ⟨T', h', X', e', E', A', F', st⟩ := RoadKit.cloneH X h7.1 (Z := Z) h3 h7.2.2.2.1 w1 w2 w3 w4 w5 w6 h5 V.arh E (g := mkF C.m pc Ls (.ref a :: rest)) rfl (hsz.trans h7.2.2.1.symm) rfl (hb h7.2.1 hd) hf (W := W) (by show 2 * 0 + _ ≤ _; omega) hl hcap hc hsl
  exact ⟨h', h.size, rfl, E', arv_of_arh A', F', T', _, vm0, k0, X', h1, Nat.le_trans h2 E'.1, h3, h4.born E' F'.lt, e', h6, h7, fun t ht => k _ (st _ ht)⟩
theorem Rc.ldc2L {pc' idx : Nat} {v : Int64} (H : Rc C R own bs ml Z n0 ce sl pc Ls S h Ds) (w : (Jvm.Cond.constantLong own idx v).before a0 Z = true) (hd : decode bs pc = .ok (.ldc2_w idx, 3)) (hp : pc + 3 = pc') : Rc C R own bs ml Z n0 ce sl pc' Ls (.long v :: S) h Ds := by
  subst hp
  exact H.goX fun s T locs t X hZ hown eT hx hby kk => X.ldc2Long hx hown (mvT hZ w) (g := mkF C.m pc Ls S) rfl (hb hby hd) _ kk
theorem Rc.ldcI {pc' idx : Nat} {v : Int32} (H : Rc C R own bs ml Z n0 ce sl pc Ls S h Ds) (w : (Jvm.Cond.constant own idx v).before a0 Z = true) (hd : decode bs pc = .ok (.ldc idx, 2)) (hp : pc + 2 = pc') : Rc C R own bs ml Z n0 ce sl pc' Ls (.int v :: S) h Ds := by
  subst hp
  exact H.goX fun s T locs t X hZ hown eT hx hby kk => X.ldcInt hx hown (mvT hZ w) (g := mkF C.m pc Ls S) rfl (hb hby hd) _ kk
/-! the case's words, read -/
section GivenWords
variable {s : State} {args : Array Value} {t u : Term} {a b : Addr} {cl : Cell} {ty : FieldType} {i k : Int32} {v : Value} {Cc n d : String}
theorem g_int (h : (Jvm.Cond.eq t (.int k)).value args s none s [] = some true) : t.eval args s none [] s = some (.int k) := Cond.eq_int (Cond.before_iff.mpr h) rfl
theorem g_ref (h : (Jvm.Cond.eq t u).value args s none s [] = some true) (hu : u.eval args s none [] s = some (.ref b)) : t.eval args s none [] s = some (.ref b) := by
  obtain ⟨x, y, h1, h2, h3, h4⟩ := cmp_v (Or.inl h)
  rw [hu] at h2
  cases h2
  have hx : x.isRef = true := by
    cases x <;> simp_all [Kin, Value.isRef]
  have q := gotT (eq_R h1 hu hx rfl) h
  rw [h1, q]
theorem g_fld (ht : t.eval args s none [] s = some (.ref a)) (e : (Term.field t Cc n d).eval args s none [] s = some v) : Fld s s.heap a Cc n d v := Fld.start (by rw [← fld_at (args := args) (first := s) (o := none) (idx := []) (C := Cc) (n := n) (dd := d) ht]; exact e)
theorem g_elem (e : (Term.elem t (.int i)).eval args s none [] s = some v) (ht : t.eval args s none [] s = some (.ref a)) (A : Arr s s.heap a cl ty) : cl.slots[i.toNatClampNeg]? = some v := (elem_in e ht rfl A.1).2
theorem g_len (e : (Term.length t).eval args s none [] s = some (.int k)) (ht : t.eval args s none [] s = some (.ref a)) (A : Arr s s.heap a cl ty) : cl.slots.size < 2 ^ 31 ∧ cl.slots.size.toInt32 = k := by
  have ha : s.arrayAt? a = some cl := A.fin (own_al s)
  have hl : cl.slots.size < 2 ^ 31 := SBG.length_lt ht ha e
  have q := len_f ht ha hl
  rw [q] at e
  exact ⟨hl, by simpa using e⟩
theorem g_str {cs : List Int32} {kb : ClassId} {b' : Addr} (X : Exa s s.heap a "java/lang/String") (Fc : Fld s s.heap a "java/lang/String" "coder" "B" (.int 0)) (Fv : Fld s s.heap a "java/lang/String" "value" "[B" (.ref b')) (V : Arv s s.heap b' kb .byte (Int32.ofNat cs.length) (bytesOfCs cs) (.int 0)) (h1 : ∀ c ∈ cs, ¬ c < 0 ∧ ¬ (255 : Int32) < c) (h2 : cs.length ≤ 4000) : IsStr s s.heap a cs := ⟨X, Fc, h1, h2, b', kb, Fv, V⟩
end GivenWords
/-! iaload; a call of a private instance method -/
theorem Rc.iaload {pc' : Nat} {a : Addr} {j z : Int32} {v : Value} {kA : ClassId} {vs : List Value} {dv : Value} (H : Rc C R own bs ml Z n0 ce sl pc Ls (.int j :: .ref a :: rest) h Ds) (V : Arv Z h a kA .int z vs dv) (hj : ¬ j < 0 ∧ j < z) (hv : vs.getD j.toNatClampNeg dv = v) (hd : decode bs pc = .ok (.iaload, 1)) (hp : pc + 1 = pc') : Rc C R own bs ml Z n0 ce sl pc' Ls (v :: rest) h Ds := by
  subst hp
  obtain ⟨cl, Ar, q1, q2, q3, q4, q5⟩ := V
  exact H.goX fun s T locs t X hZ hown eT hx hby kk => X.iaload hx (j := j) (v := v) (by rw [eT]; exact Ar.1) (State.isArrayOf_alike hZ.alike Ar.2.1) Ar.2.2 (inb_of q2 hj) (q4.at (inb_of q2 hj) hv) (g := mkF C.m pc Ls (.int j :: .ref a :: rest)) rfl rfl (hb hby hd) _ kk
theorem Rc.callP {pc' : Nat} {y : MethodName} {idx ml' W : Nat} {by' : ByteArray} {ret' : Option FieldType} {rm : Room} {a : Addr} {argsL : List Value} {Q : Option Value → Heap → List Addr → Prop} (H : Rc C R own bs ml Z n0 ce sl pc Ls S h Ds)
    (hlink : (Jvm.Cond.methodLink own idx y).before a0 Z = true) (hpriv : (Jvm.Cond.privateMethod y).before a0 Z = true) (hsel : (Jvm.Cond.selects y.cls y y).before a0 Z = true) (hinst : (Jvm.Cond.instanceMethod y).before a0 Z = true) (hinit : (Jvm.Cond.initialized y.cls).before a0 Z = true) (hcode : (Jvm.Cond.code y by' ml' ret').before a0 Z = true) (hy : NoMH y)
    (E : Exa Z h a y.cls) (K : Ctr C.l Z y by' ml' ret' [] rm (.ref a :: argsL).toArray h n0 Ds Q) (hsz : Ls.size = ml) (hlen : ∀ sig, parseMethodDescriptor y.desc = some sig → argsL.length = sig.parameters.length) (hst : S = argsL.reverse ++ .ref a :: rest) (hW : (rest.map fun v => v.category).sum = W)
    (hd : decode bs pc = .ok (.invokevirtual idx, 3)) (hfr : rm.frames + 1 ≤ R.frames) (hlo : W + (ml' + 11) + rm.locals ≤ R.locals) (hce : ce + rm.cells ≤ R.cells) (hsl : sl + rm.slots ≤ R.slots) (hp : pc + 3 = pc') :
    ∃ (v : Option Value) (h' : Heap) (Ds' : List Addr), Q v h' Ds' ∧ Rc C R own bs ml Z n0 (ce + rm.cells) (sl + rm.slots) pc' Ls (v.toList ++ rest) h' Ds' := by
  subst hp hst
  obtain ⟨T, locs, vm0, k0, X, h1, h2, h3, h4, h5, h6, h7, k⟩ := H
  obtain ⟨cq, kq, qa, qb, ⟨cellB, hcellT, hclsB, hstatB⟩⟩ := isOf (s := C.s.setVm vm0) h3 h5 E
  obtain ⟨v, vm₁, B, hw1, X', hS', hgr, hq, st⟩ := X.privateBackS h7.1 (y := y) h7.2.2.2.1 (mvT (s := C.s.setVm vm0) h3 hlink) (mvT (s := C.s.setVm vm0) h3 hinst) (mvT (s := C.s.setVm vm0) h3 hsel) (Cond.privateMethod_at (args := C.args) (mvT (s := C.s.setVm vm0) h3 hpriv)) (mvT (s := C.s.setVm vm0) h3 hcode) hy (ctrBack (s := C.s.setVm vm0) (W := W) K h3 h4 hcode hinit hfr hlo) (g := mkF C.m pc Ls (argsL.reverse ++ .ref a :: rest)) rfl (hsz.trans h7.2.2.1.symm) (Steps.refl _) hcellT (fun z h => by rw [h] at hstatB; cases hstatB) hlen rfl (by show 2 * 0 + _ ≤ _; omega) (hb h7.2.1 hd) (fun vm₁ hw => ⟨rfl, h5, hce, hsl⟩)
  exact own_fin h1 h2 h3 h5 h6 h7 k X' hS' hgr hq st
/-! calls of a superclass's method; of a private method on a subclass's object; System.arraycopy of bytes -/
theorem own_decl {y : MethodName} {by' : ByteArray} {ml' : Nat} {ret' : Option FieldType} (wi : (Jvm.Cond.instanceMethod y).before a0 Z = true) (wc : (Jvm.Cond.code y by' ml' ret').before a0 Z = true) : (Jvm.Cond.declares y).before a0 Z = true := by
  obtain ⟨mk, methM, hnamed, hmethM, hstM, habM⟩ := Cond.instanceMethod_spec wi
  obtain ⟨m2, cM, q1, -, -, -, -, -, -, hsig⟩ := Cond.code_spec hnamed wc
  cases hmethM.symm.trans q1
  simp [Cond.before, Cond.holds, Cond.value, hnamed, hmethM, hstM, hsig]
theorem own_nf {s : State} {args : Array Value} {y y' : MethodName} {Cc : String} (ws : (Jvm.Cond.selects Cc y' y').before args s = true) (hc : y'.cls = y.cls) : NotFace s y := fun r0 h0 => by
  obtain ⟨c2, r2, m2, q1, q2, q3, q4, kP, hkP, hkPi⟩ := Cond.selects_spec ws
  have a1 := findClass_of_methodNamed h0
  have a2 := findClass_of_methodNamed q3
  rw [hc, a1] at a2
  have e := Option.some.inj a2
  exact ⟨kP, by rw [e]; exact hkP, hkPi⟩
theorem own_same {y y' : MethodName} {Cc : String} (wi : (Jvm.Cond.instanceMethod y).before a0 Z = true) (ws : (Jvm.Cond.selects Cc y' y').before a0 Z = true) (hc : y'.cls = y.cls) (hy : NoMH y) : (Jvm.Cond.sameMethod y.cls y.cls y.name y.desc).before a0 Z = true := by
  obtain ⟨mk, methM, hnamed, hmethM, hstM, habM⟩ := Cond.instanceMethod_spec wi
  have hf := State.methodFound?_of_named hnamed hy
  have hcn := findClass_of_methodNamed hnamed
  obtain ⟨kp, hp, hpi⟩ := own_nf ws hc mk hnamed
  have hn' : Z.methodNamed? ⟨y.cls, y.name, y.desc⟩ = some mk := hnamed
  simp [Cond.before, Cond.holds, Cond.value, hcn, hf, hn', hp, hpi]
theorem Rc.callSup {pc' : Nat} {y : MethodName} {Cc : String} {idx ml' W : Nat} {by' : ByteArray} {ret' : Option FieldType} {rm : Room} {a : Addr} {argsL : List Value} {Q : Option Value → Heap → List Addr → Prop} (H : Rc C R own bs ml Z n0 ce sl pc Ls S h Ds) (hn : y.name ≠ "<init>")
    (hlink : (Jvm.Cond.methodLink own idx y).before a0 Z = true) (hsame : (Jvm.Cond.sameMethod y.cls y.cls y.name y.desc).before a0 Z = true) (hsup : (Jvm.Cond.superclass own y.cls).before a0 Z = true) (hinst : (Jvm.Cond.instanceMethod y).before a0 Z = true) (hinit : (Jvm.Cond.initialized y.cls).before a0 Z = true) (hcode : (Jvm.Cond.code y by' ml' ret').before a0 Z = true)
    (E : Exa Z h a Cc) (K : Ctr C.l Z y by' ml' ret' [] rm (.ref a :: argsL).toArray h n0 Ds Q) (hsz : Ls.size = ml) (hlen : ∀ sig, parseMethodDescriptor y.desc = some sig → argsL.length = sig.parameters.length) (hst : S = argsL.reverse ++ .ref a :: rest) (hW : (rest.map fun v => v.category).sum = W)
    (hd : decode bs pc = .ok (.invokespecial idx, 3)) (hfr : rm.frames + 1 ≤ R.frames) (hlo : W + (ml' + 11) + rm.locals ≤ R.locals) (hce : ce + rm.cells ≤ R.cells) (hsl : sl + rm.slots ≤ R.slots) (hp : pc + 3 = pc') :
    ∃ (v : Option Value) (h' : Heap) (Ds' : List Addr), Q v h' Ds' ∧ Rc C R own bs ml Z n0 (ce + rm.cells) (sl + rm.slots) pc' Ls (v.toList ++ rest) h' Ds' := by
  subst hp hst
  obtain ⟨T, locs, vm0, k0, X, h1, h2, h3, h4, h5, h6, h7, k⟩ := H
  obtain ⟨v, vm₁, B, hw1, X', hS', hgr, hq, st⟩ := RoadKit.superBackS X h7.1 (Z := Z) h3 h7.2.2.2.1 hlink hsame hinst hsup hn (ctrBack (s := C.s.setVm vm0) (W := W) K h3 h4 hcode hinit hfr hlo) h5 (Ins.self E) (g := mkF C.m pc Ls (argsL.reverse ++ .ref a :: rest)) rfl (hsz.trans h7.2.2.1.symm) hcode hlen rfl (by show 2 * 0 + _ ≤ _; omega) (hb h7.2.1 hd) (fun vm₁ hw => ⟨rfl, h5, hce, hsl⟩)
  exact own_fin h1 h2 h3 h5 h6 h7 k X' hS' hgr hq st
theorem Rc.copyB {pc' idx W : Nat} {a b : Addr} {sp dp nn z z' : Int32} {kA kB : ClassId} {vs vd us : List Value} {dv dd : Value} {ty : FieldType} (H : Rc C R own bs ml Z n0 ce sl pc Ls (.int nn :: .int dp :: .ref b :: .int sp :: .ref a :: rest) h Ds)
    (w1 : (Jvm.Cond.methodLink own idx Jvm.Stand.acN).before a0 Z = true) (w2 : (Jvm.Cond.native Jvm.Stand.acN).before a0 Z = true) (w3 : (Jvm.Cond.static Jvm.Stand.acN).before a0 Z = true) (w4 : (Jvm.Cond.initialized "java/lang/System").before a0 Z = true)
    (A : Arv Z h a kA ty z vs dv) (B : Arv Z h b kB ty z' vd dd) (hty : refKind ty = false) (g1 : ¬ sp < 0) (g2 : ¬ dp < 0) (g3 : ¬ nn < 0) (g4 : sp.toNatClampNeg + nn.toNatClampNeg ≤ z.toNatClampNeg) (g5 : dp.toNatClampNeg + nn.toNatClampNeg ≤ z'.toNatClampNeg)
    (hus : us = (List.range nn.toNatClampNeg).map fun i => vs.getD (sp.toNatClampNeg + i) dv) (hl : dp.toNatClampNeg + nn.toNatClampNeg ≤ vd.length) (hbm : b ∈ Ds) (hsz : Ls.size = ml) (hd : decode bs pc = .ok (.invokestatic idx, 3)) (hf : 1 ≤ R.frames) (hW : (rest.map fun v => v.category).sum = W) (hlo : W + (nativeFrameWords "java/lang/System" "arraycopy" 5 + 11) ≤ R.locals) (hp : pc + 3 = pc') :
    ∃ h', Keep h h' [b] ∧ Arv Z h' b kB ty z' (vd.take dp.toNatClampNeg ++ us ++ vd.drop (dp.toNatClampNeg + nn.toNatClampNeg)) dd ∧ Rc C R own bs ml Z n0 ce sl pc' Ls rest h' Ds := by
  subst hp
  obtain ⟨T, locs, vm0, k0, X, h1, h2, h3, h4, h5, h6, h7, k⟩ := H
  obtain ⟨T', h', L, X', e', hFr, K', V', st⟩ := RoadKit.cpA X h7.1 (Z := Z) h3 h7.2.2.2.1 w1 w2 w3 w4 h5 A B (Or.inl ⟨rfl, hty⟩) g1 g2 g3 g4 g5 hus hl h6 (h4.2.2.1 b hbm).1 (g := mkF C.m pc Ls (.int nn :: .int dp :: .ref b :: .int sp :: .ref a :: rest)) rfl (hsz.trans h7.2.2.1.symm) rfl (hb h7.2.1 hd) hf (W := W) (by show 2 * 0 + _ ≤ _; omega) hlo
  exact ⟨h', K', V', T', L, vm0, k0, X', h1, Nat.le_trans h2 K'.1, h3, h4.keep K' (own_ws1 hbm), e', hFr, h7, fun t ht => k _ (st _ ht)⟩
/-! arrays of references: made, read and written at an index that isn't a literal (the library's Arh) -/
theorem Rc.newR {pc' idx : Nat} {Cc : String} {n : Int32} {cap : Nat} (H : Rc C R own bs ml Z n0 ce sl pc Ls (.int n :: rest) h Ds) (w1 : (Jvm.Cond.classLink own idx Cc).before a0 Z = true) (w2 : (Jvm.Cond.arrayOver (.object Cc)).before a0 Z = true) (hd : decode bs pc = .ok (.anewarray idx, 3)) (hn : ¬ n < 0) (hcap : n.toNatClampNeg ≤ cap) (hb' : cap * 8 ≤ 536870912) (hc : ce + 1 ≤ R.cells) (hl : sl + cap ≤ R.slots) (hp : pc + 3 = pc') :
    ∃ (h' : Heap) (b : Addr) (kA : ClassId), b = h.size ∧ Ext h h' ∧ Arv Z h' b kA (.object Cc) n [] .null ∧ Ovr Z kA Cc ∧ Rc C R own bs ml Z n0 (ce + 1) (sl + cap) pc' Ls (.ref b :: rest) h' (b :: Ds) := by
  subst hp
  obtain ⟨T, locs, vm0, k0, X, h1, h2, h3, h4, h5, h6, h7, k⟩ := H
  obtain ⟨T', h', kA, X', e', E', A', -, O', st⟩ := RoadKit.newRE X h7.1 (Z := Z) h3 h7.2.2.2.1 w1 w2 h5 (g := mkF C.m pc Ls (.int n :: rest)) rfl (hb h7.2.1 hd) rfl hn hcap hb' hc hl rfl
  exact ⟨h', h.size, kA, rfl, E', Arv.new A' hn, O', T', locs, vm0, k0, X', h1, Nat.le_trans h2 E'.1, h3, h4.born E' A'.lt, e', h6, h7, fun t ht => k _ (st _ ht)⟩
theorem Rc.aaloadH {pc' : Nat} {a : Addr} {j z : Int32} {v : Value} {kA : ClassId} {ty : FieldType} {hs : List (Int32 × Value)} {vs : List Value} {dv : Value} (H : Rc C R own bs ml Z n0 ce sl pc Ls (.int j :: .ref a :: rest) h Ds) (V : Arh Z h a kA ty z hs vs dv) (hty : ty.isReference = true) (hj : ¬ j < 0 ∧ j < z) (hv : getH hs vs dv j.toNatClampNeg = v) (hd : decode bs pc = .ok (.aaload, 1)) (hp : pc + 1 = pc') : Rc C R own bs ml Z n0 ce sl pc' Ls (v :: rest) h Ds := by
  subst hp
  obtain ⟨cl, Ar, q1, q2, q3, q4, q5⟩ := V
  exact H.goX fun s T locs t X hZ hown eT hx hby kk => X.aaload hx (j := j) (v := v) (by rw [eT]; exact Ar.1) (State.isArrayOf_alike hZ.alike Ar.2.1) hty Ar.2.2 (inb_of q2 hj) (atH q4 (inb_of q2 hj) hv) (g := mkF C.m pc Ls (.int j :: .ref a :: rest)) rfl rfl (hb hby hd) _ kk
theorem Rc.aastoreH {pc' : Nat} {a y : Addr} {j z : Int32} {kA : ClassId} {Cc : String} {hs : List (Int32 × Value)} {vs : List Value} {dv : Value} (H : Rc C R own bs ml Z n0 ce sl pc Ls (.ref y :: .int j :: .ref a :: rest) h Ds) (V : Arh Z h a kA (.object Cc) z hs vs dv) (O : Ovr Z kA Cc) (I : Ins Z h y Cc true) (hj : ¬ j < 0 ∧ j < z) (ha : a ∈ Ds) (hd : decode bs pc = .ok (.aastore, 1)) (hp : pc + 1 = pc') :
    ∃ h', Keep h h' [a] ∧ Arh Z h' a kA (.object Cc) z ((j, .ref y) :: hs) vs dv ∧ Rc C R own bs ml Z n0 ce sl pc' Ls rest h' Ds := by
  subst hp
  obtain ⟨T, locs, vm0, k0, X, h1, h2, h3, h4, h5, h6, h7, k⟩ := H
  obtain ⟨cl, Ar, q1, q2, q3, q4, q5⟩ := V
  obtain ⟨T', h', X', e', W', st⟩ := RoadKit.stR X h7.1 (Z := Z) h3 h5 Ar (j := j) (inb_of q2 hj) rfl (Sto.ofV Ar q1 O I) (g := mkF C.m pc Ls (.ref y :: .int j :: .ref a :: rest)) rfl rfl (hb h7.2.1 hd)
  exact ⟨h', Keep.of_wr W', Arh.push Ar q1 q2 q3 q4 q5 rfl W' (inb_of q2 hj), T', _, vm0, k0, X', h1, by rw [W'.size]; exact h2, h3, h4.keep (Keep.of_wr W') (own_ws1 ha), e', Fr.snoc X' h6 (h4.2.2.1 a ha).1, h7, fun t ht => k _ (st _ ht)⟩
theorem notB_arh {Z : State} {h : Heap} {w : Addr} {k : ClassId} {ty : FieldType} {z : Int32} {hs : List (Int32 × Value)} {vs : List Value} {dv : Value} (V : Arh Z h w k ty z hs vs dv) (hty : ty ≠ .byte) : NotB Z h w := fun t kb z' vs' d F e => by
  subst e
  obtain ⟨c1, A1, -⟩ := F
  obtain ⟨c2, A2, -⟩ := V
  cases A1.1.symm.trans A2.1
  obtain ⟨-, k1, p1, comp1, q1⟩ := A1.2.1
  obtain ⟨-, k2, p2, comp2, q2⟩ := A2.2.1
  cases p1.symm.trans p2
  rw [q1] at q2
  cases q2
  exact hty rfl
theorem neArh {Z : State} {h : Heap} {x b : Addr} {Cc : String} {n : Nat} {k : ClassId} {ty : FieldType} {z : Int32} {hs : List (Int32 × Value)} {vs : List Value} {dv : Value} {a0 : Array Value} (E : Exa Z h x Cc) (F : Arh Z h b k ty z hs vs dv) (w : (Jvm.Cond.instantiable Cc n).before a0 Z = true) : x ≠ b := fun q => by
  subst q
  obtain ⟨c1, k1, e1, f1, g1, -⟩ := E
  obtain ⟨c2, ⟨e2, hA, -⟩, -⟩ := F
  cases e1.symm.trans e2
  simp only [Cond.before, Cond.holds, Cond.value, f1, Option.bind_some, g1, Option.map_some] at w
  have ho : k1.kind = .ordinary := by
    simp only [beq_iff_eq, Option.some.injEq, Bool.and_eq_true, decide_eq_true_eq] at w; exact w.1.1.1
  obtain ⟨-, kk, hk, comp, hkind⟩ := hA
  rw [g1] at hk; cases hk; rw [ho] at hkind; cases hkind
/-! the String laws of the paste, in the forward form -/
abbrev CompactOn (Z : State) : Prop := ∃ z : Int32, Sta Z Z.heap "java/lang/String" "COMPACT_STRINGS" "Z" (.int z) ∧ ¬ z = 0
abbrev SiooOk (Z : State) : Prop := ∃ fm : Value, Sta Z Z.heap "jdk/internal/util/Preconditions" "SIOOBE_FORMATTER" "Ljava/util/function/BiFunction;" fm ∧ fm.isRef = true
theorem own_up {cs : List Int32} (h : ∀ c ∈ cs, ¬ c < 0 ∧ ¬ (255 : Int32) < c) : ∀ c ∈ cs, ¬ c < 0 ∧ ¬ (65535 : Int32) < c := fun c hc => ⟨(h c hc).1, fun q => (h c hc).2 (by rw [Int32.lt_iff_toInt_lt] at q ⊢; have e1 : (65535 : Int32).toInt = 65535 := rfl; have e2 : (255 : Int32).toInt = 255 := rfl; omega)⟩
theorem Rc.newStr {pc' idx W : Nat} {x b : Addr} {kC : ClassId} {cs : List Int32} {d v0 c0 : Value} {N : Int32} (H : Rc C R own bs ml Z n0 ce sl pc Ls (.ref b :: .ref x :: rest) h Ds) (hws : ∀ d ∈ StrChars.Road.words, d.before a0 Z = true) (wi : (Jvm.Cond.instantiable "java/lang/String" 4).before a0 Z = true)
    (hlink : (Jvm.Cond.methodLink own idx ⟨"java/lang/String", "<init>", "([C)V"⟩).before a0 Z = true) (hinst : (Jvm.Cond.instanceMethod ⟨"java/lang/String", "<init>", "([C)V"⟩).before a0 Z = true) (CS : CompactOn Z)
    (E : Exa Z h x "java/lang/String") (V : Fld Z h x "java/lang/String" "value" "[B" v0) (Cd : Fld Z h x "java/lang/String" "coder" "B" c0) (K : Arv Z h b kC .char N (cs.map Value.int) d) (hN : N = Int32.ofNat cs.length) (l0 : 0 < cs.length) (l2 : cs.length ≤ 4000) (hp : ∀ c ∈ cs, ¬ c < 0 ∧ ¬ (255 : Int32) < c) (hx : x ∈ Ds)
    (hsz : Ls.size = ml) (hW : (rest.map fun v => v.category).sum = W) (hd : decode bs pc = .ok (.invokespecial idx, 3)) (hfr : 4 ≤ R.frames) (hlo : W + 65 ≤ R.locals) (hce : ce + 1 ≤ R.cells) (hsl : sl + cs.length ≤ R.slots) (hpc : pc + 3 = pc') :
    ∃ h', Keep h h' [x] ∧ IsStr Z h' x cs ∧ Rc C R own bs ml Z n0 (ce + 1) (sl + cs.length) pc' Ls rest h' Ds := by
  obtain ⟨z, hS, hz⟩ := CS
  obtain ⟨v, h', L, ⟨q1, q2, q3, q4, q5, t, kb, -, -, -, q6, q7⟩, R'⟩ := H.backI (y := ⟨"java/lang/String", "<init>", "([C)V"⟩) (kc := 1) (ks := cs.length) (argsL := [.ref b]) (Qb := fun v h' L => StrChars.Road.QV Z x N (cs.map (fun c => c.toInt8.toInt32)) h n0 v h' L) rfl hlink hinst (hws _ (List.mem_of_getElem? (i := 0) rfl)) (by decide)
    (fun s' hZ' => StrChars.Road.backV (W := W) hZ' hws wi (cs := cs) (bs := cs.map (fun c => c.toInt8.toInt32)) (n := cs.length) (H.mem hx).1 (own_n0 H.old) E V Cd K (hS.ext H.old.2) hz rfl hN l0 l2 hp rfl hfr hlo)
    (fun v h' L q => ⟨q.2.1, [x], q.2.2.1, own_ws1 hx⟩) hsz (lenOf (ps := [.array .char]) (r := none) (by decide +kernel) rfl) rfl hW hd hce hsl hpc
  subst q1
  exact ⟨h', q3, ⟨q4, q5, hp, l2, t, kb, q6, by rw [← hN]; exact q7⟩, R'⟩
theorem n4_8 : decode StrChars.New4.yB 8 = .ok (.aload_n 0, 1) := by decide +kernel
theorem n4_9 : decode StrChars.New4.yB 9 = .ok (.ldc 7, 2) := by decide +kernel
theorem n4_11 : decode StrChars.New4.yB 11 = .ok (.getfield 9, 3) := by decide +kernel
theorem n4_14 : decode StrChars.New4.yB 14 = .ok (.putfield 9, 3) := by decide +kernel
theorem n4_17 : decode StrChars.New4.yB 17 = .ok (.aload_n 0, 1) := by decide +kernel
theorem n4_18 : decode StrChars.New4.yB 18 = .ok (.ldc 7, 2) := by decide +kernel
theorem n4_20 : decode StrChars.New4.yB 20 = .ok (.getfield 15, 3) := by decide +kernel
theorem n4_23 : decode StrChars.New4.yB 23 = .ok (.putfield 15, 3) := by decide +kernel
theorem n4_26 : decode StrChars.New4.yB 26 = .ok (.return_, 1) := by decide +kernel
theorem own_pure {x : Value} {C : Cx} {R : Room} {own : String} {bs : ByteArray} {ml : Nat} {Z : State} {n0 ce sl pc : Nat} {Ls : Array Slot} {rest : List Value} {h : Heap} {Ds : List Addr} (H : ∃ (v : Option Value) (h' : Heap) (Ds' : List Addr), (v = some x ∧ h = h' ∧ Ds = Ds') ∧ Rc C R own bs ml Z n0 ce sl pc Ls (v.toList ++ rest) h' Ds') : Rc C R own bs ml Z n0 ce sl pc Ls (x :: rest) h Ds := by
  obtain ⟨_, _, _, ⟨rfl, rfl, rfl⟩, q⟩ := H; exact q
theorem own_pure0 {C : Cx} {R : Room} {own : String} {bs : ByteArray} {ml : Nat} {Z : State} {n0 ce sl pc : Nat} {Ls : Array Slot} {rest : List Value} {h : Heap} {Ds : List Addr} (H : ∃ (v : Option Value) (h' : Heap) (Ds' : List Addr), (v = none ∧ h = h' ∧ Ds = Ds') ∧ Rc C R own bs ml Z n0 ce sl pc Ls (v.toList ++ rest) h' Ds') : Rc C R own bs ml Z n0 ce sl pc Ls rest h Ds := by
  obtain ⟨_, _, _, ⟨rfl, rfl, rfl⟩, q⟩ := H; exact q
end OwnKit
theorem own_and255 (x : Int32) : ∃ k : Fin 256, x &&& 255 = Int32.ofNat k.val := by
  have h : (x &&& 255).toBitVec.toNat < 256 := by
    simp only [Int32.toBitVec_and, BitVec.toNat_and]
    exact Nat.lt_succ_of_le Nat.and_le_right
  refine ⟨⟨_, h⟩, ?_⟩
  apply Int32.toBitVec_inj.mp
  show _ = BitVec.ofNat 32 _
  rw [BitVec.ofNat_toNat]; simp
theorem own_and7 (x : Int32) : ∃ k : Fin 8, x &&& 7 = Int32.ofNat k.val := by
  have h : (x &&& 7).toBitVec.toNat < 8 := by
    simp only [Int32.toBitVec_and, BitVec.toNat_and]
    exact Nat.lt_succ_of_le Nat.and_le_right
  refine ⟨⟨_, h⟩, ?_⟩
  apply Int32.toBitVec_inj.mp
  show _ = BitVec.ofNat 32 _
  rw [BitVec.ofNat_toNat]; simp
theorem own_and3 (x : Int32) : ∃ k : Fin 4, x &&& 3 = Int32.ofNat k.val := by
  have h : (x &&& 3).toBitVec.toNat < 4 := by
    simp only [Int32.toBitVec_and, BitVec.toNat_and]
    exact Nat.lt_succ_of_le Nat.and_le_right
  refine ⟨⟨_, h⟩, ?_⟩
  apply Int32.toBitVec_inj.mp
  show _ = BitVec.ofNat 32 _
  rw [BitVec.ofNat_toNat]; simp
theorem own_and1 (x : Int32) : ∃ k : Fin 2, x &&& 1 = Int32.ofNat k.val := by
  have h : (x &&& 1).toBitVec.toNat < 2 := by
    simp only [Int32.toBitVec_and, BitVec.toNat_and]
    exact Nat.lt_succ_of_le Nat.and_le_right
  refine ⟨⟨_, h⟩, ?_⟩
  apply Int32.toBitVec_inj.mp
  show _ = BitVec.ofNat 32 _
  rw [BitVec.ofNat_toNat]; simp
theorem own_lt {i j : Nat} (hj : j ≤ 4000) (h : i < j) : Int32.ofNat i < Int32.ofNat j := by
  rw [Int32.lt_iff_toInt_lt, Int32.toInt_ofNat_of_lt (by omega), Int32.toInt_ofNat_of_lt (by omega)]; omega
theorem own_nlt {i j : Nat} (hi : i ≤ 4000) (h : j ≤ i) : ¬ Int32.ofNat i < Int32.ofNat j := by
  rw [Int32.lt_iff_toInt_lt, Int32.toInt_ofNat_of_lt (by omega), Int32.toInt_ofNat_of_lt (by omega)]; omega
theorem i32_succ (i : Nat) : Int32.ofNat i + 1 = Int32.ofNat (i + 1) := by
  apply Int32.toBitVec_inj.mp
  show BitVec.ofNat 32 i + 1#32 = BitVec.ofNat 32 (i + 1)
  rw [BitVec.ofNat_add]
theorem nar_i2c (x : Int32) : nar .char x.toUInt32.toUInt16.toUInt32.toInt32 = x.toUInt32.toUInt16.toUInt32.toInt32 := by
  generalize x.toUInt32.toUInt16 = y
  simp [nar]
theorem c255 (x : Int32) : ¬ (x &&& (255 : Int32)).toUInt32.toUInt16.toUInt32.toInt32 < 0 ∧ ¬ (255 : Int32) < (x &&& (255 : Int32)).toUInt32.toUInt16.toUInt32.toInt32 := by
  obtain ⟨k, hk⟩ := own_and255 x
  rw [hk]
  clear hk; revert k; decide +kernel
theorem own_ltI {k n : Nat} (hk : k ≤ 4000) (hn : n ≤ 4000) (h : Int32.ofNat k < Int32.ofNat n) : k < n := by
  apply Classical.byContradiction; intro q
  exact own_nlt hk (by omega) h
theorem own_getD {cs : List Int32} {k : Nat} (h : k < cs.length) (p : ∀ c ∈ cs, ¬ c < 0 ∧ ¬ (255 : Int32) < c) : ¬ cs.getD k 0 < 0 ∧ ¬ (255 : Int32) < cs.getD k 0 := by
  rw [List.getD_eq_getElem?_getD, List.getElem?_eq_getElem h]
  exact p _ (List.getElem_mem h)
theorem own_l255 (x : Int64) : ∃ k : Fin 256, x &&& 255 = Int64.ofNat k.val := by
  have h : (x &&& 255).toBitVec.toNat < 256 := by
    simp only [Int64.toBitVec_and, BitVec.toNat_and]
    exact Nat.lt_succ_of_le Nat.and_le_right
  refine ⟨⟨_, h⟩, ?_⟩
  apply Int64.toBitVec_inj.mp
  show _ = BitVec.ofNat 64 _
  rw [BitVec.ofNat_toNat]; simp
theorem cl255 (x : Int64) : ¬ (x &&& (255 : Int64)).toInt32.toUInt32.toUInt16.toUInt32.toInt32 < 0 ∧ ¬ (255 : Int32) < (x &&& (255 : Int64)).toInt32.toUInt32.toUInt16.toUInt32.toInt32 := by
  obtain ⟨k, hk⟩ := own_l255 x
  rw [hk]
  clear hk; revert k; decide +kernel
theorem own_clamp {k : Nat} (h : k < 2147483648) : (Int32.ofNat k).toNatClampNeg = k := by
  show (Int32.ofNat k).toInt.toNat = k
  rw [Int32.toInt_ofNat_of_lt (by omega)]; omega
theorem own_j {k n : Nat} (hn : n ≤ 4000) (h : k < n) : ¬ Int32.ofNat k < 0 ∧ Int32.ofNat k < Int32.ofNat n := ⟨own_nlt (j := 0) (by omega) (Nat.zero_le _), own_lt hn h⟩
theorem own_bget {cs : List Int32} {k : Nat} (hl : cs.length ≤ 4000) (h : k < cs.length) : (bytesOfCs cs).getD (Int32.ofNat k).toNatClampNeg (.int 0) = .int (cs.getD k 0).toInt8.toInt32 := by
  rw [own_clamp (by omega)]
  simp only [bytesOfCs, List.getD_eq_getElem?_getD, List.getElem?_map, List.getElem?_eq_getElem h]
  rfl
theorem own_b2c {c : Int32} (h : ¬ c < 0 ∧ ¬ (255 : Int32) < c) : (c.toInt8.toInt32 &&& (255 : Int32)).toUInt32.toUInt16.toUInt32.toInt32 = c := by
  obtain ⟨k, rfl⟩ := ofFin h
  clear h; revert k; decide +kernel
theorem nar_i2b (x : Int32) : nar .byte x.toInt8.toInt32 = x.toInt8.toInt32 := by
  generalize x.toInt8 = y
  simp [nar]
theorem own_shr0 (c : Int32) : c >>> ((0 : Int32) &&& 31) = c := by
  apply Int32.toBitVec_inj.mp
  simp
def seg (cs : List Int32) (i j : Nat) : List Int32 := (cs.drop i).take (j - i)
def hf (z : Int32) (cs : List Int32) : Int32 := cs.foldl (fun a c => ((31 : Int32) * a) + c) z
def hsh (cs : List Int32) : Int32 := hf 0 cs
theorem seg_cons {cs : List Int32} {k e : Nat} (h : k < e) (he : e ≤ cs.length) : seg cs k e = cs.getD k 0 :: seg cs (k + 1) e := by
  unfold seg
  rw [List.drop_eq_getElem_cons (by omega), show e - k = (e - (k + 1)) + 1 by omega, List.take_succ_cons, List.getD_eq_getElem?_getD, List.getElem?_eq_getElem (by omega)]; rfl
def ix (cs : List Int32) : Int32 := (hsh cs ^^^ ((hsh cs).toUInt32 >>> ((16 : Int32) &&& 31).toUInt32).toInt32) &&& (16383 : Int32)
theorem and_b (x : Int32) : ¬ (x &&& (16383 : Int32)) < 0 ∧ (x &&& (16383 : Int32)) < 16384 := by
  have h : (x &&& (16383 : Int32)).toBitVec.toNat ≤ 16383 := by
    simp only [Int32.toBitVec_and, BitVec.toNat_and]
    exact Nat.and_le_right
  have e : (x &&& (16383 : Int32)).toInt = ((x &&& (16383 : Int32)).toBitVec.toNat : Int) := by
    show BitVec.toInt _ = _
    rw [BitVec.toInt_eq_toNat_cond]
    split <;> omega
  have e0 : (0 : Int32).toInt = 0 := rfl
  have e1 : (16384 : Int32).toInt = 16384 := rfl
  constructor
  · rw [Int32.lt_iff_toInt_lt, e, e0]; omega
  · rw [Int32.lt_iff_toInt_lt, e, e1]; omega
theorem ix_b (cs : List Int32) : ¬ ix cs < 0 ∧ ix cs < 16384 := and_b _
theorem own_nat {i j : Nat} (hi : i ≤ 4000) (hj : j ≤ 4000) (h : Int32.ofNat i = Int32.ofNat j) : i = j := by
  have q := congrArg Int32.toInt h
  rw [Int32.toInt_ofNat_of_lt (by omega), Int32.toInt_ofNat_of_lt (by omega)] at q
  omega
theorem own_sub {i j : Nat} (h : i ≤ j) (hj : j ≤ 4000) : Int32.ofNat j - Int32.ofNat i = Int32.ofNat (j - i) := by
  apply Int32.toInt_inj.mp
  rw [Int32.toInt_sub, Int32.toInt_ofNat_of_lt (by omega), Int32.toInt_ofNat_of_lt (by omega), Int32.toInt_ofNat_of_lt (by omega)]
  rw [Int.bmod_eq_of_le (by omega) (by omega)]; omega
theorem own_addc {i c : Nat} (h : i + c ≤ 4000) : Int32.ofNat i + Int32.ofNat c = Int32.ofNat (i + c) := by
  apply Int32.toInt_inj.mp
  rw [Int32.toInt_add, Int32.toInt_ofNat_of_lt (by omega), Int32.toInt_ofNat_of_lt (by omega), Int32.toInt_ofNat_of_lt (by omega)]
  rw [Int.bmod_eq_of_le (by omega) (by omega)]; omega
theorem seg_len {cs : List Int32} {i j : Nat} (h : i ≤ j) (hj : j ≤ cs.length) : (seg cs i j).length = j - i := by
  unfold seg; rw [List.length_take, List.length_drop]; omega
theorem seg_get {cs : List Int32} {i j t : Nat} (hj : j ≤ cs.length) (ht : t < j - i) : (seg cs i j)[t]? = some (cs.getD (i + t) 0) := by
  unfold seg
  rw [List.getElem?_take, if_pos ht, List.getElem?_drop, List.getD_eq_getElem?_getD, List.getElem?_eq_getElem (by omega)]; rfl
theorem seg_eq {cs ds : List Int32} {i j k l : Nat} (h1 : i ≤ j) (h2 : j ≤ cs.length) (h3 : k ≤ l) (h4 : l ≤ ds.length) (hn : j - i = l - k) (hh : ∀ t, t < j - i → cs.getD (i + t) 0 = ds.getD (k + t) 0) : seg cs i j = seg ds k l := by
  apply List.ext_getElem?
  intro t
  by_cases ht : t < j - i
  · rw [seg_get h2 ht, seg_get h4 (by omega), hh t ht]
  · rw [List.getElem?_eq_none (by rw [seg_len h1 h2]; omega), List.getElem?_eq_none (by rw [seg_len h3 h4]; omega)]
theorem seg_ne {cs ds : List Int32} {i j k l t : Nat} (h2 : j ≤ cs.length) (h4 : l ≤ ds.length) (hn : j - i = l - k) (ht : t < j - i) (hne : ¬ cs.getD (i + t) 0 = ds.getD (k + t) 0) : ¬ seg cs i j = seg ds k l := fun q => by
  have e : (seg cs i j)[t]? = (seg ds k l)[t]? := by rw [q]
  rw [seg_get h2 ht, seg_get h4 (by omega)] at e
  exact hne (Option.some.inj e)
theorem seg_nl {cs ds : List Int32} {i j k l : Nat} (h1 : i ≤ j) (h2 : j ≤ cs.length) (h3 : k ≤ l) (h4 : l ≤ ds.length) (hn : ¬ j - i = l - k) : ¬ seg cs i j = seg ds k l := fun q => by
  have e := congrArg List.length q
  rw [seg_len h1 h2, seg_len h3 h4] at e
  exact hn e
theorem seg_all (cs : List Int32) : seg cs 0 cs.length = cs := by
  unfold seg; simp
theorem sbyte {x y : Int32} (hx : ¬ x < 0 ∧ ¬ (255 : Int32) < x) (hy : ¬ y < 0 ∧ ¬ (255 : Int32) < y) (h : x.toInt8.toInt32 = y.toInt8.toInt32) : x = y := by
  have a : ∀ {z : Int32}, ¬ z < 0 → ¬ (255 : Int32) < z → ∃ k : Fin 256, z = Int32.ofNat k.val := by
    intro z h0 h1
    rw [Int32.lt_iff_toInt_lt] at h0 h1
    have e0 : (0 : Int32).toInt = 0 := rfl
    have e1 : (255 : Int32).toInt = 255 := rfl
    refine ⟨⟨z.toInt.toNat, by omega⟩, ?_⟩
    apply Int32.toInt_inj.mp
    rw [Int32.toInt_ofNat_of_lt (by show z.toInt.toNat < 2 ^ 31; omega)]
    show z.toInt = (z.toInt.toNat : Int)
    omega
  obtain ⟨k, rfl⟩ := a hx.1 hx.2
  obtain ⟨l, rfl⟩ := a hy.1 hy.2
  have t : ∀ k : Fin 256, (Int32.ofNat k.val).toInt8.toInt32 &&& 255 = Int32.ofNat k.val := by decide +kernel
  rw [← t k, ← t l, h]
theorem rng {c1 c2 : Int32} : ∃ i j : Nat, i ≤ j ∧ j ≤ 4 ∧ (c1 &&& (7 : Int32)) % (5 : Int32) = Int32.ofNat i ∧ (c1 &&& (7 : Int32)) % (5 : Int32) + (c2 &&& (7 : Int32)) % ((5 : Int32) - (c1 &&& (7 : Int32)) % (5 : Int32)) = Int32.ofNat j := by
  have own_and7 : ∀ x : Int32, ∃ k : Fin 8, x &&& 7 = Int32.ofNat k.val := by
    intro x
    have h : (x &&& 7).toBitVec.toNat < 8 := by
      simp only [Int32.toBitVec_and, BitVec.toNat_and]
      exact Nat.lt_succ_of_le Nat.and_le_right
    refine ⟨⟨_, h⟩, ?_⟩
    apply Int32.toBitVec_inj.mp
    show _ = BitVec.ofNat 32 _
    rw [BitVec.ofNat_toNat]; simp
  obtain ⟨k, hk⟩ := own_and7 c1
  obtain ⟨k2, hk2⟩ := own_and7 c2
  rw [hk, hk2]
  have t : ∀ k k2 : Fin 8, ∃ i j : Fin 5, i ≤ j ∧ Int32.ofNat k.val % 5 = Int32.ofNat i.val ∧ Int32.ofNat k.val % 5 + Int32.ofNat k2.val % (5 - Int32.ofNat k.val % 5) = Int32.ofNat j.val := by decide +kernel
  obtain ⟨i, j, h1, h2, h3⟩ := t k k2
  exact ⟨i.val, j.val, h1, by omega, h2, h3⟩
theorem nz5 (x : Int32) : (5 : Int32) - (x &&& (7 : Int32)) % (5 : Int32) ≠ 0 := by
  obtain ⟨k, hk⟩ := own_and7 x
  rw [hk]
  clear hk; revert k; decide +kernel
theorem own_len0 {ds : List Int32} (hl : ds.length ≤ 4000) (h : Int32.ofNat ds.length = 0) : ds = [] := by
  have e : ds.length = 0 := own_nat hl (by decide) h
  exact List.eq_nil_of_length_eq_zero e
theorem own_len1 {ds : List Int32} (hl : ds.length ≤ 4000) (h : Int32.ofNat ds.length = 1) : ∃ y0, ds = [y0] := by
  have e : ds.length = 1 := own_nat hl (by decide) h
  match ds, e with
  | [y0], _ => exact ⟨y0, rfl⟩
theorem own_len2 {ds : List Int32} (hl : ds.length ≤ 4000) (h : Int32.ofNat ds.length = 2) : ∃ y0 y1, ds = [y0, y1] := by
  have e : ds.length = 2 := own_nat hl (by decide) h
  match ds, e with
  | [y0, y1], _ => exact ⟨y0, y1, rfl⟩
theorem own_len3 {ds : List Int32} (hl : ds.length ≤ 4000) (h : Int32.ofNat ds.length = 3) : ∃ y0 y1 y2, ds = [y0, y1, y2] := by
  have e : ds.length = 3 := own_nat hl (by decide) h
  match ds, e with
  | [y0, y1, y2], _ => exact ⟨y0, y1, y2, rfl⟩
theorem own_len4 {ds : List Int32} (hl : ds.length ≤ 4000) (h : Int32.ofNat ds.length = 4) : ∃ y0 y1 y2 y3, ds = [y0, y1, y2, y3] := by
  have e : ds.length = 4 := own_nat hl (by decide) h
  match ds, e with
  | [y0, y1, y2, y3], _ => exact ⟨y0, y1, y2, y3, rfl⟩
theorem w18 {a0 : Array Value} {Z : State} (hw : HW a0 Z) : (Jvm.Cond.fieldLink "java/lang/String" (38 : Nat) "java/lang/String" "COMPACT_STRINGS" "Z").before a0 Z = true := hw _ (List.mem_of_getElem? (i := 18) rfl)
theorem d12_0 : decode jdk_42_method_152_code 0 = .ok (.getstatic 38, 3) := by decide +kernel
theorem d12_3 : decode jdk_42_method_152_code 3 = .ok (.ifCond .eq 10, 3) := by decide +kernel
theorem d12_6 : decode jdk_42_method_152_code 6 = .ok (.aload_n 0, 1) := by decide +kernel
theorem w30 {a0 : Array Value} {Z : State} (hw : HW a0 Z) : (Jvm.Cond.fieldLink "java/lang/String" (15 : Nat) "java/lang/String" "coder" "B").before a0 Z = true := hw _ (List.mem_of_getElem? (i := 30) rfl)
theorem d12_7 : decode jdk_42_method_152_code 7 = .ok (.getfield 15, 3) := by decide +kernel
theorem d12_10 : decode jdk_42_method_152_code 10 = .ok (.goto 4, 3) := by decide +kernel
theorem d12_14 : decode jdk_42_method_152_code 14 = .ok (.ireturn, 1) := by decide +kernel
theorem pn0 : plainName "java/lang/String" = true := by first | (simp [plainName, overriddenIn]; done) | decide +kernel
theorem d15_0 : decode jdk_42_method_154_code 0 = .ok (.getstatic 38, 3) := by decide +kernel
theorem d15_3 : decode jdk_42_method_154_code 3 = .ok (.ifCond .eq 14, 3) := by decide +kernel
theorem d15_6 : decode jdk_42_method_154_code 6 = .ok (.aload_n 0, 1) := by decide +kernel
theorem d15_7 : decode jdk_42_method_154_code 7 = .ok (.getfield 15, 3) := by decide +kernel
theorem d15_10 : decode jdk_42_method_154_code 10 = .ok (.ifCond .ne 7, 3) := by decide +kernel
theorem d15_13 : decode jdk_42_method_154_code 13 = .ok (.iconst 1, 1) := by decide +kernel
theorem d15_14 : decode jdk_42_method_154_code 14 = .ok (.goto 4, 3) := by decide +kernel
theorem d15_18 : decode jdk_42_method_154_code 18 = .ok (.ireturn, 1) := by decide +kernel
theorem d11_0 : decode jdk_42_method_54_code 0 = .ok (.aload_n 0, 1) := by decide +kernel
theorem w32 {a0 : Array Value} {Z : State} (hw : HW a0 Z) : (Jvm.Cond.fieldLink "java/lang/String" (9 : Nat) "java/lang/String" "value" "[B").before a0 Z = true := hw _ (List.mem_of_getElem? (i := 32) rfl)
theorem d11_1 : decode jdk_42_method_54_code 1 = .ok (.getfield 9, 3) := by decide +kernel
theorem d11_4 : decode jdk_42_method_54_code 4 = .ok (.arraylength, 1) := by decide +kernel
theorem d11_5 : decode jdk_42_method_54_code 5 = .ok (.aload_n 0, 1) := by decide +kernel
theorem w60 {a0 : Array Value} {Z : State} (hw : HW a0 Z) : (Jvm.Cond.methodLink "java/lang/String" (335 : Nat) ({ cls := "java/lang/String", name := "coder", desc := "()B" } : Jvm.MethodName)).before a0 Z = true := hw _ (List.mem_of_getElem? (i := 60) rfl)
theorem pd0 : parseMethodDescriptor "()B" = some ⟨[], some .byte⟩ := by decide +kernel
theorem d11_6 : decode jdk_42_method_54_code 6 = .ok (.invokevirtual 335, 3) := by decide +kernel
theorem w63 {a0 : Array Value} {Z : State} (hw : HW a0 Z) : (Jvm.Cond.selects "java/lang/String" ({ cls := "java/lang/String", name := "coder", desc := "()B" } : Jvm.MethodName) ({ cls := "java/lang/String", name := "coder", desc := "()B" } : Jvm.MethodName)).before a0 Z = true := hw _ (List.mem_of_getElem? (i := 63) rfl)
theorem w61 {a0 : Array Value} {Z : State} (hw : HW a0 Z) : (Jvm.Cond.declares ({ cls := "java/lang/String", name := "coder", desc := "()B" } : Jvm.MethodName)).before a0 Z = true := hw _ (List.mem_of_getElem? (i := 61) rfl)
theorem w62 {a0 : Array Value} {Z : State} (hw : HW a0 Z) : (Jvm.Cond.instanceMethod ({ cls := "java/lang/String", name := "coder", desc := "()B" } : Jvm.MethodName)).before a0 Z = true := hw _ (List.mem_of_getElem? (i := 62) rfl)
theorem w7 {a0 : Array Value} {Z : State} (hw : HW a0 Z) : (Jvm.Cond.initialized "java/lang/String").before a0 Z = true := hw _ (List.mem_of_getElem? (i := 7) rfl)
theorem w64 {a0 : Array Value} {Z : State} (hw : HW a0 Z) : (Jvm.Cond.code ({ cls := "java/lang/String", name := "coder", desc := "()B" } : Jvm.MethodName) jdk_42_method_152_code (1 : Nat) (Option.some Jvm.ClassFile.FieldType.byte)).before a0 Z = true := hw _ (List.mem_of_getElem? (i := 64) rfl)
theorem d11_9 : decode jdk_42_method_54_code 9 = .ok (.ishr, 1) := by decide +kernel
theorem d11_10 : decode jdk_42_method_54_code 10 = .ok (.ireturn, 1) := by decide +kernel
theorem d23_0 : decode jdk_41_method_11_code 0 = .ok (.iload_n 0, 1) := by decide +kernel
theorem d23_1 : decode jdk_41_method_11_code 1 = .ok (.ifCond .lt 8, 3) := by decide +kernel
theorem d23_4 : decode jdk_41_method_11_code 4 = .ok (.iload_n 0, 1) := by decide +kernel
theorem d23_5 : decode jdk_41_method_11_code 5 = .ok (.iload_n 1, 1) := by decide +kernel
theorem d23_6 : decode jdk_41_method_11_code 6 = .ok (.if_icmp .lt 10, 3) := by decide +kernel
theorem d23_16 : decode jdk_41_method_11_code 16 = .ok (.iload_n 0, 1) := by decide +kernel
theorem d23_17 : decode jdk_41_method_11_code 17 = .ok (.ireturn, 1) := by decide +kernel
theorem pn1 : plainName "jdk/internal/util/Preconditions" = true := by first | (simp [plainName, overriddenIn]; done) | decide +kernel
theorem d22_0 : decode jdk_42_method_155_code 0 = .ok (.iload_n 0, 1) := by decide +kernel
theorem d22_1 : decode jdk_42_method_155_code 1 = .ok (.iload_n 1, 1) := by decide +kernel
theorem w68 {a0 : Array Value} {Z : State} (hw : HW a0 Z) : (Jvm.Cond.fieldLink "java/lang/String" (1053 : Nat) "jdk/internal/util/Preconditions" "SIOOBE_FORMATTER" "Ljava/util/function/BiFunction;").before a0 Z = true := hw _ (List.mem_of_getElem? (i := 68) rfl)
theorem d22_2 : decode jdk_42_method_155_code 2 = .ok (.getstatic 1053, 3) := by decide +kernel
theorem w109 {a0 : Array Value} {Z : State} (hw : HW a0 Z) : (Jvm.Cond.methodLink "java/lang/String" (1059 : Nat) ({ cls := "jdk/internal/util/Preconditions", name := "checkIndex", desc := "(IILjava/util/function/BiFunction;)I" } : Jvm.MethodName)).before a0 Z = true := hw _ (List.mem_of_getElem? (i := 109) rfl)
theorem pd1 : parseMethodDescriptor "(IILjava/util/function/BiFunction;)I" = some ⟨[.int, .int, (.object "java/util/function/BiFunction")], some .int⟩ := by decide +kernel
theorem d22_5 : decode jdk_42_method_155_code 5 = .ok (.invokestatic 1059, 3) := by decide +kernel
theorem w110 {a0 : Array Value} {Z : State} (hw : HW a0 Z) : (Jvm.Cond.static ({ cls := "jdk/internal/util/Preconditions", name := "checkIndex", desc := "(IILjava/util/function/BiFunction;)I" } : Jvm.MethodName)).before a0 Z = true := hw _ (List.mem_of_getElem? (i := 110) rfl)
theorem w69 {a0 : Array Value} {Z : State} (hw : HW a0 Z) : (Jvm.Cond.initialized "jdk/internal/util/Preconditions").before a0 Z = true := hw _ (List.mem_of_getElem? (i := 69) rfl)
theorem w111 {a0 : Array Value} {Z : State} (hw : HW a0 Z) : (Jvm.Cond.code ({ cls := "jdk/internal/util/Preconditions", name := "checkIndex", desc := "(IILjava/util/function/BiFunction;)I" } : Jvm.MethodName) jdk_41_method_11_code (3 : Nat) (Option.some Jvm.ClassFile.FieldType.int)).before a0 Z = true := hw _ (List.mem_of_getElem? (i := 111) rfl)
theorem d22_8 : decode jdk_42_method_155_code 8 = .ok (.pop, 1) := by decide +kernel
theorem d22_9 : decode jdk_42_method_155_code 9 = .ok (.return_, 1) := by decide +kernel
theorem d21_0 : decode jdk_43_method_2_code 0 = .ok (.iload_n 1, 1) := by decide +kernel
theorem d21_1 : decode jdk_43_method_2_code 1 = .ok (.aload_n 0, 1) := by decide +kernel
theorem d21_2 : decode jdk_43_method_2_code 2 = .ok (.arraylength, 1) := by decide +kernel
theorem w106 {a0 : Array Value} {Z : State} (hw : HW a0 Z) : (Jvm.Cond.methodLink "java/lang/StringLatin1" (9 : Nat) ({ cls := "java/lang/String", name := "checkIndex", desc := "(II)V" } : Jvm.MethodName)).before a0 Z = true := hw _ (List.mem_of_getElem? (i := 106) rfl)
theorem pd2 : parseMethodDescriptor "(II)V" = some ⟨[.int, .int], none⟩ := by decide +kernel
theorem d21_3 : decode jdk_43_method_2_code 3 = .ok (.invokestatic 9, 3) := by decide +kernel
theorem w107 {a0 : Array Value} {Z : State} (hw : HW a0 Z) : (Jvm.Cond.static ({ cls := "java/lang/String", name := "checkIndex", desc := "(II)V" } : Jvm.MethodName)).before a0 Z = true := hw _ (List.mem_of_getElem? (i := 107) rfl)
theorem w108 {a0 : Array Value} {Z : State} (hw : HW a0 Z) : (Jvm.Cond.code ({ cls := "java/lang/String", name := "checkIndex", desc := "(II)V" } : Jvm.MethodName) jdk_42_method_155_code (2 : Nat) (Option.none : Option Jvm.ClassFile.FieldType)).before a0 Z = true := hw _ (List.mem_of_getElem? (i := 108) rfl)
theorem d21_6 : decode jdk_43_method_2_code 6 = .ok (.aload_n 0, 1) := by decide +kernel
theorem d21_7 : decode jdk_43_method_2_code 7 = .ok (.iload_n 1, 1) := by decide +kernel
theorem d21_8 : decode jdk_43_method_2_code 8 = .ok (.baload, 1) := by decide +kernel
theorem d21_9 : decode jdk_43_method_2_code 9 = .ok (.sipush 255, 3) := by decide +kernel
theorem d21_12 : decode jdk_43_method_2_code 12 = .ok (.iand, 1) := by decide +kernel
theorem d21_13 : decode jdk_43_method_2_code 13 = .ok (.i2c, 1) := by decide +kernel
theorem d21_14 : decode jdk_43_method_2_code 14 = .ok (.ireturn, 1) := by decide +kernel
theorem pn2 : plainName "java/lang/StringLatin1" = true := by first | (simp [plainName, overriddenIn]; done) | decide +kernel
theorem d20_0 : decode jdk_42_method_56_code 0 = .ok (.aload_n 0, 1) := by decide +kernel
theorem w73 {a0 : Array Value} {Z : State} (hw : HW a0 Z) : (Jvm.Cond.methodLink "java/lang/String" (492 : Nat) ({ cls := "java/lang/String", name := "isLatin1", desc := "()Z" } : Jvm.MethodName)).before a0 Z = true := hw _ (List.mem_of_getElem? (i := 73) rfl)
theorem pd3 : parseMethodDescriptor "()Z" = some ⟨[], some .boolean⟩ := by decide +kernel
theorem d20_1 : decode jdk_42_method_56_code 1 = .ok (.invokevirtual 492, 3) := by decide +kernel
theorem w76 {a0 : Array Value} {Z : State} (hw : HW a0 Z) : (Jvm.Cond.selects "java/lang/String" ({ cls := "java/lang/String", name := "isLatin1", desc := "()Z" } : Jvm.MethodName) ({ cls := "java/lang/String", name := "isLatin1", desc := "()Z" } : Jvm.MethodName)).before a0 Z = true := hw _ (List.mem_of_getElem? (i := 76) rfl)
theorem w74 {a0 : Array Value} {Z : State} (hw : HW a0 Z) : (Jvm.Cond.declares ({ cls := "java/lang/String", name := "isLatin1", desc := "()Z" } : Jvm.MethodName)).before a0 Z = true := hw _ (List.mem_of_getElem? (i := 74) rfl)
theorem w75 {a0 : Array Value} {Z : State} (hw : HW a0 Z) : (Jvm.Cond.instanceMethod ({ cls := "java/lang/String", name := "isLatin1", desc := "()Z" } : Jvm.MethodName)).before a0 Z = true := hw _ (List.mem_of_getElem? (i := 75) rfl)
theorem w77 {a0 : Array Value} {Z : State} (hw : HW a0 Z) : (Jvm.Cond.code ({ cls := "java/lang/String", name := "isLatin1", desc := "()Z" } : Jvm.MethodName) jdk_42_method_154_code (1 : Nat) (Option.some Jvm.ClassFile.FieldType.boolean)).before a0 Z = true := hw _ (List.mem_of_getElem? (i := 77) rfl)
theorem d20_4 : decode jdk_42_method_56_code 4 = .ok (.ifCond .eq 12, 3) := by decide +kernel
theorem d20_7 : decode jdk_42_method_56_code 7 = .ok (.aload_n 0, 1) := by decide +kernel
theorem d20_8 : decode jdk_42_method_56_code 8 = .ok (.getfield 9, 3) := by decide +kernel
theorem d20_11 : decode jdk_42_method_56_code 11 = .ok (.iload_n 1, 1) := by decide +kernel
theorem w103 {a0 : Array Value} {Z : State} (hw : HW a0 Z) : (Jvm.Cond.methodLink "java/lang/String" (495 : Nat) ({ cls := "java/lang/StringLatin1", name := "charAt", desc := "([BI)C" } : Jvm.MethodName)).before a0 Z = true := hw _ (List.mem_of_getElem? (i := 103) rfl)
theorem pd4 : parseMethodDescriptor "([BI)C" = some ⟨[(.array .byte), .int], some .char⟩ := by decide +kernel
theorem d20_12 : decode jdk_42_method_56_code 12 = .ok (.invokestatic 495, 3) := by decide +kernel
theorem w104 {a0 : Array Value} {Z : State} (hw : HW a0 Z) : (Jvm.Cond.static ({ cls := "java/lang/StringLatin1", name := "charAt", desc := "([BI)C" } : Jvm.MethodName)).before a0 Z = true := hw _ (List.mem_of_getElem? (i := 104) rfl)
theorem w80 {a0 : Array Value} {Z : State} (hw : HW a0 Z) : (Jvm.Cond.initialized "java/lang/StringLatin1").before a0 Z = true := hw _ (List.mem_of_getElem? (i := 80) rfl)
theorem w105 {a0 : Array Value} {Z : State} (hw : HW a0 Z) : (Jvm.Cond.code ({ cls := "java/lang/StringLatin1", name := "charAt", desc := "([BI)C" } : Jvm.MethodName) jdk_43_method_2_code (2 : Nat) (Option.some Jvm.ClassFile.FieldType.char)).before a0 Z = true := hw _ (List.mem_of_getElem? (i := 105) rfl)
theorem d20_15 : decode jdk_42_method_56_code 15 = .ok (.ireturn, 1) := by decide +kernel
theorem d28_0 : decode jdk_42_method_151_code 0 = .ok (.aload_n 0, 1) := by decide +kernel
theorem w15 {a0 : Array Value} {Z : State} (hw : HW a0 Z) : (Jvm.Cond.methodLink "java/lang/String" (1 : Nat) ({ cls := "java/lang/Object", name := "<init>", desc := "()V" } : Jvm.MethodName)).before a0 Z = true := hw _ (List.mem_of_getElem? (i := 15) rfl)
theorem w17 {a0 : Array Value} {Z : State} (hw : HW a0 Z) : (Jvm.Cond.code ({ cls := "java/lang/Object", name := "<init>", desc := "()V" } : Jvm.MethodName) object_method_1_code (1 : Nat) (Option.none : Option Jvm.ClassFile.FieldType)).before a0 Z = true := hw _ (List.mem_of_getElem? (i := 17) rfl)
theorem w16 {a0 : Array Value} {Z : State} (hw : HW a0 Z) : (Jvm.Cond.instanceMethod ({ cls := "java/lang/Object", name := "<init>", desc := "()V" } : Jvm.MethodName)).before a0 Z = true := hw _ (List.mem_of_getElem? (i := 16) rfl)
theorem d28_1 : decode jdk_42_method_151_code 1 = .ok (.invokespecial 1, 3) := by decide +kernel
theorem d28_4 : decode jdk_42_method_151_code 4 = .ok (.aload_n 0, 1) := by decide +kernel
theorem d28_5 : decode jdk_42_method_151_code 5 = .ok (.aload_n 1, 1) := by decide +kernel
theorem w6 {a0 : Array Value} {Z : State} (hw : HW a0 Z) : (Jvm.Cond.instantiable "java/lang/String" (4 : Nat)).before a0 Z = true := hw _ (List.mem_of_getElem? (i := 6) rfl)
theorem w33 {a0 : Array Value} {Z : State} (hw : HW a0 Z) : (Jvm.Cond.laysFinal "java/lang/String" "java/lang/String" "value" "[B").before a0 Z = true := hw _ (List.mem_of_getElem? (i := 33) rfl)
theorem d28_6 : decode jdk_42_method_151_code 6 = .ok (.putfield 9, 3) := by decide +kernel
theorem w31 {a0 : Array Value} {Z : State} (hw : HW a0 Z) : (Jvm.Cond.laysFinal "java/lang/String" "java/lang/String" "coder" "B").before a0 Z = true := hw _ (List.mem_of_getElem? (i := 31) rfl)
theorem d28_9 : decode jdk_42_method_151_code 9 = .ok (.aload_n 0, 1) := by decide +kernel
theorem d28_10 : decode jdk_42_method_151_code 10 = .ok (.iload_n 2, 1) := by decide +kernel
theorem d28_11 : decode jdk_42_method_151_code 11 = .ok (.putfield 15, 3) := by decide +kernel
theorem d28_14 : decode jdk_42_method_151_code 14 = .ok (.return_, 1) := by decide +kernel
theorem d14_0 : decode jdk_41_method_12_code 0 = .ok (.iload_n 0, 1) := by decide +kernel
theorem d14_1 : decode jdk_41_method_12_code 1 = .ok (.ifCond .lt 13, 3) := by decide +kernel
theorem d14_4 : decode jdk_41_method_12_code 4 = .ok (.iload_n 0, 1) := by decide +kernel
theorem d14_5 : decode jdk_41_method_12_code 5 = .ok (.iload_n 1, 1) := by decide +kernel
theorem d14_6 : decode jdk_41_method_12_code 6 = .ok (.if_icmp .gt 8, 3) := by decide +kernel
theorem d14_9 : decode jdk_41_method_12_code 9 = .ok (.iload_n 1, 1) := by decide +kernel
theorem d14_10 : decode jdk_41_method_12_code 10 = .ok (.iload_n 2, 1) := by decide +kernel
theorem d14_11 : decode jdk_41_method_12_code 11 = .ok (.if_icmp .le 11, 3) := by decide +kernel
theorem d14_22 : decode jdk_41_method_12_code 22 = .ok (.iload_n 0, 1) := by decide +kernel
theorem d14_23 : decode jdk_41_method_12_code 23 = .ok (.ireturn, 1) := by decide +kernel
theorem d13_0 : decode jdk_42_method_158_code 0 = .ok (.iload_n 0, 1) := by decide +kernel
theorem d13_1 : decode jdk_42_method_158_code 1 = .ok (.iload_n 1, 1) := by decide +kernel
theorem d13_2 : decode jdk_42_method_158_code 2 = .ok (.iload_n 2, 1) := by decide +kernel
theorem d13_3 : decode jdk_42_method_158_code 3 = .ok (.getstatic 1053, 3) := by decide +kernel
theorem w70 {a0 : Array Value} {Z : State} (hw : HW a0 Z) : (Jvm.Cond.methodLink "java/lang/String" (1062 : Nat) ({ cls := "jdk/internal/util/Preconditions", name := "checkFromToIndex", desc := "(IIILjava/util/function/BiFunction;)I" } : Jvm.MethodName)).before a0 Z = true := hw _ (List.mem_of_getElem? (i := 70) rfl)
theorem pd5 : parseMethodDescriptor "(IIILjava/util/function/BiFunction;)I" = some ⟨[.int, .int, .int, (.object "java/util/function/BiFunction")], some .int⟩ := by decide +kernel
theorem d13_6 : decode jdk_42_method_158_code 6 = .ok (.invokestatic 1062, 3) := by decide +kernel
theorem w71 {a0 : Array Value} {Z : State} (hw : HW a0 Z) : (Jvm.Cond.static ({ cls := "jdk/internal/util/Preconditions", name := "checkFromToIndex", desc := "(IIILjava/util/function/BiFunction;)I" } : Jvm.MethodName)).before a0 Z = true := hw _ (List.mem_of_getElem? (i := 71) rfl)
theorem w72 {a0 : Array Value} {Z : State} (hw : HW a0 Z) : (Jvm.Cond.code ({ cls := "jdk/internal/util/Preconditions", name := "checkFromToIndex", desc := "(IIILjava/util/function/BiFunction;)I" } : Jvm.MethodName) jdk_41_method_12_code (4 : Nat) (Option.some Jvm.ClassFile.FieldType.int)).before a0 Z = true := hw _ (List.mem_of_getElem? (i := 72) rfl)
theorem d13_9 : decode jdk_42_method_158_code 9 = .ok (.pop, 1) := by decide +kernel
theorem d13_10 : decode jdk_42_method_158_code 10 = .ok (.return_, 1) := by decide +kernel
theorem d16_0 : decode jdk_43_method_47_code 0 = .ok (.iload_n 2, 1) := by decide +kernel
theorem d16_1 : decode jdk_43_method_47_code 1 = .ok (.ifCond .ne 6, 3) := by decide +kernel
theorem w82 {a0 : Array Value} {Z : State} (hw : HW a0 Z) : (Jvm.Cond.stringLink "java/lang/StringLatin1" (151 : Nat) "").before a0 Z = true := hw _ (List.mem_of_getElem? (i := 82) rfl)
theorem d16_4 : decode jdk_43_method_47_code 4 = .ok (.ldc 151, 2) := by decide +kernel
theorem d16_6 : decode jdk_43_method_47_code 6 = .ok (.areturn, 1) := by decide +kernel
theorem d10_0 : decode jdk_42_method_92_code 0 = .ok (.aload_n 0, 1) := by decide +kernel
theorem w55 {a0 : Array Value} {Z : State} (hw : HW a0 Z) : (Jvm.Cond.methodLink "java/lang/String" (505 : Nat) ({ cls := "java/lang/String", name := "length", desc := "()I" } : Jvm.MethodName)).before a0 Z = true := hw _ (List.mem_of_getElem? (i := 55) rfl)
theorem pd6 : parseMethodDescriptor "()I" = some ⟨[], some .int⟩ := by decide +kernel
theorem d10_1 : decode jdk_42_method_92_code 1 = .ok (.invokevirtual 505, 3) := by decide +kernel
theorem w58 {a0 : Array Value} {Z : State} (hw : HW a0 Z) : (Jvm.Cond.selects "java/lang/String" ({ cls := "java/lang/String", name := "length", desc := "()I" } : Jvm.MethodName) ({ cls := "java/lang/String", name := "length", desc := "()I" } : Jvm.MethodName)).before a0 Z = true := hw _ (List.mem_of_getElem? (i := 58) rfl)
theorem w56 {a0 : Array Value} {Z : State} (hw : HW a0 Z) : (Jvm.Cond.declares ({ cls := "java/lang/String", name := "length", desc := "()I" } : Jvm.MethodName)).before a0 Z = true := hw _ (List.mem_of_getElem? (i := 56) rfl)
theorem w57 {a0 : Array Value} {Z : State} (hw : HW a0 Z) : (Jvm.Cond.instanceMethod ({ cls := "java/lang/String", name := "length", desc := "()I" } : Jvm.MethodName)).before a0 Z = true := hw _ (List.mem_of_getElem? (i := 57) rfl)
theorem w59 {a0 : Array Value} {Z : State} (hw : HW a0 Z) : (Jvm.Cond.code ({ cls := "java/lang/String", name := "length", desc := "()I" } : Jvm.MethodName) jdk_42_method_54_code (1 : Nat) (Option.some Jvm.ClassFile.FieldType.int)).before a0 Z = true := hw _ (List.mem_of_getElem? (i := 59) rfl)
theorem d10_4 : decode jdk_42_method_92_code 4 = .ok (.istore_n 3, 1) := by decide +kernel
theorem d10_5 : decode jdk_42_method_92_code 5 = .ok (.iload_n 1, 1) := by decide +kernel
theorem d10_6 : decode jdk_42_method_92_code 6 = .ok (.iload_n 2, 1) := by decide +kernel
theorem d10_7 : decode jdk_42_method_92_code 7 = .ok (.iload_n 3, 1) := by decide +kernel
theorem w65 {a0 : Array Value} {Z : State} (hw : HW a0 Z) : (Jvm.Cond.methodLink "java/lang/String" (521 : Nat) ({ cls := "java/lang/String", name := "checkBoundsBeginEnd", desc := "(III)V" } : Jvm.MethodName)).before a0 Z = true := hw _ (List.mem_of_getElem? (i := 65) rfl)
theorem pd7 : parseMethodDescriptor "(III)V" = some ⟨[.int, .int, .int], none⟩ := by decide +kernel
theorem d10_8 : decode jdk_42_method_92_code 8 = .ok (.invokestatic 521, 3) := by decide +kernel
theorem w66 {a0 : Array Value} {Z : State} (hw : HW a0 Z) : (Jvm.Cond.static ({ cls := "java/lang/String", name := "checkBoundsBeginEnd", desc := "(III)V" } : Jvm.MethodName)).before a0 Z = true := hw _ (List.mem_of_getElem? (i := 66) rfl)
theorem w67 {a0 : Array Value} {Z : State} (hw : HW a0 Z) : (Jvm.Cond.code ({ cls := "java/lang/String", name := "checkBoundsBeginEnd", desc := "(III)V" } : Jvm.MethodName) jdk_42_method_158_code (3 : Nat) (Option.none : Option Jvm.ClassFile.FieldType)).before a0 Z = true := hw _ (List.mem_of_getElem? (i := 67) rfl)
theorem d10_11 : decode jdk_42_method_92_code 11 = .ok (.iload_n 1, 1) := by decide +kernel
theorem d10_12 : decode jdk_42_method_92_code 12 = .ok (.ifCond .ne 10, 3) := by decide +kernel
theorem d10_15 : decode jdk_42_method_92_code 15 = .ok (.iload_n 2, 1) := by decide +kernel
theorem d10_16 : decode jdk_42_method_92_code 16 = .ok (.iload_n 3, 1) := by decide +kernel
theorem d10_17 : decode jdk_42_method_92_code 17 = .ok (.if_icmp .ne 5, 3) := by decide +kernel
theorem d10_22 : decode jdk_42_method_92_code 22 = .ok (.iload_n 2, 1) := by decide +kernel
theorem d10_23 : decode jdk_42_method_92_code 23 = .ok (.iload_n 1, 1) := by decide +kernel
theorem d10_24 : decode jdk_42_method_92_code 24 = .ok (.isub, 1) := by decide +kernel
theorem d10_25 : decode jdk_42_method_92_code 25 = .ok (.istore 4, 2) := by decide +kernel
theorem d10_27 : decode jdk_42_method_92_code 27 = .ok (.aload_n 0, 1) := by decide +kernel
theorem d10_28 : decode jdk_42_method_92_code 28 = .ok (.invokevirtual 492, 3) := by decide +kernel
theorem d10_31 : decode jdk_42_method_92_code 31 = .ok (.ifCond .eq 16, 3) := by decide +kernel
theorem d10_34 : decode jdk_42_method_92_code 34 = .ok (.aload_n 0, 1) := by decide +kernel
theorem d10_35 : decode jdk_42_method_92_code 35 = .ok (.getfield 9, 3) := by decide +kernel
theorem d10_38 : decode jdk_42_method_92_code 38 = .ok (.iload_n 1, 1) := by decide +kernel
theorem d10_39 : decode jdk_42_method_92_code 39 = .ok (.iload 4, 2) := by decide +kernel
theorem w78 {a0 : Array Value} {Z : State} (hw : HW a0 Z) : (Jvm.Cond.methodLink "java/lang/String" (685 : Nat) ({ cls := "java/lang/StringLatin1", name := "newString", desc := "([BII)Ljava/lang/String;" } : Jvm.MethodName)).before a0 Z = true := hw _ (List.mem_of_getElem? (i := 78) rfl)
theorem pd8 : parseMethodDescriptor "([BII)Ljava/lang/String;" = some ⟨[(.array .byte), .int, .int], some (.object "java/lang/String")⟩ := by decide +kernel
theorem d10_41 : decode jdk_42_method_92_code 41 = .ok (.invokestatic 685, 3) := by decide +kernel
theorem w79 {a0 : Array Value} {Z : State} (hw : HW a0 Z) : (Jvm.Cond.static ({ cls := "java/lang/StringLatin1", name := "newString", desc := "([BII)Ljava/lang/String;" } : Jvm.MethodName)).before a0 Z = true := hw _ (List.mem_of_getElem? (i := 79) rfl)
theorem w81 {a0 : Array Value} {Z : State} (hw : HW a0 Z) : (Jvm.Cond.code ({ cls := "java/lang/StringLatin1", name := "newString", desc := "([BII)Ljava/lang/String;" } : Jvm.MethodName) jdk_43_method_47_code (3 : Nat) (Option.some (Jvm.ClassFile.FieldType.object "java/lang/String"))).before a0 Z = true := hw _ (List.mem_of_getElem? (i := 81) rfl)
theorem d10_44 : decode jdk_42_method_92_code 44 = .ok (.goto 13, 3) := by decide +kernel
theorem d10_57 : decode jdk_42_method_92_code 57 = .ok (.areturn, 1) := by decide +kernel
theorem d27_0 : decode jdk_29_method_69_code 0 = .ok (.iload_n 0, 1) := by decide +kernel
theorem d27_1 : decode jdk_29_method_69_code 1 = .ok (.iload_n 1, 1) := by decide +kernel
theorem d27_2 : decode jdk_29_method_69_code 2 = .ok (.if_icmp .gt 7, 3) := by decide +kernel
theorem d27_9 : decode jdk_29_method_69_code 9 = .ok (.iload_n 1, 1) := by decide +kernel
theorem d27_10 : decode jdk_29_method_69_code 10 = .ok (.ireturn, 1) := by decide +kernel
theorem d26_0 : decode jdk_65_method_131_code 0 = .ok (.iload_n 1, 1) := by decide +kernel
theorem d26_1 : decode jdk_65_method_131_code 1 = .ok (.iload_n 0, 1) := by decide +kernel
theorem d26_2 : decode jdk_65_method_131_code 2 = .ok (.if_icmp .ge 35, 3) := by decide +kernel
theorem d26_37 : decode jdk_65_method_131_code 37 = .ok (.return_, 1) := by decide +kernel
theorem pn3 : plainName "java/util/Arrays" = true := by first | (simp [plainName, overriddenIn]; done) | decide +kernel
theorem d25_0 : decode jdk_65_method_133_code 0 = .ok (.iload_n 1, 1) := by decide +kernel
theorem d25_1 : decode jdk_65_method_133_code 1 = .ok (.iload_n 2, 1) := by decide +kernel
theorem w120 {a0 : Array Value} {Z : State} (hw : HW a0 Z) : (Jvm.Cond.methodLink "java/util/Arrays" (343 : Nat) ({ cls := "java/util/Arrays", name := "checkLength", desc := "(II)V" } : Jvm.MethodName)).before a0 Z = true := hw _ (List.mem_of_getElem? (i := 120) rfl)
theorem d25_2 : decode jdk_65_method_133_code 2 = .ok (.invokestatic 343, 3) := by decide +kernel
theorem w121 {a0 : Array Value} {Z : State} (hw : HW a0 Z) : (Jvm.Cond.static ({ cls := "java/util/Arrays", name := "checkLength", desc := "(II)V" } : Jvm.MethodName)).before a0 Z = true := hw _ (List.mem_of_getElem? (i := 121) rfl)
theorem w115 {a0 : Array Value} {Z : State} (hw : HW a0 Z) : (Jvm.Cond.initialized "java/util/Arrays").before a0 Z = true := hw _ (List.mem_of_getElem? (i := 115) rfl)
theorem w122 {a0 : Array Value} {Z : State} (hw : HW a0 Z) : (Jvm.Cond.code ({ cls := "java/util/Arrays", name := "checkLength", desc := "(II)V" } : Jvm.MethodName) jdk_65_method_131_code (2 : Nat) (Option.none : Option Jvm.ClassFile.FieldType)).before a0 Z = true := hw _ (List.mem_of_getElem? (i := 122) rfl)
theorem d25_5 : decode jdk_65_method_133_code 5 = .ok (.iload_n 2, 1) := by decide +kernel
theorem d25_6 : decode jdk_65_method_133_code 6 = .ok (.iload_n 1, 1) := by decide +kernel
theorem d25_7 : decode jdk_65_method_133_code 7 = .ok (.isub, 1) := by decide +kernel
theorem d25_8 : decode jdk_65_method_133_code 8 = .ok (.istore_n 3, 1) := by decide +kernel
theorem d25_9 : decode jdk_65_method_133_code 9 = .ok (.iload_n 3, 1) := by decide +kernel
theorem w23 {a0 : Array Value} {Z : State} (hw : HW a0 Z) : (Jvm.Cond.arrayClass Jvm.ClassFile.FieldType.byte).before a0 Z = true := hw _ (List.mem_of_getElem? (i := 23) rfl)
theorem d25_10 : decode jdk_65_method_133_code 10 = .ok (.newarray .byte, 2) := by decide +kernel
theorem d25_12 : decode jdk_65_method_133_code 12 = .ok (.astore 4, 2) := by decide +kernel
theorem d25_14 : decode jdk_65_method_133_code 14 = .ok (.aload_n 0, 1) := by decide +kernel
theorem d25_15 : decode jdk_65_method_133_code 15 = .ok (.iload_n 1, 1) := by decide +kernel
theorem d25_16 : decode jdk_65_method_133_code 16 = .ok (.aload 4, 2) := by decide +kernel
theorem d25_18 : decode jdk_65_method_133_code 18 = .ok (.iconst 0, 1) := by decide +kernel
theorem d25_19 : decode jdk_65_method_133_code 19 = .ok (.aload_n 0, 1) := by decide +kernel
theorem d25_20 : decode jdk_65_method_133_code 20 = .ok (.arraylength, 1) := by decide +kernel
theorem d25_21 : decode jdk_65_method_133_code 21 = .ok (.iload_n 1, 1) := by decide +kernel
theorem d25_22 : decode jdk_65_method_133_code 22 = .ok (.isub, 1) := by decide +kernel
theorem d25_23 : decode jdk_65_method_133_code 23 = .ok (.iload_n 3, 1) := by decide +kernel
theorem w123 {a0 : Array Value} {Z : State} (hw : HW a0 Z) : (Jvm.Cond.methodLink "java/util/Arrays" (304 : Nat) ({ cls := "java/lang/Math", name := "min", desc := "(II)I" } : Jvm.MethodName)).before a0 Z = true := hw _ (List.mem_of_getElem? (i := 123) rfl)
theorem pd9 : parseMethodDescriptor "(II)I" = some ⟨[.int, .int], some .int⟩ := by decide +kernel
theorem d25_24 : decode jdk_65_method_133_code 24 = .ok (.invokestatic 304, 3) := by decide +kernel
theorem w124 {a0 : Array Value} {Z : State} (hw : HW a0 Z) : (Jvm.Cond.static ({ cls := "java/lang/Math", name := "min", desc := "(II)I" } : Jvm.MethodName)).before a0 Z = true := hw _ (List.mem_of_getElem? (i := 124) rfl)
theorem w125 {a0 : Array Value} {Z : State} (hw : HW a0 Z) : (Jvm.Cond.initialized "java/lang/Math").before a0 Z = true := hw _ (List.mem_of_getElem? (i := 125) rfl)
theorem w126 {a0 : Array Value} {Z : State} (hw : HW a0 Z) : (Jvm.Cond.code ({ cls := "java/lang/Math", name := "min", desc := "(II)I" } : Jvm.MethodName) jdk_29_method_69_code (2 : Nat) (Option.some Jvm.ClassFile.FieldType.int)).before a0 Z = true := hw _ (List.mem_of_getElem? (i := 126) rfl)
theorem w127 {a0 : Array Value} {Z : State} (hw : HW a0 Z) : (Jvm.Cond.methodLink "java/util/Arrays" (150 : Nat) ({ cls := "java/lang/System", name := "arraycopy", desc := "(Ljava/lang/Object;ILjava/lang/Object;II)V" } : Jvm.MethodName)).before a0 Z = true := hw _ (List.mem_of_getElem? (i := 127) rfl)
theorem w130 {a0 : Array Value} {Z : State} (hw : HW a0 Z) : (Jvm.Cond.native ({ cls := "java/lang/System", name := "arraycopy", desc := "(Ljava/lang/Object;ILjava/lang/Object;II)V" } : Jvm.MethodName)).before a0 Z = true := hw _ (List.mem_of_getElem? (i := 130) rfl)
theorem w128 {a0 : Array Value} {Z : State} (hw : HW a0 Z) : (Jvm.Cond.static ({ cls := "java/lang/System", name := "arraycopy", desc := "(Ljava/lang/Object;ILjava/lang/Object;II)V" } : Jvm.MethodName)).before a0 Z = true := hw _ (List.mem_of_getElem? (i := 128) rfl)
theorem w129 {a0 : Array Value} {Z : State} (hw : HW a0 Z) : (Jvm.Cond.initialized "java/lang/System").before a0 Z = true := hw _ (List.mem_of_getElem? (i := 129) rfl)
theorem d25_27 : decode jdk_65_method_133_code 27 = .ok (.invokestatic 150, 3) := by decide +kernel
theorem d25_30 : decode jdk_65_method_133_code 30 = .ok (.aload 4, 2) := by decide +kernel
theorem d25_32 : decode jdk_65_method_133_code 32 = .ok (.areturn, 1) := by decide +kernel
theorem d24_0 : decode jdk_65_method_132_code 0 = .ok (.iload_n 1, 1) := by decide +kernel
theorem d24_1 : decode jdk_65_method_132_code 1 = .ok (.ifCond .ne 9, 3) := by decide +kernel
theorem d24_4 : decode jdk_65_method_132_code 4 = .ok (.iload_n 2, 1) := by decide +kernel
theorem d24_5 : decode jdk_65_method_132_code 5 = .ok (.aload_n 0, 1) := by decide +kernel
theorem d24_6 : decode jdk_65_method_132_code 6 = .ok (.arraylength, 1) := by decide +kernel
theorem d24_7 : decode jdk_65_method_132_code 7 = .ok (.if_icmp .eq 10, 3) := by decide +kernel
theorem d24_10 : decode jdk_65_method_132_code 10 = .ok (.aload_n 0, 1) := by decide +kernel
theorem d24_11 : decode jdk_65_method_132_code 11 = .ok (.iload_n 1, 1) := by decide +kernel
theorem d24_12 : decode jdk_65_method_132_code 12 = .ok (.iload_n 2, 1) := by decide +kernel
theorem w117 {a0 : Array Value} {Z : State} (hw : HW a0 Z) : (Jvm.Cond.methodLink "java/util/Arrays" (339 : Nat) ({ cls := "java/util/Arrays", name := "copyOfRangeByte", desc := "([BII)[B" } : Jvm.MethodName)).before a0 Z = true := hw _ (List.mem_of_getElem? (i := 117) rfl)
theorem pd10 : parseMethodDescriptor "([BII)[B" = some ⟨[(.array .byte), .int, .int], some (.array .byte)⟩ := by decide +kernel
theorem d24_13 : decode jdk_65_method_132_code 13 = .ok (.invokestatic 339, 3) := by decide +kernel
theorem w118 {a0 : Array Value} {Z : State} (hw : HW a0 Z) : (Jvm.Cond.static ({ cls := "java/util/Arrays", name := "copyOfRangeByte", desc := "([BII)[B" } : Jvm.MethodName)).before a0 Z = true := hw _ (List.mem_of_getElem? (i := 118) rfl)
theorem w119 {a0 : Array Value} {Z : State} (hw : HW a0 Z) : (Jvm.Cond.code ({ cls := "java/util/Arrays", name := "copyOfRangeByte", desc := "([BII)[B" } : Jvm.MethodName) jdk_65_method_133_code (5 : Nat) (Option.some (Jvm.ClassFile.FieldType.array Jvm.ClassFile.FieldType.byte))).before a0 Z = true := hw _ (List.mem_of_getElem? (i := 119) rfl)
theorem d24_16 : decode jdk_65_method_132_code 16 = .ok (.areturn, 1) := by decide +kernel
theorem w112 {a0 : Array Value} {Z : State} (hw : HW a0 Z) : (Jvm.Cond.classLink "java/lang/StringLatin1" (1 : Nat) "java/lang/String").before a0 Z = true := hw _ (List.mem_of_getElem? (i := 112) rfl)
theorem d16_7 : decode jdk_43_method_47_code 7 = .ok (.new 1, 3) := by decide +kernel
theorem d16_10 : decode jdk_43_method_47_code 10 = .ok (.dup, 1) := by decide +kernel
theorem d16_11 : decode jdk_43_method_47_code 11 = .ok (.aload_n 0, 1) := by decide +kernel
theorem d16_12 : decode jdk_43_method_47_code 12 = .ok (.iload_n 1, 1) := by decide +kernel
theorem d16_13 : decode jdk_43_method_47_code 13 = .ok (.iload_n 1, 1) := by decide +kernel
theorem d16_14 : decode jdk_43_method_47_code 14 = .ok (.iload_n 2, 1) := by decide +kernel
theorem d16_15 : decode jdk_43_method_47_code 15 = .ok (.iadd, 1) := by decide +kernel
theorem w113 {a0 : Array Value} {Z : State} (hw : HW a0 Z) : (Jvm.Cond.methodLink "java/lang/StringLatin1" (232 : Nat) ({ cls := "java/util/Arrays", name := "copyOfRange", desc := "([BII)[B" } : Jvm.MethodName)).before a0 Z = true := hw _ (List.mem_of_getElem? (i := 113) rfl)
theorem d16_16 : decode jdk_43_method_47_code 16 = .ok (.invokestatic 232, 3) := by decide +kernel
theorem w114 {a0 : Array Value} {Z : State} (hw : HW a0 Z) : (Jvm.Cond.static ({ cls := "java/util/Arrays", name := "copyOfRange", desc := "([BII)[B" } : Jvm.MethodName)).before a0 Z = true := hw _ (List.mem_of_getElem? (i := 114) rfl)
theorem w116 {a0 : Array Value} {Z : State} (hw : HW a0 Z) : (Jvm.Cond.code ({ cls := "java/util/Arrays", name := "copyOfRange", desc := "([BII)[B" } : Jvm.MethodName) jdk_65_method_132_code (3 : Nat) (Option.some (Jvm.ClassFile.FieldType.array Jvm.ClassFile.FieldType.byte))).before a0 Z = true := hw _ (List.mem_of_getElem? (i := 116) rfl)
theorem d16_19 : decode jdk_43_method_47_code 19 = .ok (.iconst 0, 1) := by decide +kernel
theorem w131 {a0 : Array Value} {Z : State} (hw : HW a0 Z) : (Jvm.Cond.methodLink "java/lang/StringLatin1" (112 : Nat) ({ cls := "java/lang/String", name := "<init>", desc := "([BB)V" } : Jvm.MethodName)).before a0 Z = true := hw _ (List.mem_of_getElem? (i := 131) rfl)
theorem pd11 : parseMethodDescriptor "([BB)V" = some ⟨[(.array .byte), .byte], none⟩ := by decide +kernel
theorem d16_20 : decode jdk_43_method_47_code 20 = .ok (.invokespecial 112, 3) := by decide +kernel
theorem w132 {a0 : Array Value} {Z : State} (hw : HW a0 Z) : (Jvm.Cond.instanceMethod ({ cls := "java/lang/String", name := "<init>", desc := "([BB)V" } : Jvm.MethodName)).before a0 Z = true := hw _ (List.mem_of_getElem? (i := 132) rfl)
theorem w133 {a0 : Array Value} {Z : State} (hw : HW a0 Z) : (Jvm.Cond.code ({ cls := "java/lang/String", name := "<init>", desc := "([BB)V" } : Jvm.MethodName) jdk_42_method_151_code (3 : Nat) (Option.none : Option Jvm.ClassFile.FieldType)).before a0 Z = true := hw _ (List.mem_of_getElem? (i := 133) rfl)
theorem d16_23 : decode jdk_43_method_47_code 23 = .ok (.areturn, 1) := by decide +kernel
theorem d10_20 : decode jdk_42_method_92_code 20 = .ok (.aload_n 0, 1) := by decide +kernel
theorem d10_21 : decode jdk_42_method_92_code 21 = .ok (.areturn, 1) := by decide +kernel
theorem d27_5 : decode jdk_29_method_69_code 5 = .ok (.iload_n 0, 1) := by decide +kernel
theorem d27_6 : decode jdk_29_method_69_code 6 = .ok (.goto 4, 3) := by decide +kernel
theorem d17_0 : decode jdk_42_method_73_code 0 = .ok (.iload_n 3, 1) := by decide +kernel
theorem d17_1 : decode jdk_42_method_73_code 1 = .ok (.ifCond .lt 37, 3) := by decide +kernel
theorem d17_4 : decode jdk_42_method_73_code 4 = .ok (.iload_n 1, 1) := by decide +kernel
theorem d17_5 : decode jdk_42_method_73_code 5 = .ok (.ifCond .lt 33, 3) := by decide +kernel
theorem d17_8 : decode jdk_42_method_73_code 8 = .ok (.iload_n 1, 1) := by decide +kernel
theorem d17_9 : decode jdk_42_method_73_code 9 = .ok (.i2l, 1) := by decide +kernel
theorem d17_10 : decode jdk_42_method_73_code 10 = .ok (.aload_n 0, 1) := by decide +kernel
theorem d17_11 : decode jdk_42_method_73_code 11 = .ok (.invokevirtual 505, 3) := by decide +kernel
theorem d17_14 : decode jdk_42_method_73_code 14 = .ok (.i2l, 1) := by decide +kernel
theorem d17_15 : decode jdk_42_method_73_code 15 = .ok (.iload 4, 2) := by decide +kernel
theorem d17_17 : decode jdk_42_method_73_code 17 = .ok (.i2l, 1) := by decide +kernel
theorem d17_18 : decode jdk_42_method_73_code 18 = .ok (.lsub, 1) := by decide +kernel
theorem d17_19 : decode jdk_42_method_73_code 19 = .ok (.lcmp, 1) := by decide +kernel
theorem d17_20 : decode jdk_42_method_73_code 20 = .ok (.ifCond .gt 18, 3) := by decide +kernel
theorem d17_23 : decode jdk_42_method_73_code 23 = .ok (.iload_n 3, 1) := by decide +kernel
theorem d17_24 : decode jdk_42_method_73_code 24 = .ok (.i2l, 1) := by decide +kernel
theorem d17_25 : decode jdk_42_method_73_code 25 = .ok (.aload_n 2, 1) := by decide +kernel
theorem d17_26 : decode jdk_42_method_73_code 26 = .ok (.invokevirtual 505, 3) := by decide +kernel
theorem d17_29 : decode jdk_42_method_73_code 29 = .ok (.i2l, 1) := by decide +kernel
theorem d17_30 : decode jdk_42_method_73_code 30 = .ok (.iload 4, 2) := by decide +kernel
theorem d17_32 : decode jdk_42_method_73_code 32 = .ok (.i2l, 1) := by decide +kernel
theorem d17_33 : decode jdk_42_method_73_code 33 = .ok (.lsub, 1) := by decide +kernel
theorem d17_34 : decode jdk_42_method_73_code 34 = .ok (.lcmp, 1) := by decide +kernel
theorem d17_35 : decode jdk_42_method_73_code 35 = .ok (.ifCond .le 5, 3) := by decide +kernel
theorem d17_40 : decode jdk_42_method_73_code 40 = .ok (.iload 4, 2) := by decide +kernel
theorem d17_42 : decode jdk_42_method_73_code 42 = .ok (.ifCond .gt 5, 3) := by decide +kernel
theorem d17_45 : decode jdk_42_method_73_code 45 = .ok (.iconst 1, 1) := by decide +kernel
theorem d17_46 : decode jdk_42_method_73_code 46 = .ok (.ireturn, 1) := by decide +kernel
theorem d29_0 : decode jdk_48_method_14_code 0 = .ok (.iconst 0, 1) := by decide +kernel
theorem d29_1 : decode jdk_48_method_14_code 1 = .ok (.istore 5, 2) := by decide +kernel
theorem d29_3 : decode jdk_48_method_14_code 3 = .ok (.iload 4, 2) := by decide +kernel
theorem d29_5 : decode jdk_48_method_14_code 5 = .ok (.bipush 7, 2) := by decide +kernel
theorem d29_7 : decode jdk_48_method_14_code 7 = .ok (.if_icmp .le 63, 3) := by decide +kernel
theorem d29_70 : decode jdk_48_method_14_code 70 = .ok (.iload 5, 2) := by decide +kernel
theorem d29_72 : decode jdk_48_method_14_code 72 = .ok (.iload 4, 2) := by decide +kernel
theorem d29_74 : decode jdk_48_method_14_code 74 = .ok (.if_icmp .ge 27, 3) := by decide +kernel
theorem d29_77 : decode jdk_48_method_14_code 77 = .ok (.aload_n 0, 1) := by decide +kernel
theorem d29_78 : decode jdk_48_method_14_code 78 = .ok (.iload_n 1, 1) := by decide +kernel
theorem d29_79 : decode jdk_48_method_14_code 79 = .ok (.iload 5, 2) := by decide +kernel
theorem d29_81 : decode jdk_48_method_14_code 81 = .ok (.iadd, 1) := by decide +kernel
theorem d29_82 : decode jdk_48_method_14_code 82 = .ok (.baload, 1) := by decide +kernel
theorem d29_83 : decode jdk_48_method_14_code 83 = .ok (.aload_n 2, 1) := by decide +kernel
theorem d29_84 : decode jdk_48_method_14_code 84 = .ok (.iload_n 3, 1) := by decide +kernel
theorem d29_85 : decode jdk_48_method_14_code 85 = .ok (.iload 5, 2) := by decide +kernel
theorem d29_87 : decode jdk_48_method_14_code 87 = .ok (.iadd, 1) := by decide +kernel
theorem d29_88 : decode jdk_48_method_14_code 88 = .ok (.baload, 1) := by decide +kernel
theorem d29_89 : decode jdk_48_method_14_code 89 = .ok (.if_icmp .eq 6, 3) := by decide +kernel
theorem d29_95 : decode jdk_48_method_14_code 95 = .ok (.iinc 5 1, 3) := by decide +kernel
theorem d29_98 : decode jdk_48_method_14_code 98 = .ok (.goto (-28), 3) := by decide +kernel
theorem d29_101 : decode jdk_48_method_14_code 101 = .ok (.iconst (-1), 1) := by decide +kernel
theorem d29_102 : decode jdk_48_method_14_code 102 = .ok (.ireturn, 1) := by decide +kernel
theorem pn4 : plainName "jdk/internal/util/ArraysSupport" = true := by first | (simp [plainName, overriddenIn]; done) | decide +kernel
theorem d17_47 : decode jdk_42_method_73_code 47 = .ok (.aload_n 0, 1) := by decide +kernel
theorem d17_48 : decode jdk_42_method_73_code 48 = .ok (.getfield 9, 3) := by decide +kernel
theorem d17_51 : decode jdk_42_method_73_code 51 = .ok (.astore 5, 2) := by decide +kernel
theorem d17_53 : decode jdk_42_method_73_code 53 = .ok (.aload_n 2, 1) := by decide +kernel
theorem d17_54 : decode jdk_42_method_73_code 54 = .ok (.getfield 9, 3) := by decide +kernel
theorem d17_57 : decode jdk_42_method_73_code 57 = .ok (.astore 6, 2) := by decide +kernel
theorem d17_59 : decode jdk_42_method_73_code 59 = .ok (.aload_n 0, 1) := by decide +kernel
theorem d17_60 : decode jdk_42_method_73_code 60 = .ok (.invokevirtual 335, 3) := by decide +kernel
theorem d17_63 : decode jdk_42_method_73_code 63 = .ok (.istore 7, 2) := by decide +kernel
theorem d17_65 : decode jdk_42_method_73_code 65 = .ok (.iload 7, 2) := by decide +kernel
theorem d17_67 : decode jdk_42_method_73_code 67 = .ok (.aload_n 2, 1) := by decide +kernel
theorem d17_68 : decode jdk_42_method_73_code 68 = .ok (.invokevirtual 335, 3) := by decide +kernel
theorem d17_71 : decode jdk_42_method_73_code 71 = .ok (.if_icmp .ne 43, 3) := by decide +kernel
theorem d17_74 : decode jdk_42_method_73_code 74 = .ok (.iload 7, 2) := by decide +kernel
theorem d17_76 : decode jdk_42_method_73_code 76 = .ok (.iconst 1, 1) := by decide +kernel
theorem d17_77 : decode jdk_42_method_73_code 77 = .ok (.if_icmp .ne 17, 3) := by decide +kernel
theorem d17_94 : decode jdk_42_method_73_code 94 = .ok (.aload 5, 2) := by decide +kernel
theorem d17_96 : decode jdk_42_method_73_code 96 = .ok (.iload_n 1, 1) := by decide +kernel
theorem d17_97 : decode jdk_42_method_73_code 97 = .ok (.aload 6, 2) := by decide +kernel
theorem d17_99 : decode jdk_42_method_73_code 99 = .ok (.iload_n 3, 1) := by decide +kernel
theorem d17_100 : decode jdk_42_method_73_code 100 = .ok (.iload 4, 2) := by decide +kernel
theorem w135 {a0 : Array Value} {Z : State} (hw : HW a0 Z) : (Jvm.Cond.methodLink "java/lang/String" (607 : Nat) ({ cls := "jdk/internal/util/ArraysSupport", name := "mismatch", desc := "([BI[BII)I" } : Jvm.MethodName)).before a0 Z = true := hw _ (List.mem_of_getElem? (i := 135) rfl)
theorem pd12 : parseMethodDescriptor "([BI[BII)I" = some ⟨[(.array .byte), .int, (.array .byte), .int, .int], some .int⟩ := by decide +kernel
theorem d17_102 : decode jdk_42_method_73_code 102 = .ok (.invokestatic 607, 3) := by decide +kernel
theorem w136 {a0 : Array Value} {Z : State} (hw : HW a0 Z) : (Jvm.Cond.static ({ cls := "jdk/internal/util/ArraysSupport", name := "mismatch", desc := "([BI[BII)I" } : Jvm.MethodName)).before a0 Z = true := hw _ (List.mem_of_getElem? (i := 136) rfl)
theorem w137 {a0 : Array Value} {Z : State} (hw : HW a0 Z) : (Jvm.Cond.initialized "jdk/internal/util/ArraysSupport").before a0 Z = true := hw _ (List.mem_of_getElem? (i := 137) rfl)
theorem w138 {a0 : Array Value} {Z : State} (hw : HW a0 Z) : (Jvm.Cond.code ({ cls := "jdk/internal/util/ArraysSupport", name := "mismatch", desc := "([BI[BII)I" } : Jvm.MethodName) jdk_48_method_14_code (8 : Nat) (Option.some Jvm.ClassFile.FieldType.int)).before a0 Z = true := hw _ (List.mem_of_getElem? (i := 138) rfl)
theorem d17_105 : decode jdk_42_method_73_code 105 = .ok (.ifCond .ge 7, 3) := by decide +kernel
theorem d17_108 : decode jdk_42_method_73_code 108 = .ok (.iconst 1, 1) := by decide +kernel
theorem d17_109 : decode jdk_42_method_73_code 109 = .ok (.goto 4, 3) := by decide +kernel
theorem d17_113 : decode jdk_42_method_73_code 113 = .ok (.ireturn, 1) := by decide +kernel
theorem d29_92 : decode jdk_48_method_14_code 92 = .ok (.iload 5, 2) := by decide +kernel
theorem d29_94 : decode jdk_48_method_14_code 94 = .ok (.ireturn, 1) := by decide +kernel
theorem d17_112 : decode jdk_42_method_73_code 112 = .ok (.iconst 0, 1) := by decide +kernel
theorem d8_0 : decode prog_36_method_1_code 0 = .ok (.aload_n 0, 1) := by decide +kernel
theorem w40 {a0 : Array Value} {Z : State} (hw : HW a0 Z) : (Jvm.Cond.methodLink "provento/files/FieldTexts" (1 : Nat) ({ cls := "java/lang/Object", name := "<init>", desc := "()V" } : Jvm.MethodName)).before a0 Z = true := hw _ (List.mem_of_getElem? (i := 40) rfl)
theorem d8_1 : decode prog_36_method_1_code 1 = .ok (.invokespecial 1, 3) := by decide +kernel
theorem d8_4 : decode prog_36_method_1_code 4 = .ok (.aload_n 0, 1) := by decide +kernel
theorem d8_5 : decode prog_36_method_1_code 5 = .ok (.sipush 16384, 3) := by decide +kernel
theorem w41 {a0 : Array Value} {Z : State} (hw : HW a0 Z) : (Jvm.Cond.classLink "provento/files/FieldTexts" (9 : Nat) "java/lang/String").before a0 Z = true := hw _ (List.mem_of_getElem? (i := 41) rfl)
theorem w42 {a0 : Array Value} {Z : State} (hw : HW a0 Z) : (Jvm.Cond.arrayOver (Jvm.ClassFile.FieldType.object "java/lang/String")).before a0 Z = true := hw _ (List.mem_of_getElem? (i := 42) rfl)
theorem d8_8 : decode prog_36_method_1_code 8 = .ok (.anewarray 9, 3) := by decide +kernel
theorem w35 {a0 : Array Value} {Z : State} (hw : HW a0 Z) : (Jvm.Cond.instantiable "provento/files/FieldTexts" (1 : Nat)).before a0 Z = true := hw _ (List.mem_of_getElem? (i := 35) rfl)
theorem w43 {a0 : Array Value} {Z : State} (hw : HW a0 Z) : (Jvm.Cond.fieldLink "provento/files/FieldTexts" (11 : Nat) "provento/files/FieldTexts" "kept" "[Ljava/lang/String;").before a0 Z = true := hw _ (List.mem_of_getElem? (i := 43) rfl)
theorem w44 {a0 : Array Value} {Z : State} (hw : HW a0 Z) : (Jvm.Cond.laysFinal "provento/files/FieldTexts" "provento/files/FieldTexts" "kept" "[Ljava/lang/String;").before a0 Z = true := hw _ (List.mem_of_getElem? (i := 44) rfl)
theorem d8_11 : decode prog_36_method_1_code 11 = .ok (.putfield 11, 3) := by decide +kernel
theorem d8_14 : decode prog_36_method_1_code 14 = .ok (.return_, 1) := by decide +kernel
theorem pn5 : plainName "provento/files/FieldTexts" = true := by first | (simp [plainName, overriddenIn]; done) | decide +kernel
theorem d9_0 : decode prog_36_method_2_code 0 = .ok (.iconst 0, 1) := by decide +kernel
theorem d9_1 : decode prog_36_method_2_code 1 = .ok (.istore 4, 2) := by decide +kernel
theorem d9_3 : decode prog_36_method_2_code 3 = .ok (.iload_n 2, 1) := by decide +kernel
theorem d9_4 : decode prog_36_method_2_code 4 = .ok (.istore 5, 2) := by decide +kernel
theorem d9_32 : decode prog_36_method_2_code 32 = .ok (.iload 4, 2) := by decide +kernel
theorem d9_34 : decode prog_36_method_2_code 34 = .ok (.iload 4, 2) := by decide +kernel
theorem d9_36 : decode prog_36_method_2_code 36 = .ok (.bipush 16, 2) := by decide +kernel
theorem d9_38 : decode prog_36_method_2_code 38 = .ok (.iushr, 1) := by decide +kernel
theorem d9_39 : decode prog_36_method_2_code 39 = .ok (.ixor, 1) := by decide +kernel
theorem d9_40 : decode prog_36_method_2_code 40 = .ok (.sipush 16383, 3) := by decide +kernel
theorem d9_43 : decode prog_36_method_2_code 43 = .ok (.iand, 1) := by decide +kernel
theorem d9_44 : decode prog_36_method_2_code 44 = .ok (.istore 5, 2) := by decide +kernel
theorem d9_46 : decode prog_36_method_2_code 46 = .ok (.aload_n 0, 1) := by decide +kernel
theorem d9_47 : decode prog_36_method_2_code 47 = .ok (.getfield 11, 3) := by decide +kernel
theorem d9_50 : decode prog_36_method_2_code 50 = .ok (.iload 5, 2) := by decide +kernel
theorem d9_52 : decode prog_36_method_2_code 52 = .ok (.aaload, 1) := by decide +kernel
theorem d9_53 : decode prog_36_method_2_code 53 = .ok (.astore 6, 2) := by decide +kernel
theorem d9_55 : decode prog_36_method_2_code 55 = .ok (.aload 6, 2) := by decide +kernel
theorem d9_57 : decode prog_36_method_2_code 57 = .ok (.ifnull 31, 3) := by decide +kernel
theorem d9_88 : decode prog_36_method_2_code 88 = .ok (.aload_n 1, 1) := by decide +kernel
theorem d9_89 : decode prog_36_method_2_code 89 = .ok (.iload_n 2, 1) := by decide +kernel
theorem d9_90 : decode prog_36_method_2_code 90 = .ok (.iload_n 3, 1) := by decide +kernel
theorem w50 {a0 : Array Value} {Z : State} (hw : HW a0 Z) : (Jvm.Cond.methodLink "provento/files/FieldTexts" (27 : Nat) ({ cls := "java/lang/String", name := "substring", desc := "(II)Ljava/lang/String;" } : Jvm.MethodName)).before a0 Z = true := hw _ (List.mem_of_getElem? (i := 50) rfl)
theorem pd13 : parseMethodDescriptor "(II)Ljava/lang/String;" = some ⟨[.int, .int], some (.object "java/lang/String")⟩ := by decide +kernel
theorem d9_91 : decode prog_36_method_2_code 91 = .ok (.invokevirtual 27, 3) := by decide +kernel
theorem w53 {a0 : Array Value} {Z : State} (hw : HW a0 Z) : (Jvm.Cond.selects "java/lang/String" ({ cls := "java/lang/String", name := "substring", desc := "(II)Ljava/lang/String;" } : Jvm.MethodName) ({ cls := "java/lang/String", name := "substring", desc := "(II)Ljava/lang/String;" } : Jvm.MethodName)).before a0 Z = true := hw _ (List.mem_of_getElem? (i := 53) rfl)
theorem w51 {a0 : Array Value} {Z : State} (hw : HW a0 Z) : (Jvm.Cond.declares ({ cls := "java/lang/String", name := "substring", desc := "(II)Ljava/lang/String;" } : Jvm.MethodName)).before a0 Z = true := hw _ (List.mem_of_getElem? (i := 51) rfl)
theorem w52 {a0 : Array Value} {Z : State} (hw : HW a0 Z) : (Jvm.Cond.instanceMethod ({ cls := "java/lang/String", name := "substring", desc := "(II)Ljava/lang/String;" } : Jvm.MethodName)).before a0 Z = true := hw _ (List.mem_of_getElem? (i := 52) rfl)
theorem w54 {a0 : Array Value} {Z : State} (hw : HW a0 Z) : (Jvm.Cond.code ({ cls := "java/lang/String", name := "substring", desc := "(II)Ljava/lang/String;" } : Jvm.MethodName) jdk_42_method_92_code (5 : Nat) (Option.some (Jvm.ClassFile.FieldType.object "java/lang/String"))).before a0 Z = true := hw _ (List.mem_of_getElem? (i := 54) rfl)
theorem d9_94 : decode prog_36_method_2_code 94 = .ok (.astore 7, 2) := by decide +kernel
theorem d9_96 : decode prog_36_method_2_code 96 = .ok (.aload_n 0, 1) := by decide +kernel
theorem d9_97 : decode prog_36_method_2_code 97 = .ok (.getfield 11, 3) := by decide +kernel
theorem d9_100 : decode prog_36_method_2_code 100 = .ok (.iload 5, 2) := by decide +kernel
theorem d9_102 : decode prog_36_method_2_code 102 = .ok (.aload 7, 2) := by decide +kernel
theorem d9_104 : decode prog_36_method_2_code 104 = .ok (.aastore, 1) := by decide +kernel
theorem d9_105 : decode prog_36_method_2_code 105 = .ok (.aload 7, 2) := by decide +kernel
theorem d9_107 : decode prog_36_method_2_code 107 = .ok (.areturn, 1) := by decide +kernel
theorem d9_60 : decode prog_36_method_2_code 60 = .ok (.aload 6, 2) := by decide +kernel
theorem w85 {a0 : Array Value} {Z : State} (hw : HW a0 Z) : (Jvm.Cond.methodLink "provento/files/FieldTexts" (19 : Nat) ({ cls := "java/lang/String", name := "length", desc := "()I" } : Jvm.MethodName)).before a0 Z = true := hw _ (List.mem_of_getElem? (i := 85) rfl)
theorem d9_62 : decode prog_36_method_2_code 62 = .ok (.invokevirtual 19, 3) := by decide +kernel
theorem d9_65 : decode prog_36_method_2_code 65 = .ok (.iload_n 3, 1) := by decide +kernel
theorem d9_66 : decode prog_36_method_2_code 66 = .ok (.iload_n 2, 1) := by decide +kernel
theorem d9_67 : decode prog_36_method_2_code 67 = .ok (.isub, 1) := by decide +kernel
theorem d9_68 : decode prog_36_method_2_code 68 = .ok (.if_icmp .ne 20, 3) := by decide +kernel
theorem d9_71 : decode prog_36_method_2_code 71 = .ok (.aload_n 1, 1) := by decide +kernel
theorem d9_72 : decode prog_36_method_2_code 72 = .ok (.iload_n 2, 1) := by decide +kernel
theorem d9_73 : decode prog_36_method_2_code 73 = .ok (.aload 6, 2) := by decide +kernel
theorem d9_75 : decode prog_36_method_2_code 75 = .ok (.iconst 0, 1) := by decide +kernel
theorem d9_76 : decode prog_36_method_2_code 76 = .ok (.iload_n 3, 1) := by decide +kernel
theorem d9_77 : decode prog_36_method_2_code 77 = .ok (.iload_n 2, 1) := by decide +kernel
theorem d9_78 : decode prog_36_method_2_code 78 = .ok (.isub, 1) := by decide +kernel
theorem w86 {a0 : Array Value} {Z : State} (hw : HW a0 Z) : (Jvm.Cond.methodLink "provento/files/FieldTexts" (23 : Nat) ({ cls := "java/lang/String", name := "regionMatches", desc := "(ILjava/lang/String;II)Z" } : Jvm.MethodName)).before a0 Z = true := hw _ (List.mem_of_getElem? (i := 86) rfl)
theorem pd14 : parseMethodDescriptor "(ILjava/lang/String;II)Z" = some ⟨[.int, (.object "java/lang/String"), .int, .int], some .boolean⟩ := by decide +kernel
theorem d9_79 : decode prog_36_method_2_code 79 = .ok (.invokevirtual 23, 3) := by decide +kernel
theorem w89 {a0 : Array Value} {Z : State} (hw : HW a0 Z) : (Jvm.Cond.selects "java/lang/String" ({ cls := "java/lang/String", name := "regionMatches", desc := "(ILjava/lang/String;II)Z" } : Jvm.MethodName) ({ cls := "java/lang/String", name := "regionMatches", desc := "(ILjava/lang/String;II)Z" } : Jvm.MethodName)).before a0 Z = true := hw _ (List.mem_of_getElem? (i := 89) rfl)
theorem w87 {a0 : Array Value} {Z : State} (hw : HW a0 Z) : (Jvm.Cond.declares ({ cls := "java/lang/String", name := "regionMatches", desc := "(ILjava/lang/String;II)Z" } : Jvm.MethodName)).before a0 Z = true := hw _ (List.mem_of_getElem? (i := 87) rfl)
theorem w88 {a0 : Array Value} {Z : State} (hw : HW a0 Z) : (Jvm.Cond.instanceMethod ({ cls := "java/lang/String", name := "regionMatches", desc := "(ILjava/lang/String;II)Z" } : Jvm.MethodName)).before a0 Z = true := hw _ (List.mem_of_getElem? (i := 88) rfl)
theorem w90 {a0 : Array Value} {Z : State} (hw : HW a0 Z) : (Jvm.Cond.code ({ cls := "java/lang/String", name := "regionMatches", desc := "(ILjava/lang/String;II)Z" } : Jvm.MethodName) jdk_42_method_73_code (8 : Nat) (Option.some Jvm.ClassFile.FieldType.boolean)).before a0 Z = true := hw _ (List.mem_of_getElem? (i := 90) rfl)
theorem d9_82 : decode prog_36_method_2_code 82 = .ok (.ifCond .eq 6, 3) := by decide +kernel
theorem d9_85 : decode prog_36_method_2_code 85 = .ok (.aload 6, 2) := by decide +kernel
theorem d9_87 : decode prog_36_method_2_code 87 = .ok (.areturn, 1) := by decide +kernel
theorem d9_6 : decode prog_36_method_2_code 6 = .ok (.iload 5, 2) := by decide +kernel
theorem d9_8 : decode prog_36_method_2_code 8 = .ok (.iload_n 3, 1) := by decide +kernel
theorem d9_9 : decode prog_36_method_2_code 9 = .ok (.if_icmp .ge 23, 3) := by decide +kernel
theorem d9_12 : decode prog_36_method_2_code 12 = .ok (.bipush 31, 2) := by decide +kernel
theorem d9_14 : decode prog_36_method_2_code 14 = .ok (.iload 4, 2) := by decide +kernel
theorem d9_16 : decode prog_36_method_2_code 16 = .ok (.imul, 1) := by decide +kernel
theorem d9_17 : decode prog_36_method_2_code 17 = .ok (.aload_n 1, 1) := by decide +kernel
theorem d9_18 : decode prog_36_method_2_code 18 = .ok (.iload 5, 2) := by decide +kernel
theorem w98 {a0 : Array Value} {Z : State} (hw : HW a0 Z) : (Jvm.Cond.methodLink "provento/files/FieldTexts" (15 : Nat) ({ cls := "java/lang/String", name := "charAt", desc := "(I)C" } : Jvm.MethodName)).before a0 Z = true := hw _ (List.mem_of_getElem? (i := 98) rfl)
theorem pd15 : parseMethodDescriptor "(I)C" = some ⟨[.int], some .char⟩ := by decide +kernel
theorem d9_20 : decode prog_36_method_2_code 20 = .ok (.invokevirtual 15, 3) := by decide +kernel
theorem w101 {a0 : Array Value} {Z : State} (hw : HW a0 Z) : (Jvm.Cond.selects "java/lang/String" ({ cls := "java/lang/String", name := "charAt", desc := "(I)C" } : Jvm.MethodName) ({ cls := "java/lang/String", name := "charAt", desc := "(I)C" } : Jvm.MethodName)).before a0 Z = true := hw _ (List.mem_of_getElem? (i := 101) rfl)
theorem w99 {a0 : Array Value} {Z : State} (hw : HW a0 Z) : (Jvm.Cond.declares ({ cls := "java/lang/String", name := "charAt", desc := "(I)C" } : Jvm.MethodName)).before a0 Z = true := hw _ (List.mem_of_getElem? (i := 99) rfl)
theorem w100 {a0 : Array Value} {Z : State} (hw : HW a0 Z) : (Jvm.Cond.instanceMethod ({ cls := "java/lang/String", name := "charAt", desc := "(I)C" } : Jvm.MethodName)).before a0 Z = true := hw _ (List.mem_of_getElem? (i := 100) rfl)
theorem w102 {a0 : Array Value} {Z : State} (hw : HW a0 Z) : (Jvm.Cond.code ({ cls := "java/lang/String", name := "charAt", desc := "(I)C" } : Jvm.MethodName) jdk_42_method_56_code (2 : Nat) (Option.some Jvm.ClassFile.FieldType.char)).before a0 Z = true := hw _ (List.mem_of_getElem? (i := 102) rfl)
theorem d9_23 : decode prog_36_method_2_code 23 = .ok (.iadd, 1) := by decide +kernel
theorem d9_24 : decode prog_36_method_2_code 24 = .ok (.istore 4, 2) := by decide +kernel
theorem d9_26 : decode prog_36_method_2_code 26 = .ok (.iinc 5 1, 3) := by decide +kernel
theorem d9_29 : decode prog_36_method_2_code 29 = .ok (.goto (-23), 3) := by decide +kernel
theorem d18_0 : decode method_5_code 0 = .ok (.iload_n 2, 1) := by decide +kernel
theorem d18_1 : decode method_5_code 1 = .ok (.iload_n 1, 1) := by decide +kernel
theorem d18_2 : decode method_5_code 2 = .ok (.isub, 1) := by decide +kernel
theorem d18_3 : decode method_5_code 3 = .ok (.istore 6, 2) := by decide +kernel
theorem d18_5 : decode method_5_code 5 = .ok (.iload 6, 2) := by decide +kernel
theorem d18_7 : decode method_5_code 7 = .ok (.iload 5, 2) := by decide +kernel
theorem d18_9 : decode method_5_code 9 = .ok (.iload 4, 2) := by decide +kernel
theorem d18_11 : decode method_5_code 11 = .ok (.isub, 1) := by decide +kernel
theorem d18_12 : decode method_5_code 12 = .ok (.if_icmp .eq 5, 3) := by decide +kernel
theorem d18_17 : decode method_5_code 17 = .ok (.iconst 0, 1) := by decide +kernel
theorem d18_18 : decode method_5_code 18 = .ok (.iload 6, 2) := by decide +kernel
theorem d18_20 : decode method_5_code 20 = .ok (.if_icmp .ge 19, 3) := by decide +kernel
theorem d18_23 : decode method_5_code 23 = .ok (.aload_n 0, 1) := by decide +kernel
theorem d18_24 : decode method_5_code 24 = .ok (.iload_n 1, 1) := by decide +kernel
theorem w134 {a0 : Array Value} {Z : State} (hw : HW a0 Z) : (Jvm.Cond.methodLink "provento/files/FieldTextsOfPinLaw" (37 : Nat) ({ cls := "java/lang/String", name := "charAt", desc := "(I)C" } : Jvm.MethodName)).before a0 Z = true := hw _ (List.mem_of_getElem? (i := 134) rfl)
theorem d18_25 : decode method_5_code 25 = .ok (.invokevirtual 37, 3) := by decide +kernel
theorem d18_28 : decode method_5_code 28 = .ok (.aload_n 3, 1) := by decide +kernel
theorem d18_29 : decode method_5_code 29 = .ok (.iload 4, 2) := by decide +kernel
theorem d18_31 : decode method_5_code 31 = .ok (.invokevirtual 37, 3) := by decide +kernel
theorem d18_34 : decode method_5_code 34 = .ok (.if_icmp .eq 5, 3) := by decide +kernel
theorem d18_39 : decode method_5_code 39 = .ok (.iconst 1, 1) := by decide +kernel
theorem d18_40 : decode method_5_code 40 = .ok (.iload 6, 2) := by decide +kernel
theorem d18_42 : decode method_5_code 42 = .ok (.if_icmp .ge 23, 3) := by decide +kernel
theorem d18_45 : decode method_5_code 45 = .ok (.aload_n 0, 1) := by decide +kernel
theorem d18_46 : decode method_5_code 46 = .ok (.iload_n 1, 1) := by decide +kernel
theorem d18_47 : decode method_5_code 47 = .ok (.iconst 1, 1) := by decide +kernel
theorem d18_48 : decode method_5_code 48 = .ok (.iadd, 1) := by decide +kernel
theorem d18_49 : decode method_5_code 49 = .ok (.invokevirtual 37, 3) := by decide +kernel
theorem d18_52 : decode method_5_code 52 = .ok (.aload_n 3, 1) := by decide +kernel
theorem d18_53 : decode method_5_code 53 = .ok (.iload 4, 2) := by decide +kernel
theorem d18_55 : decode method_5_code 55 = .ok (.iconst 1, 1) := by decide +kernel
theorem d18_56 : decode method_5_code 56 = .ok (.iadd, 1) := by decide +kernel
theorem d18_57 : decode method_5_code 57 = .ok (.invokevirtual 37, 3) := by decide +kernel
theorem d18_60 : decode method_5_code 60 = .ok (.if_icmp .eq 5, 3) := by decide +kernel
theorem d18_65 : decode method_5_code 65 = .ok (.iconst 2, 1) := by decide +kernel
theorem d18_66 : decode method_5_code 66 = .ok (.iload 6, 2) := by decide +kernel
theorem d18_68 : decode method_5_code 68 = .ok (.if_icmp .ge 23, 3) := by decide +kernel
theorem d18_71 : decode method_5_code 71 = .ok (.aload_n 0, 1) := by decide +kernel
theorem d18_72 : decode method_5_code 72 = .ok (.iload_n 1, 1) := by decide +kernel
theorem d18_73 : decode method_5_code 73 = .ok (.iconst 2, 1) := by decide +kernel
theorem d18_74 : decode method_5_code 74 = .ok (.iadd, 1) := by decide +kernel
theorem d18_75 : decode method_5_code 75 = .ok (.invokevirtual 37, 3) := by decide +kernel
theorem d18_78 : decode method_5_code 78 = .ok (.aload_n 3, 1) := by decide +kernel
theorem d18_79 : decode method_5_code 79 = .ok (.iload 4, 2) := by decide +kernel
theorem d18_81 : decode method_5_code 81 = .ok (.iconst 2, 1) := by decide +kernel
theorem d18_82 : decode method_5_code 82 = .ok (.iadd, 1) := by decide +kernel
theorem d18_83 : decode method_5_code 83 = .ok (.invokevirtual 37, 3) := by decide +kernel
theorem d18_86 : decode method_5_code 86 = .ok (.if_icmp .eq 5, 3) := by decide +kernel
theorem d18_91 : decode method_5_code 91 = .ok (.iconst 3, 1) := by decide +kernel
theorem d18_92 : decode method_5_code 92 = .ok (.iload 6, 2) := by decide +kernel
theorem d18_94 : decode method_5_code 94 = .ok (.if_icmp .ge 23, 3) := by decide +kernel
theorem d18_97 : decode method_5_code 97 = .ok (.aload_n 0, 1) := by decide +kernel
theorem d18_98 : decode method_5_code 98 = .ok (.iload_n 1, 1) := by decide +kernel
theorem d18_99 : decode method_5_code 99 = .ok (.iconst 3, 1) := by decide +kernel
theorem d18_100 : decode method_5_code 100 = .ok (.iadd, 1) := by decide +kernel
theorem d18_101 : decode method_5_code 101 = .ok (.invokevirtual 37, 3) := by decide +kernel
theorem d18_104 : decode method_5_code 104 = .ok (.aload_n 3, 1) := by decide +kernel
theorem d18_105 : decode method_5_code 105 = .ok (.iload 4, 2) := by decide +kernel
theorem d18_107 : decode method_5_code 107 = .ok (.iconst 3, 1) := by decide +kernel
theorem d18_108 : decode method_5_code 108 = .ok (.iadd, 1) := by decide +kernel
theorem d18_109 : decode method_5_code 109 = .ok (.invokevirtual 37, 3) := by decide +kernel
theorem d18_112 : decode method_5_code 112 = .ok (.if_icmp .eq 5, 3) := by decide +kernel
theorem d18_117 : decode method_5_code 117 = .ok (.iconst 1, 1) := by decide +kernel
theorem d18_118 : decode method_5_code 118 = .ok (.ireturn, 1) := by decide +kernel
theorem d18_115 : decode method_5_code 115 = .ok (.iconst 0, 1) := by decide +kernel
theorem d18_116 : decode method_5_code 116 = .ok (.ireturn, 1) := by decide +kernel
theorem d18_89 : decode method_5_code 89 = .ok (.iconst 0, 1) := by decide +kernel
theorem d18_90 : decode method_5_code 90 = .ok (.ireturn, 1) := by decide +kernel
theorem d18_63 : decode method_5_code 63 = .ok (.iconst 0, 1) := by decide +kernel
theorem d18_64 : decode method_5_code 64 = .ok (.ireturn, 1) := by decide +kernel
theorem d18_37 : decode method_5_code 37 = .ok (.iconst 0, 1) := by decide +kernel
theorem d18_38 : decode method_5_code 38 = .ok (.ireturn, 1) := by decide +kernel
theorem d18_15 : decode method_5_code 15 = .ok (.iconst 0, 1) := by decide +kernel
theorem d18_16 : decode method_5_code 16 = .ok (.ireturn, 1) := by decide +kernel
theorem pn6 : plainName "provento/files/FieldTextsOfPinLaw" = true := by first | (simp [plainName, overriddenIn]; done) | decide +kernel
theorem d19_0 : decode method_4_code 0 = .ok (.aload_n 0, 1) := by decide +kernel
theorem d19_1 : decode method_4_code 1 = .ok (.ifnonnull 5, 3) := by decide +kernel
theorem d19_6 : decode method_4_code 6 = .ok (.aload_n 0, 1) := by decide +kernel
theorem d19_7 : decode method_4_code 7 = .ok (.iconst 0, 1) := by decide +kernel
theorem d19_8 : decode method_4_code 8 = .ok (.aload_n 0, 1) := by decide +kernel
theorem w97 {a0 : Array Value} {Z : State} (hw : HW a0 Z) : (Jvm.Cond.methodLink "provento/files/FieldTextsOfPinLaw" (33 : Nat) ({ cls := "java/lang/String", name := "length", desc := "()I" } : Jvm.MethodName)).before a0 Z = true := hw _ (List.mem_of_getElem? (i := 97) rfl)
theorem d19_9 : decode method_4_code 9 = .ok (.invokevirtual 33, 3) := by decide +kernel
theorem d19_12 : decode method_4_code 12 = .ok (.aload_n 1, 1) := by decide +kernel
theorem d19_13 : decode method_4_code 13 = .ok (.iload_n 2, 1) := by decide +kernel
theorem d19_14 : decode method_4_code 14 = .ok (.iload_n 3, 1) := by decide +kernel
theorem w91 {a0 : Array Value} {Z : State} (hw : HW a0 Z) : (Jvm.Cond.methodLink "provento/files/FieldTextsOfPinLaw" (20 : Nat) ({ cls := "provento/files/FieldTextsOfPinLaw", name := "region", desc := "(Ljava/lang/String;IILjava/lang/String;II)Z" } : Jvm.MethodName)).before a0 Z = true := hw _ (List.mem_of_getElem? (i := 91) rfl)
theorem pd16 : parseMethodDescriptor "(Ljava/lang/String;IILjava/lang/String;II)Z" = some ⟨[(.object "java/lang/String"), .int, .int, (.object "java/lang/String"), .int, .int], some .boolean⟩ := by decide +kernel
theorem d19_15 : decode method_4_code 15 = .ok (.invokestatic 20, 3) := by decide +kernel
theorem w92 {a0 : Array Value} {Z : State} (hw : HW a0 Z) : (Jvm.Cond.static ({ cls := "provento/files/FieldTextsOfPinLaw", name := "region", desc := "(Ljava/lang/String;IILjava/lang/String;II)Z" } : Jvm.MethodName)).before a0 Z = true := hw _ (List.mem_of_getElem? (i := 92) rfl)
theorem w2 {a0 : Array Value} {Z : State} (hw : HW a0 Z) : (Jvm.Cond.initialized "provento/files/FieldTextsOfPinLaw").before a0 Z = true := hw _ (List.mem_of_getElem? (i := 2) rfl)
theorem w93 {a0 : Array Value} {Z : State} (hw : HW a0 Z) : (Jvm.Cond.code ({ cls := "provento/files/FieldTextsOfPinLaw", name := "region", desc := "(Ljava/lang/String;IILjava/lang/String;II)Z" } : Jvm.MethodName) method_5_code (7 : Nat) (Option.some Jvm.ClassFile.FieldType.boolean)).before a0 Z = true := hw _ (List.mem_of_getElem? (i := 93) rfl)
theorem d19_18 : decode method_4_code 18 = .ok (.ireturn, 1) := by decide +kernel
theorem d1_0 : decode method_3_code 0 = .ok (.iconst 4, 1) := by decide +kernel
theorem w4 {a0 : Array Value} {Z : State} (hw : HW a0 Z) : (Jvm.Cond.arrayClass Jvm.ClassFile.FieldType.char).before a0 Z = true := hw _ (List.mem_of_getElem? (i := 4) rfl)
theorem d1_1 : decode method_3_code 1 = .ok (.newarray .char, 2) := by decide +kernel
theorem d1_3 : decode method_3_code 3 = .ok (.astore_n 1, 1) := by decide +kernel
theorem d1_4 : decode method_3_code 4 = .ok (.aload_n 1, 1) := by decide +kernel
theorem d1_5 : decode method_3_code 5 = .ok (.iconst 0, 1) := by decide +kernel
theorem d1_6 : decode method_3_code 6 = .ok (.iload_n 0, 1) := by decide +kernel
theorem d1_7 : decode method_3_code 7 = .ok (.sipush 255, 3) := by decide +kernel
theorem d1_10 : decode method_3_code 10 = .ok (.iand, 1) := by decide +kernel
theorem d1_11 : decode method_3_code 11 = .ok (.i2c, 1) := by decide +kernel
theorem d1_12 : decode method_3_code 12 = .ok (.castore, 1) := by decide +kernel
theorem d1_13 : decode method_3_code 13 = .ok (.aload_n 1, 1) := by decide +kernel
theorem d1_14 : decode method_3_code 14 = .ok (.iconst 1, 1) := by decide +kernel
theorem d1_15 : decode method_3_code 15 = .ok (.iload_n 0, 1) := by decide +kernel
theorem d1_16 : decode method_3_code 16 = .ok (.bipush 8, 2) := by decide +kernel
theorem d1_18 : decode method_3_code 18 = .ok (.iushr, 1) := by decide +kernel
theorem d1_19 : decode method_3_code 19 = .ok (.sipush 255, 3) := by decide +kernel
theorem d1_22 : decode method_3_code 22 = .ok (.iand, 1) := by decide +kernel
theorem d1_23 : decode method_3_code 23 = .ok (.i2c, 1) := by decide +kernel
theorem d1_24 : decode method_3_code 24 = .ok (.castore, 1) := by decide +kernel
theorem d1_25 : decode method_3_code 25 = .ok (.aload_n 1, 1) := by decide +kernel
theorem d1_26 : decode method_3_code 26 = .ok (.iconst 2, 1) := by decide +kernel
theorem d1_27 : decode method_3_code 27 = .ok (.iload_n 0, 1) := by decide +kernel
theorem d1_28 : decode method_3_code 28 = .ok (.bipush 16, 2) := by decide +kernel
theorem d1_30 : decode method_3_code 30 = .ok (.iushr, 1) := by decide +kernel
theorem d1_31 : decode method_3_code 31 = .ok (.sipush 255, 3) := by decide +kernel
theorem d1_34 : decode method_3_code 34 = .ok (.iand, 1) := by decide +kernel
theorem d1_35 : decode method_3_code 35 = .ok (.i2c, 1) := by decide +kernel
theorem d1_36 : decode method_3_code 36 = .ok (.castore, 1) := by decide +kernel
theorem d1_37 : decode method_3_code 37 = .ok (.aload_n 1, 1) := by decide +kernel
theorem d1_38 : decode method_3_code 38 = .ok (.iconst 3, 1) := by decide +kernel
theorem d1_39 : decode method_3_code 39 = .ok (.iload_n 0, 1) := by decide +kernel
theorem d1_40 : decode method_3_code 40 = .ok (.bipush 24, 2) := by decide +kernel
theorem d1_42 : decode method_3_code 42 = .ok (.iushr, 1) := by decide +kernel
theorem d1_43 : decode method_3_code 43 = .ok (.sipush 255, 3) := by decide +kernel
theorem d1_46 : decode method_3_code 46 = .ok (.iand, 1) := by decide +kernel
theorem d1_47 : decode method_3_code 47 = .ok (.i2c, 1) := by decide +kernel
theorem d1_48 : decode method_3_code 48 = .ok (.castore, 1) := by decide +kernel
theorem w5 {a0 : Array Value} {Z : State} (hw : HW a0 Z) : (Jvm.Cond.classLink "provento/files/FieldTextsOfPinLaw" (28 : Nat) "java/lang/String").before a0 Z = true := hw _ (List.mem_of_getElem? (i := 5) rfl)
theorem d1_49 : decode method_3_code 49 = .ok (.new 28, 3) := by decide +kernel
theorem d1_52 : decode method_3_code 52 = .ok (.dup, 1) := by decide +kernel
theorem d1_53 : decode method_3_code 53 = .ok (.aload_n 1, 1) := by decide +kernel
theorem w8 {a0 : Array Value} {Z : State} (hw : HW a0 Z) : (Jvm.Cond.methodLink "provento/files/FieldTextsOfPinLaw" (30 : Nat) ({ cls := "java/lang/String", name := "<init>", desc := "([C)V" } : Jvm.MethodName)).before a0 Z = true := hw _ (List.mem_of_getElem? (i := 8) rfl)
theorem w9 {a0 : Array Value} {Z : State} (hw : HW a0 Z) : (Jvm.Cond.instanceMethod ({ cls := "java/lang/String", name := "<init>", desc := "([C)V" } : Jvm.MethodName)).before a0 Z = true := hw _ (List.mem_of_getElem? (i := 9) rfl)
theorem d1_54 : decode method_3_code 54 = .ok (.invokespecial 30, 3) := by decide +kernel
theorem d1_57 : decode method_3_code 57 = .ok (.areturn, 1) := by decide +kernel
theorem w0 {a0 : Array Value} {Z : State} (hw : HW a0 Z) : (Jvm.Cond.methodLink "provento/files/FieldTextsOfPinLaw" (7 : Nat) ({ cls := "provento/files/FieldTextsOfPinLaw", name := "line", desc := "(I)Ljava/lang/String;" } : Jvm.MethodName)).before a0 Z = true := hw _ (List.mem_of_getElem? (i := 0) rfl)
theorem w1 {a0 : Array Value} {Z : State} (hw : HW a0 Z) : (Jvm.Cond.static ({ cls := "provento/files/FieldTextsOfPinLaw", name := "line", desc := "(I)Ljava/lang/String;" } : Jvm.MethodName)).before a0 Z = true := hw _ (List.mem_of_getElem? (i := 1) rfl)
theorem w3 {a0 : Array Value} {Z : State} (hw : HW a0 Z) : (Jvm.Cond.code ({ cls := "provento/files/FieldTextsOfPinLaw", name := "line", desc := "(I)Ljava/lang/String;" } : Jvm.MethodName) method_3_code (2 : Nat) (Option.some (Jvm.ClassFile.FieldType.object "java/lang/String"))).before a0 Z = true := hw _ (List.mem_of_getElem? (i := 3) rfl)
theorem pd17 : parseMethodDescriptor "(I)Ljava/lang/String;" = some ⟨[.int], some (.object "java/lang/String")⟩ := by decide +kernel
theorem w34 {a0 : Array Value} {Z : State} (hw : HW a0 Z) : (Jvm.Cond.classLink "provento/files/FieldTextsOfPinLaw" (13 : Nat) "provento/files/FieldTexts").before a0 Z = true := hw _ (List.mem_of_getElem? (i := 34) rfl)
theorem w36 {a0 : Array Value} {Z : State} (hw : HW a0 Z) : (Jvm.Cond.initialized "provento/files/FieldTexts").before a0 Z = true := hw _ (List.mem_of_getElem? (i := 36) rfl)
theorem w37 {a0 : Array Value} {Z : State} (hw : HW a0 Z) : (Jvm.Cond.methodLink "provento/files/FieldTextsOfPinLaw" (15 : Nat) ({ cls := "provento/files/FieldTexts", name := "<init>", desc := "()V" } : Jvm.MethodName)).before a0 Z = true := hw _ (List.mem_of_getElem? (i := 37) rfl)
theorem pd18 : parseMethodDescriptor "()V" = some ⟨[], none⟩ := by decide +kernel
theorem w38 {a0 : Array Value} {Z : State} (hw : HW a0 Z) : (Jvm.Cond.instanceMethod ({ cls := "provento/files/FieldTexts", name := "<init>", desc := "()V" } : Jvm.MethodName)).before a0 Z = true := hw _ (List.mem_of_getElem? (i := 38) rfl)
theorem w39 {a0 : Array Value} {Z : State} (hw : HW a0 Z) : (Jvm.Cond.code ({ cls := "provento/files/FieldTexts", name := "<init>", desc := "()V" } : Jvm.MethodName) prog_36_method_1_code (1 : Nat) (Option.none : Option Jvm.ClassFile.FieldType)).before a0 Z = true := hw _ (List.mem_of_getElem? (i := 39) rfl)
theorem w45 {a0 : Array Value} {Z : State} (hw : HW a0 Z) : (Jvm.Cond.methodLink "provento/files/FieldTextsOfPinLaw" (16 : Nat) ({ cls := "provento/files/FieldTexts", name := "of", desc := "(Ljava/lang/String;II)Ljava/lang/String;" } : Jvm.MethodName)).before a0 Z = true := hw _ (List.mem_of_getElem? (i := 45) rfl)
theorem pd19 : parseMethodDescriptor "(Ljava/lang/String;II)Ljava/lang/String;" = some ⟨[(.object "java/lang/String"), .int, .int], some (.object "java/lang/String")⟩ := by decide +kernel
theorem w48 {a0 : Array Value} {Z : State} (hw : HW a0 Z) : (Jvm.Cond.selects "provento/files/FieldTexts" ({ cls := "provento/files/FieldTexts", name := "of", desc := "(Ljava/lang/String;II)Ljava/lang/String;" } : Jvm.MethodName) ({ cls := "provento/files/FieldTexts", name := "of", desc := "(Ljava/lang/String;II)Ljava/lang/String;" } : Jvm.MethodName)).before a0 Z = true := hw _ (List.mem_of_getElem? (i := 48) rfl)
theorem w46 {a0 : Array Value} {Z : State} (hw : HW a0 Z) : (Jvm.Cond.declares ({ cls := "provento/files/FieldTexts", name := "of", desc := "(Ljava/lang/String;II)Ljava/lang/String;" } : Jvm.MethodName)).before a0 Z = true := hw _ (List.mem_of_getElem? (i := 46) rfl)
theorem w47 {a0 : Array Value} {Z : State} (hw : HW a0 Z) : (Jvm.Cond.instanceMethod ({ cls := "provento/files/FieldTexts", name := "of", desc := "(Ljava/lang/String;II)Ljava/lang/String;" } : Jvm.MethodName)).before a0 Z = true := hw _ (List.mem_of_getElem? (i := 47) rfl)
theorem w49 {a0 : Array Value} {Z : State} (hw : HW a0 Z) : (Jvm.Cond.code ({ cls := "provento/files/FieldTexts", name := "of", desc := "(Ljava/lang/String;II)Ljava/lang/String;" } : Jvm.MethodName) prog_36_method_2_code (8 : Nat) (Option.some (Jvm.ClassFile.FieldType.object "java/lang/String"))).before a0 Z = true := hw _ (List.mem_of_getElem? (i := 49) rfl)
theorem w94 {a0 : Array Value} {Z : State} (hw : HW a0 Z) : (Jvm.Cond.methodLink "provento/files/FieldTextsOfPinLaw" (24 : Nat) ({ cls := "provento/files/FieldTextsOfPinLaw", name := "matches", desc := "(Ljava/lang/String;Ljava/lang/String;II)Z" } : Jvm.MethodName)).before a0 Z = true := hw _ (List.mem_of_getElem? (i := 94) rfl)
theorem pd20 : parseMethodDescriptor "(Ljava/lang/String;Ljava/lang/String;II)Z" = some ⟨[(.object "java/lang/String"), (.object "java/lang/String"), .int, .int], some .boolean⟩ := by decide +kernel
theorem w95 {a0 : Array Value} {Z : State} (hw : HW a0 Z) : (Jvm.Cond.static ({ cls := "provento/files/FieldTextsOfPinLaw", name := "matches", desc := "(Ljava/lang/String;Ljava/lang/String;II)Z" } : Jvm.MethodName)).before a0 Z = true := hw _ (List.mem_of_getElem? (i := 95) rfl)
theorem w96 {a0 : Array Value} {Z : State} (hw : HW a0 Z) : (Jvm.Cond.code ({ cls := "provento/files/FieldTextsOfPinLaw", name := "matches", desc := "(Ljava/lang/String;Ljava/lang/String;II)Z" } : Jvm.MethodName) method_4_code (4 : Nat) (Option.some Jvm.ClassFile.FieldType.boolean)).before a0 Z = true := hw _ (List.mem_of_getElem? (i := 96) rfl)
theorem rm_coder (l : Launch) (Z : State) (a0 : Array Value) (hw : HW a0 Z) (a : Addr) (h : Heap) (n0 : Nat) (Ds : List Addr) (own_cs : CompactOn Z) (F_c : Fld Z h a "java/lang/String" "coder" "B" (.int (0 : Int32))) :
    Ctr l Z (⟨"java/lang/String", "coder", "()B"⟩ : MethodName) jdk_42_method_152_code 1 (some .byte) [] (rmo 0 0 0 0) #[.ref a] h n0 Ds (fun v h' Ds' => v = some (.int (0 : Int32)) ∧ h = h' ∧ Ds = Ds') := by
  refine ctr_of (Ls := #[.val (.ref a)]) (plainFor_of_name pn0) (fun m => by first | (simp [entryFrame, mkF, argsToLocals, Value.category]; done) | rfl) ?_
  intro C hl hret hnm R
  subst hl
  obtain ⟨zc, S_zc, hzc⟩ := id own_cs
  replace R := ((((R.getS (pc' := 3) (host := "") (Or.inl (w18 hw)) Via.refl S_zc d12_0 rfl).ifN (pc' := 6) d12_3 (feq hzc).1 rfl).aloadN (pc' := 7) (v := (.ref a)) d12_6 rfl rfl rfl).getF (pc' := 10) (host := "") (Or.inl (w30 hw)) Via.refl F_c d12_7 rfl).goto (pc' := 14) d12_10 (by decide) rfl
  exact R.retN (Ds' := Ds) hret (by simp) (show nar .byte (0 : Int32) = (0 : Int32) from rfl) d12_14 (by decide) (by decide) (fun _ q => q) ⟨rfl, rfl, rfl⟩
theorem rm_isLatin1 (l : Launch) (Z : State) (a0 : Array Value) (hw : HW a0 Z) (a : Addr) (h : Heap) (n0 : Nat) (Ds : List Addr) (own_cs : CompactOn Z) (F_c : Fld Z h a "java/lang/String" "coder" "B" (.int (0 : Int32))) :
    Ctr l Z (⟨"java/lang/String", "isLatin1", "()Z"⟩ : MethodName) jdk_42_method_154_code 1 (some .boolean) [] (rmo 0 0 0 0) #[.ref a] h n0 Ds (fun v h' Ds' => v = some (.int (1 : Int32)) ∧ h = h' ∧ Ds = Ds') := by
  refine ctr_of (Ls := #[.val (.ref a)]) (plainFor_of_name pn0) (fun m => by first | (simp [entryFrame, mkF, argsToLocals, Value.category]; done) | rfl) ?_
  intro C hl hret hnm R
  subst hl
  obtain ⟨zc, S_zc, hzc⟩ := id own_cs
  replace R := (((((R.getS (pc' := 3) (host := "") (Or.inl (w18 hw)) Via.refl S_zc d15_0 rfl).ifN (pc' := 6) d15_3 (feq hzc).1 rfl).aloadN (pc' := 7) (v := (.ref a)) d15_6 rfl rfl rfl).getF (pc' := 10) (host := "") (Or.inl (w30 hw)) Via.refl F_c d15_7 rfl).ifN (pc' := 13) d15_10 (teq (by decide : (0 : Int32) = (0 : Int32))).2 rfl).iconst (pc' := 14) (z := (1 : Int32)) d15_13 rfl rfl
  replace R := R.goto (pc' := 18) d15_14 (by decide) rfl
  exact R.retN (Ds' := Ds) hret (by simp) (show nar .boolean (1 : Int32) = (1 : Int32) from rfl) d15_18 (by decide) (by decide) (fun _ q => q) ⟨rfl, rfl, rfl⟩
theorem rm_length (l : Launch) (Z : State) (a0 : Array Value) (hw : HW a0 Z) (a : Addr) (h : Heap) (n0 : Nat) (Ds : List Addr) (own_cs : CompactOn Z) {cs : List Int32} (S_a : IsStr Z h a cs) :
    Ctr l Z (⟨"java/lang/String", "length", "()I"⟩ : MethodName) jdk_42_method_54_code 1 (some .int) [] (rmo 1 0 0 13) #[.ref a] h n0 Ds (fun v h' Ds' => v = some (.int (Int32.ofNat cs.length)) ∧ h = h' ∧ Ds = Ds') := by
  refine ctr_of (Ls := #[.val (.ref a)]) (plainFor_of_name pn0) (fun m => by first | (simp [entryFrame, mkF, argsToLocals, Value.category]; done) | rfl) ?_
  intro C hl hret hnm R
  subst hl
  obtain ⟨e1, e2, e3, e4, t, kb, e5, e6⟩ := S_a
  replace R := (((R.aloadN (pc' := 1) (v := (.ref a)) d11_0 rfl rfl rfl).getF (pc' := 4) (host := "") (Or.inl (w32 hw)) Via.refl e5 d11_1 rfl).arraylength (pc' := 5) e6 d11_4 rfl).aloadN (pc' := 6) (v := (.ref a)) d11_5 rfl rfl rfl
  replace R := own_pure (R.callV (pc' := 9) (y := (⟨"java/lang/String", "coder", "()B"⟩ : MethodName)) (z := (⟨"java/lang/String", "coder", "()B"⟩ : MethodName)) (argsL := []) (rest := [(.int (Int32.ofNat cs.length))]) (W := 1) (w60 hw) (w61 hw) (fun s' hZ' => notFace_of_selects (args := #[]) (mvT hZ' (w63 hw))) (w63 hw) (w62 hw) (w7 hw) (w64 hw) (by decide) e1 (rm_coder C.l Z a0 hw a h n0 Ds own_cs e2) rfl (lenOf pd0 rfl) rfl rfl d11_6 (by decide) (by decide) (by decide) (by decide) rfl)
  replace R := R.ishr (pc' := 10) d11_9 rfl
  replace R := R.stk (congrArg (fun z => ([Value.int z] : List Value)) (own_shr0 (Int32.ofNat cs.length)))
  exact R.retI (Ds' := Ds) hret d11_10 (by decide) (by decide) (fun _ q => q) ⟨rfl, rfl, rfl⟩
theorem rm_pci (l : Launch) (Z : State) (a0 : Array Value) (hw : HW a0 Z) (p0 p1 : Int32) (fm : Value) (h : Heap) (n0 : Nat) (Ds : List Addr) (hfm : fm.isRef = true) (hp : ¬ p0 < 0 ∧ p0 < p1) :
    Ctr l Z (⟨"jdk/internal/util/Preconditions", "checkIndex", "(IILjava/util/function/BiFunction;)I"⟩ : MethodName) jdk_41_method_11_code 3 (some .int) [] (rmo 0 0 0 0) #[.int p0, .int p1, fm] h n0 Ds (fun v h' Ds' => v = some (.int p0) ∧ h = h' ∧ Ds = Ds') := by
  refine ctr_of (Ls := #[.val (.int p0), .val (.int p1), .val fm]) (plainFor_of_name pn1) (fun mm => by rcases ref_cases hfm with rfl | ⟨_, rfl⟩ <;> first | (simp [entryFrame, mkF, argsToLocals, Value.category]; done) | rfl) ?_
  intro C hl hret hnm R
  subst hl
  replace R := (((((R.iloadN (pc' := 1) d23_0 rfl rfl).ifN (pc' := 4) d23_1 (flt hp.1).1 rfl).iloadN (pc' := 5) d23_4 rfl rfl).iloadN (pc' := 6) d23_5 rfl rfl).icmpY (pc' := 16) d23_6 (tlt hp.2).1 (by decide) rfl).iloadN (pc' := 17) d23_16 rfl rfl
  exact R.retI (Ds' := Ds) hret d23_17 (by decide) (by decide) (fun _ q => q) ⟨rfl, rfl, rfl⟩
theorem rm_ci (l : Launch) (Z : State) (a0 : Array Value) (hw : HW a0 Z) (p0 p1 : Int32) (h : Heap) (n0 : Nat) (Ds : List Addr) (own_si : SiooOk Z) (hp : ¬ p0 < 0 ∧ p0 < p1) :
    Ctr l Z (⟨"java/lang/String", "checkIndex", "(II)V"⟩ : MethodName) jdk_42_method_155_code 2 none [] (rmo 1 0 0 14) #[.int p0, .int p1] h n0 Ds (fun v h' Ds' => v = none ∧ h = h' ∧ Ds = Ds') := by
  refine ctr_of (Ls := #[.val (.int p0), .val (.int p1)]) (plainFor_of_name pn0) (fun m => by first | (simp [entryFrame, mkF, argsToLocals, Value.category]; done) | rfl) ?_
  intro C hl hret hnm R
  subst hl
  obtain ⟨fm, S_fm, hfm⟩ := id own_si
  replace R := ((R.iloadN (pc' := 1) d22_0 rfl rfl).iloadN (pc' := 2) d22_1 rfl rfl).getS (pc' := 5) (host := "") (Or.inl (w68 hw)) Via.refl S_fm d22_2 rfl
  replace R := own_pure (R.callS (pc' := 8) (argsL := [(.int p0), (.int p1), fm]) (rest := []) (W := 0) (w109 hw) (w110 hw) (w69 hw) (w111 hw) (by decide) (rm_pci C.l Z a0 hw p0 p1 fm h n0 Ds hfm hp) rfl (lenOf pd1 rfl) rfl rfl d22_5 (by decide) (by decide) (by decide) (by decide) rfl)
  replace R := R.pop (pc' := 9) d22_8 rfl rfl
  exact R.retV (Ds' := Ds) hret d22_9 (by decide) (by decide) (fun _ q => q) ⟨rfl, rfl, rfl⟩
theorem rm_lch (l : Launch) (Z : State) (a0 : Array Value) (hw : HW a0 Z) (t : Addr) (p0 : Int32) (h : Heap) (n0 : Nat) (Ds : List Addr) (own_si : SiooOk Z) {cs : List Int32} {k : Nat} (hk : p0 = Int32.ofNat k) (hkl : k < cs.length) {kb : ClassId} (hl : cs.length ≤ 4000) (hok : ∀ c ∈ cs, ¬ c < 0 ∧ ¬ (255 : Int32) < c) (V_t : Arv Z h t kb .byte (Int32.ofNat cs.length) (bytesOfCs cs) (.int 0)) :
    Ctr l Z (⟨"java/lang/StringLatin1", "charAt", "([BI)C"⟩ : MethodName) jdk_43_method_2_code 2 (some .char) [] (rmo 2 0 0 27) #[.ref t, .int p0] h n0 Ds (fun v h' Ds' => v = some (.int (cs.getD k 0)) ∧ h = h' ∧ Ds = Ds') := by
  refine ctr_of (Ls := #[.val (.ref t), .val (.int p0)]) (plainFor_of_name pn2) (fun m => by first | (simp [entryFrame, mkF, argsToLocals, Value.category]; done) | rfl) ?_
  intro C hl hret hnm R
  subst hl
  have hp : ¬ p0 < 0 ∧ p0 < Int32.ofNat cs.length := by rw [hk]; exact own_j hl hkl
  replace R := ((R.iloadN (pc' := 1) d21_0 rfl rfl).aloadN (pc' := 2) (v := (.ref t)) d21_1 rfl rfl rfl).arraylength (pc' := 3) V_t d21_2 rfl
  replace R := own_pure0 (R.callS (pc' := 6) (argsL := [(.int p0), (.int (Int32.ofNat cs.length))]) (rest := []) (W := 0) (w106 hw) (w107 hw) (w7 hw) (w108 hw) (by decide) (rm_ci C.l Z a0 hw p0 (Int32.ofNat cs.length) h n0 Ds own_si hp) rfl (lenOf pd2 rfl) rfl rfl d21_3 (by decide) (by decide) (by decide) (by decide) rfl)
  replace R := (((((R.aloadN (pc' := 7) (v := (.ref t)) d21_6 rfl rfl rfl).iloadN (pc' := 8) d21_7 rfl rfl).baload (pc' := 9) (v := .int (cs.getD k 0).toInt8.toInt32) V_t hp (by rw [hk]; exact own_bget hl hkl) d21_8 rfl).sipush (pc' := 12) (z := (255 : Int32)) d21_9 rfl rfl).iand (pc' := 13) d21_12 rfl).i2c (pc' := 14) d21_13 rfl
  have hb := own_getD hkl hok
  replace R := R.stk (congrArg (fun z => ([Value.int z] : List Value)) (own_b2c hb))
  exact R.retN (Ds' := Ds) hret (by simp) (show nar .char (cs.getD k 0) = (cs.getD k 0) from nar_of hb) d21_14 (by decide) (by decide) (fun _ q => q) ⟨rfl, rfl, rfl⟩
theorem rm_charAt (l : Launch) (Z : State) (a0 : Array Value) (hw : HW a0 Z) (a : Addr) (p0 : Int32) (h : Heap) (n0 : Nat) (Ds : List Addr) (own_cs : CompactOn Z) (own_si : SiooOk Z) {cs : List Int32} {k : Nat} (hk : p0 = Int32.ofNat k) (hkl : k < cs.length) (S_a : IsStr Z h a cs) :
    Ctr l Z (⟨"java/lang/String", "charAt", "(I)C"⟩ : MethodName) jdk_42_method_56_code 2 (some .char) [] (rmo 3 0 0 40) #[.ref a, .int p0] h n0 Ds (fun v h' Ds' => v = some (.int (cs.getD k 0)) ∧ h = h' ∧ Ds = Ds') := by
  refine ctr_of (Ls := #[.val (.ref a), .val (.int p0)]) (plainFor_of_name pn0) (fun m => by first | (simp [entryFrame, mkF, argsToLocals, Value.category]; done) | rfl) ?_
  intro C hl hret hnm R
  subst hl
  obtain ⟨e1, e2, e3, e4, t, kb, e5, e6⟩ := S_a
  replace R := R.aloadN (pc' := 1) (v := (.ref a)) d20_0 rfl rfl rfl
  replace R := own_pure (R.callV (pc' := 4) (y := (⟨"java/lang/String", "isLatin1", "()Z"⟩ : MethodName)) (z := (⟨"java/lang/String", "isLatin1", "()Z"⟩ : MethodName)) (argsL := []) (rest := []) (W := 0) (w73 hw) (w74 hw) (fun s' hZ' => notFace_of_selects (args := #[]) (mvT hZ' (w76 hw))) (w76 hw) (w75 hw) (w7 hw) (w77 hw) (by decide) e1 (rm_isLatin1 C.l Z a0 hw a h n0 Ds own_cs e2) rfl (lenOf pd3 rfl) rfl rfl d20_1 (by decide) (by decide) (by decide) (by decide) rfl)
  replace R := (((R.ifN (pc' := 7) d20_4 (feq (by decide : ¬ ((1 : Int32) = (0 : Int32)))).1 rfl).aloadN (pc' := 8) (v := (.ref a)) d20_7 rfl rfl rfl).getF (pc' := 11) (host := "") (Or.inl (w32 hw)) Via.refl e5 d20_8 rfl).iloadN (pc' := 12) d20_11 rfl rfl
  replace R := own_pure (R.callS (pc' := 15) (argsL := [(.ref t), (.int p0)]) (rest := []) (W := 0) (w103 hw) (w104 hw) (w80 hw) (w105 hw) (by decide) (rm_lch C.l Z a0 hw t p0 h n0 Ds own_si hk hkl e4 e3 e6) rfl (lenOf pd4 rfl) rfl rfl d20_12 (by decide) (by decide) (by decide) (by decide) rfl)
  have hb := own_getD hkl e3
  exact R.retN (Ds' := Ds) hret (by simp) (show nar .char (cs.getD k 0) = (cs.getD k 0) from nar_of hb) d20_15 (by decide) (by decide) (fun _ q => q) ⟨rfl, rfl, rfl⟩
theorem rm_bb (l : Launch) (Z : State) (a0 : Array Value) (hw : HW a0 Z) (a b : Addr) (h : Heap) (n0 : Nat) (Ds : List Addr) (ha : a ∈ Ds) {u1 u2 : Value} (E_a : Exa Z h a "java/lang/String") (F_v : Fld Z h a "java/lang/String" "value" "[B" u1) (F_c : Fld Z h a "java/lang/String" "coder" "B" u2) :
    Ctr l Z (⟨"java/lang/String", "<init>", "([BB)V"⟩ : MethodName) jdk_42_method_151_code 3 none [] (rmo 1 0 0 12) #[.ref a, .ref b, .int (0 : Int32)] h n0 Ds (fun v h' Ds' => v = none ∧ Keep h h' [a] ∧ Exa Z h' a "java/lang/String" ∧ Fld Z h' a "java/lang/String" "value" "[B" (.ref b) ∧ Fld Z h' a "java/lang/String" "coder" "B" (.int (0 : Int32)) ∧ Ds = Ds') := by
  refine ctr_of (Ls := #[.val (.ref a), .val (.ref b), .val (.int (0 : Int32))]) (plainFor_of_name pn0) (fun m => by first | (simp [entryFrame, mkF, argsToLocals, Value.category]; done) | rfl) ?_
  intro C hl hret hnm R
  subst hl
  replace R := (((R.aloadN (pc' := 1) (v := (.ref a)) d28_0 rfl rfl rfl).initO (pc' := 4) (W := 0) (w15 hw) (w16 hw) (w17 hw) rfl d28_1 (by decide) rfl (by decide) rfl).aloadN (pc' := 5) (v := (.ref a)) d28_4 rfl rfl rfl).aloadN (pc' := 6) (v := (.ref b)) d28_5 rfl rfl rfl
  obtain ⟨h1, W1, R⟩ := R.putF (pc' := 9) (ty := (.array .byte)) (host := "") (Or.inl (w32 hw)) Via.refl F_v E_a (Or.inr ⟨(w33 hw), rfl, hnm⟩) (w6 hw) (by decide) rfl rfl ha d28_6 rfl
  have F1 := F_v.same W1
  have F2 := F_c.other W1 (Or.inr (slot_ne (Or.inr (w31 hw)) (Or.inr (w33 hw)) (by decide) (t := .byte) (t' := (.array .byte)) (by decide) (by decide)))
  replace R := (R.aloadN (pc' := 10) (v := (.ref a)) d28_9 rfl rfl rfl).iloadN (pc' := 11) d28_10 rfl rfl
  have K3 := ((Keep.refl h [a]).trans (Keep.of_wr W1) (allS (Or.inl (List.mem_of_getElem? (i := 0) rfl)) all0))
  have F4 := E_a.keep K3
  obtain ⟨h5, W5, R⟩ := R.putFN (pc' := 14) (ty := .byte) (v' := (.int (0 : Int32))) (w30 hw) Via.refl F2 F4 (Or.inr ⟨(w31 hw), rfl, hnm⟩) (w6 hw) (by decide) (rfl) (rfl) ha d28_11 rfl
  have F5 := F2.same W5
  have F6 := F1.other W5 (Or.inr (slot_ne (Or.inr (w33 hw)) (Or.inr (w31 hw)) (by decide) (t := (.array .byte)) (t' := .byte) (by decide) (by decide)))
  have hK := (((Keep.refl h [a]).trans (Keep.of_wr W1) (allS (Or.inl (List.mem_of_getElem? (i := 0) rfl)) all0)).trans (Keep.of_wr W5) (allS (Or.inl (List.mem_of_getElem? (i := 0) rfl)) all0))
  have K7 := ((Keep.refl h1 [a]).trans (Keep.of_wr W5) (allS (Or.inl (List.mem_of_getElem? (i := 0) rfl)) all0))
  have F8 := F4.keep K7
  exact R.retV (Ds' := Ds) hret d28_14 (by decide) (by decide) (fun _ q => q) ⟨rfl, hK, F8, F6, F5, rfl⟩
theorem rm_ft0_0 (l : Launch) (Z : State) (a0 : Array Value) (hw : HW a0 Z) (fm : Value) (h : Heap) (n0 : Nat) (Ds : List Addr) (hfm : fm.isRef = true) :
    Ctr l Z (⟨"jdk/internal/util/Preconditions", "checkFromToIndex", "(IIILjava/util/function/BiFunction;)I"⟩ : MethodName) jdk_41_method_12_code 4 (some .int) [] (rmo 0 0 0 0) #[.int (0 : Int32), .int (0 : Int32), .int (4 : Int32), fm] h n0 Ds (fun v h' Ds' => v = some (.int (0 : Int32)) ∧ h = h' ∧ Ds = Ds') := by
  refine ctr_of (Ls := #[.val (.int (0 : Int32)), .val (.int (0 : Int32)), .val (.int (4 : Int32)), .val fm]) (plainFor_of_name pn1) (fun mm => by rcases ref_cases hfm with rfl | ⟨_, rfl⟩ <;> first | (simp [entryFrame, mkF, argsToLocals, Value.category]; done) | rfl) ?_
  intro C hl hret hnm R
  subst hl
  replace R := (((((R.iloadN (pc' := 1) d14_0 rfl rfl).ifN (pc' := 4) d14_1 (flt (by decide : ¬ ((0 : Int32) < (0 : Int32)))).1 rfl).iloadN (pc' := 5) d14_4 rfl rfl).iloadN (pc' := 6) d14_5 rfl rfl).icmpN (pc' := 9) d14_6 (flt (by decide : ¬ ((0 : Int32) < (0 : Int32)))).2.2.1 rfl).iloadN (pc' := 10) d14_9 rfl rfl
  replace R := ((R.iloadN (pc' := 11) d14_10 rfl rfl).icmpY (pc' := 22) d14_11 (flt (by decide : ¬ ((4 : Int32) < (0 : Int32)))).2.2.2 (by decide) rfl).iloadN (pc' := 23) d14_22 rfl rfl
  exact R.retI (Ds' := Ds) hret d14_23 (by decide) (by decide) (fun _ q => q) ⟨rfl, rfl, rfl⟩
theorem rm_be0_0 (l : Launch) (Z : State) (a0 : Array Value) (hw : HW a0 Z) (h : Heap) (n0 : Nat) (Ds : List Addr) (own_si : SiooOk Z) :
    Ctr l Z (⟨"java/lang/String", "checkBoundsBeginEnd", "(III)V"⟩ : MethodName) jdk_42_method_158_code 3 none [] (rmo 1 0 0 15) #[.int (0 : Int32), .int (0 : Int32), .int (4 : Int32)] h n0 Ds (fun v h' Ds' => v = none ∧ h = h' ∧ Ds = Ds') := by
  refine ctr_of (Ls := #[.val (.int (0 : Int32)), .val (.int (0 : Int32)), .val (.int (4 : Int32))]) (plainFor_of_name pn0) (fun m => by first | (simp [entryFrame, mkF, argsToLocals, Value.category]; done) | rfl) ?_
  intro C hl hret hnm R
  subst hl
  obtain ⟨fm, S_fm, hfm⟩ := id own_si
  replace R := (((R.iloadN (pc' := 1) d13_0 rfl rfl).iloadN (pc' := 2) d13_1 rfl rfl).iloadN (pc' := 3) d13_2 rfl rfl).getS (pc' := 6) (host := "") (Or.inl (w68 hw)) Via.refl S_fm d13_3 rfl
  replace R := own_pure (R.callS (pc' := 9) (argsL := [(.int (0 : Int32)), (.int (0 : Int32)), (.int (4 : Int32)), fm]) (rest := []) (W := 0) (w70 hw) (w71 hw) (w69 hw) (w72 hw) (by decide) (rm_ft0_0 C.l Z a0 hw fm h n0 Ds hfm) rfl (lenOf pd5 rfl) rfl rfl d13_6 (by decide) (by decide) (by decide) (by decide) rfl)
  replace R := R.pop (pc' := 10) d13_9 rfl rfl
  exact R.retV (Ds' := Ds) hret d13_10 (by decide) (by decide) (fun _ q => q) ⟨rfl, rfl, rfl⟩
theorem rm_ns0_0 (l : Launch) (Z : State) (a0 : Array Value) (hw : HW a0 Z) (h : Heap) (n0 : Nat) (Ds : List Addr) {x0 x1 x2 x3 : Int32} (hok : ∀ c ∈ ([x0, x1, x2, x3] : List Int32), ¬ c < 0 ∧ ¬ (255 : Int32) < c) {t : Addr} {kt : ClassId} (V_t : Arv Z h t kt .byte (4 : Int32) [(.int x0.toInt8.toInt32), (.int x1.toInt8.toInt32), (.int x2.toInt8.toInt32), (.int x3.toInt8.toInt32)] (.int 0)) :
    Ctr l Z (⟨"java/lang/StringLatin1", "newString", "([BII)Ljava/lang/String;"⟩ : MethodName) jdk_43_method_47_code 3 (some (.object "java/lang/String")) [] (rmo 0 2 4 0) #[.ref t, .int (0 : Int32), .int (0 : Int32)] h n0 Ds (fun v h' Ds' => ∃ r : Addr, v = some (.ref r) ∧ IsStr Z h' r [] ∧ Keep h h' [] ∧ Ds = Ds') := by
  refine ctr_of (Ls := #[.val (.ref t), .val (.int (0 : Int32)), .val (.int (0 : Int32))]) (plainFor_of_name pn2) (fun m => by first | (simp [entryFrame, mkF, argsToLocals, Value.category]; done) | rfl) ?_
  intro C hl hret hnm R
  subst hl
  replace R := (R.iloadN (pc' := 1) d16_0 rfl rfl).ifN (pc' := 4) d16_1 (teq (by decide : (0 : Int32) = (0 : Int32))).2 rfl
  obtain ⟨h1, a1, E1, S1, N1, R⟩ := R.ldcS (pc' := 6) (n := 0) (cs := []) (by decide) (w82 hw) (by decide +kernel) (by decide +kernel) (by decide) d16_4 (by decide +kernel) (by decide) (by decide) (by decide) rfl
  have hK := ((Keep.refl h []).trans ((Keep.refl h []).ext E1) all0)
  exact R.retA (Ds' := Ds) hret rfl rfl rfl d16_6 (by decide) (by decide) (fun _ q => q) ⟨a1, rfl, S1, hK, rfl⟩
theorem rm_su0_0 (l : Launch) (Z : State) (a0 : Array Value) (hw : HW a0 Z) (a : Addr) (h : Heap) (n0 : Nat) (Ds : List Addr) (own_cs : CompactOn Z) (own_si : SiooOk Z) {x0 x1 x2 x3 : Int32} (S_a : IsStr Z h a [x0, x1, x2, x3]) :
    Ctr l Z (⟨"java/lang/String", "substring", "(II)Ljava/lang/String;"⟩ : MethodName) jdk_42_method_92_code 5 (some (.object "java/lang/String")) [] (rmo 4 2 7 126) #[.ref a, .int (0 : Int32), .int (0 : Int32)] h n0 Ds (fun v h' Ds' => ∃ r : Addr, v = some (.ref r) ∧ IsStr Z h' r [] ∧ Keep h h' [] ∧ Ds = Ds') := by
  refine ctr_of (Ls := #[.val (.ref a), .val (.int (0 : Int32)), .val (.int (0 : Int32)), .unset, .unset]) (plainFor_of_name pn0) (fun m => by first | (simp [entryFrame, mkF, argsToLocals, Value.category]; done) | rfl) ?_
  intro C hl hret hnm R
  subst hl
  have S_0 := S_a
  obtain ⟨e1, e2, e3, e4, t, kt, e5, e6⟩ := S_a
  have e7 : Arv Z h t kt .byte (4 : Int32) [(.int x0.toInt8.toInt32), (.int x1.toInt8.toInt32), (.int x2.toInt8.toInt32), (.int x3.toInt8.toInt32)] (.int 0) := e6
  have hok := e3
  have V_t := e7
  replace R := R.aloadN (pc' := 1) (v := (.ref a)) d10_0 rfl rfl rfl
  replace R := own_pure (R.callV (pc' := 4) (y := (⟨"java/lang/String", "length", "()I"⟩ : MethodName)) (z := (⟨"java/lang/String", "length", "()I"⟩ : MethodName)) (argsL := []) (rest := []) (W := 0) (w55 hw) (w56 hw) (fun s' hZ' => notFace_of_selects (args := #[]) (mvT hZ' (w58 hw))) (w58 hw) (w57 hw) (w7 hw) (w59 hw) (by decide) e1 (rm_length C.l Z a0 hw a h n0 Ds own_cs S_0) rfl (lenOf pd6 rfl) rfl rfl d10_1 (by decide) (by decide) (by decide) (by decide) rfl)
  replace R := (((R.istoreN (pc' := 5) (l' := #[.val (.ref a), .val (.int (0 : Int32)), .val (.int (0 : Int32)), .val (.int (4 : Int32)), .unset]) d10_4 rfl rfl).iloadN (pc' := 6) d10_5 rfl rfl).iloadN (pc' := 7) d10_6 rfl rfl).iloadN (pc' := 8) d10_7 rfl rfl
  replace R := own_pure0 (R.callS (pc' := 11) (argsL := [(.int (0 : Int32)), (.int (0 : Int32)), (.int (4 : Int32))]) (rest := []) (W := 0) (w65 hw) (w66 hw) (w7 hw) (w67 hw) (by decide) (rm_be0_0 C.l Z a0 hw h n0 Ds own_si) rfl (lenOf pd7 rfl) rfl rfl d10_8 (by decide) (by decide) (by decide) (by decide) rfl)
  replace R := (((((R.iloadN (pc' := 12) d10_11 rfl rfl).ifN (pc' := 15) d10_12 (teq (by decide : (0 : Int32) = (0 : Int32))).2 rfl).iloadN (pc' := 16) d10_15 rfl rfl).iloadN (pc' := 17) d10_16 rfl rfl).icmpY (pc' := 22) d10_17 (feq (by decide : ¬ ((0 : Int32) = (4 : Int32)))).2 (by decide) rfl).iloadN (pc' := 23) d10_22 rfl rfl
  replace R := ((((R.iloadN (pc' := 24) d10_23 rfl rfl).isub (pc' := 25) d10_24 rfl).stk (S' := [(.int (0 : Int32))]) rfl).istore (pc' := 27) (l' := #[.val (.ref a), .val (.int (0 : Int32)), .val (.int (0 : Int32)), .val (.int (4 : Int32)), .val (.int (0 : Int32))]) d10_25 rfl rfl).aloadN (pc' := 28) (v := (.ref a)) d10_27 rfl rfl rfl
  replace R := own_pure (R.callV (pc' := 31) (y := (⟨"java/lang/String", "isLatin1", "()Z"⟩ : MethodName)) (z := (⟨"java/lang/String", "isLatin1", "()Z"⟩ : MethodName)) (argsL := []) (rest := []) (W := 0) (w73 hw) (w74 hw) (fun s' hZ' => notFace_of_selects (args := #[]) (mvT hZ' (w76 hw))) (w76 hw) (w75 hw) (w7 hw) (w77 hw) (by decide) e1 (rm_isLatin1 C.l Z a0 hw a h n0 Ds own_cs e2) rfl (lenOf pd3 rfl) rfl rfl d10_28 (by decide) (by decide) (by decide) (by decide) rfl)
  replace R := ((((R.ifN (pc' := 34) d10_31 (feq (by decide : ¬ ((1 : Int32) = (0 : Int32)))).1 rfl).aloadN (pc' := 35) (v := (.ref a)) d10_34 rfl rfl rfl).getF (pc' := 38) (host := "") (Or.inl (w32 hw)) Via.refl e5 d10_35 rfl).iloadN (pc' := 39) d10_38 rfl rfl).iload (pc' := 41) d10_39 rfl rfl
  obtain ⟨_, h1, _, ⟨r1, rfl, S1, K1, rfl⟩, R⟩ := R.callS (pc' := 44) (argsL := [(.ref t), (.int (0 : Int32)), (.int (0 : Int32))]) (rest := []) (W := 0) (w78 hw) (w79 hw) (w80 hw) (w81 hw) (by decide) (rm_ns0_0 C.l Z a0 hw h n0 Ds hok e7) rfl (lenOf pd8 rfl) rfl rfl d10_41 (by decide) (by decide) (by decide) (by decide) rfl
  replace R := ((R.mono (ce' := 2) (sl' := 4) (by decide) (by decide)).stk (S' := [(.ref r1)]) rfl).goto (pc' := 57) d10_44 (by decide) rfl
  have hK : Keep h h1 [] := ((Keep.refl h []).trans K1 all0)
  exact R.retA (Ds' := Ds) hret rfl rfl rfl d10_57 (by decide) (by decide) (fun _ q => q) ⟨r1, rfl, S1, hK, rfl⟩
theorem rm_ft0_1 (l : Launch) (Z : State) (a0 : Array Value) (hw : HW a0 Z) (fm : Value) (h : Heap) (n0 : Nat) (Ds : List Addr) (hfm : fm.isRef = true) :
    Ctr l Z (⟨"jdk/internal/util/Preconditions", "checkFromToIndex", "(IIILjava/util/function/BiFunction;)I"⟩ : MethodName) jdk_41_method_12_code 4 (some .int) [] (rmo 0 0 0 0) #[.int (0 : Int32), .int (1 : Int32), .int (4 : Int32), fm] h n0 Ds (fun v h' Ds' => v = some (.int (0 : Int32)) ∧ h = h' ∧ Ds = Ds') := by
  refine ctr_of (Ls := #[.val (.int (0 : Int32)), .val (.int (1 : Int32)), .val (.int (4 : Int32)), .val fm]) (plainFor_of_name pn1) (fun mm => by rcases ref_cases hfm with rfl | ⟨_, rfl⟩ <;> first | (simp [entryFrame, mkF, argsToLocals, Value.category]; done) | rfl) ?_
  intro C hl hret hnm R
  subst hl
  replace R := (((((R.iloadN (pc' := 1) d14_0 rfl rfl).ifN (pc' := 4) d14_1 (flt (by decide : ¬ ((0 : Int32) < (0 : Int32)))).1 rfl).iloadN (pc' := 5) d14_4 rfl rfl).iloadN (pc' := 6) d14_5 rfl rfl).icmpN (pc' := 9) d14_6 (flt (by decide : ¬ ((1 : Int32) < (0 : Int32)))).2.2.1 rfl).iloadN (pc' := 10) d14_9 rfl rfl
  replace R := ((R.iloadN (pc' := 11) d14_10 rfl rfl).icmpY (pc' := 22) d14_11 (flt (by decide : ¬ ((4 : Int32) < (1 : Int32)))).2.2.2 (by decide) rfl).iloadN (pc' := 23) d14_22 rfl rfl
  exact R.retI (Ds' := Ds) hret d14_23 (by decide) (by decide) (fun _ q => q) ⟨rfl, rfl, rfl⟩
theorem rm_be0_1 (l : Launch) (Z : State) (a0 : Array Value) (hw : HW a0 Z) (h : Heap) (n0 : Nat) (Ds : List Addr) (own_si : SiooOk Z) :
    Ctr l Z (⟨"java/lang/String", "checkBoundsBeginEnd", "(III)V"⟩ : MethodName) jdk_42_method_158_code 3 none [] (rmo 1 0 0 15) #[.int (0 : Int32), .int (1 : Int32), .int (4 : Int32)] h n0 Ds (fun v h' Ds' => v = none ∧ h = h' ∧ Ds = Ds') := by
  refine ctr_of (Ls := #[.val (.int (0 : Int32)), .val (.int (1 : Int32)), .val (.int (4 : Int32))]) (plainFor_of_name pn0) (fun m => by first | (simp [entryFrame, mkF, argsToLocals, Value.category]; done) | rfl) ?_
  intro C hl hret hnm R
  subst hl
  obtain ⟨fm, S_fm, hfm⟩ := id own_si
  replace R := (((R.iloadN (pc' := 1) d13_0 rfl rfl).iloadN (pc' := 2) d13_1 rfl rfl).iloadN (pc' := 3) d13_2 rfl rfl).getS (pc' := 6) (host := "") (Or.inl (w68 hw)) Via.refl S_fm d13_3 rfl
  replace R := own_pure (R.callS (pc' := 9) (argsL := [(.int (0 : Int32)), (.int (1 : Int32)), (.int (4 : Int32)), fm]) (rest := []) (W := 0) (w70 hw) (w71 hw) (w69 hw) (w72 hw) (by decide) (rm_ft0_1 C.l Z a0 hw fm h n0 Ds hfm) rfl (lenOf pd5 rfl) rfl rfl d13_6 (by decide) (by decide) (by decide) (by decide) rfl)
  replace R := R.pop (pc' := 10) d13_9 rfl rfl
  exact R.retV (Ds' := Ds) hret d13_10 (by decide) (by decide) (fun _ q => q) ⟨rfl, rfl, rfl⟩
theorem rm_min4_1 (l : Launch) (Z : State) (a0 : Array Value) (hw : HW a0 Z) (h : Heap) (n0 : Nat) (Ds : List Addr) :
    Ctr l Z (⟨"java/lang/Math", "min", "(II)I"⟩ : MethodName) jdk_29_method_69_code 2 (some .int) [] (rmo 0 0 0 0) #[.int (4 : Int32), .int (1 : Int32)] h n0 Ds (fun v h' Ds' => v = some (.int (1 : Int32)) ∧ h = h' ∧ Ds = Ds') := by
  refine ctr_of (Ls := #[.val (.int (4 : Int32)), .val (.int (1 : Int32))]) (Jvm.Free.JP.mathPlain rfl (by decide +kernel)) (fun m => by first | (simp [entryFrame, mkF, argsToLocals, Value.category]; done) | rfl) ?_
  intro C hl hret hnm R
  subst hl
  replace R := (((R.iloadN (pc' := 1) d27_0 rfl rfl).iloadN (pc' := 2) d27_1 rfl rfl).icmpY (pc' := 9) d27_2 (tlt (by decide : (1 : Int32) < (4 : Int32))).2.2.1 (by decide) rfl).iloadN (pc' := 10) d27_9 rfl rfl
  exact R.retI (Ds' := Ds) hret d27_10 (by decide) (by decide) (fun _ q => q) ⟨rfl, rfl, rfl⟩
theorem rm_cl0_1 (l : Launch) (Z : State) (a0 : Array Value) (hw : HW a0 Z) (h : Heap) (n0 : Nat) (Ds : List Addr) :
    Ctr l Z (⟨"java/util/Arrays", "checkLength", "(II)V"⟩ : MethodName) jdk_65_method_131_code 2 none [] (rmo 0 0 0 0) #[.int (0 : Int32), .int (1 : Int32)] h n0 Ds (fun v h' Ds' => v = none ∧ h = h' ∧ Ds = Ds') := by
  refine ctr_of (Ls := #[.val (.int (0 : Int32)), .val (.int (1 : Int32))]) (plainFor_of_name pn3) (fun m => by first | (simp [entryFrame, mkF, argsToLocals, Value.category]; done) | rfl) ?_
  intro C hl hret hnm R
  subst hl
  replace R := ((R.iloadN (pc' := 1) d26_0 rfl rfl).iloadN (pc' := 2) d26_1 rfl rfl).icmpY (pc' := 37) d26_2 (flt (by decide : ¬ ((1 : Int32) < (0 : Int32)))).2.1 (by decide) rfl
  exact R.retV (Ds' := Ds) hret d26_37 (by decide) (by decide) (fun _ q => q) ⟨rfl, rfl, rfl⟩
theorem rm_crb0_1 (l : Launch) (Z : State) (a0 : Array Value) (hw : HW a0 Z) (h : Heap) (n0 : Nat) (Ds : List Addr) {x0 x1 x2 x3 : Int32} {t : Addr} {kt : ClassId} (V_t : Arv Z h t kt .byte (4 : Int32) [(.int x0.toInt8.toInt32), (.int x1.toInt8.toInt32), (.int x2.toInt8.toInt32), (.int x3.toInt8.toInt32)] (.int 0)) :
    Ctr l Z (⟨"java/util/Arrays", "copyOfRangeByte", "([BII)[B"⟩ : MethodName) jdk_65_method_133_code 5 (some (.array .byte)) [] (rmo 1 1 1 80) #[.ref t, .int (0 : Int32), .int (1 : Int32)] h n0 Ds (fun v h' Ds' => ∃ (r : Addr) (kr : ClassId), v = some (.ref r) ∧ Keep h h' [] ∧ Arv Z h' r kr .byte (1 : Int32) [(.int x0.toInt8.toInt32)] (.int 0) ∧ Ds = Ds') := by
  refine ctr_of (Ls := #[.val (.ref t), .val (.int (0 : Int32)), .val (.int (1 : Int32)), .unset, .unset]) (plainFor_of_name pn3) (fun m => by first | (simp [entryFrame, mkF, argsToLocals, Value.category]; done) | rfl) ?_
  intro C hl hret hnm R
  subst hl
  have hvl : t < h.size := V_t.lt
  replace R := (R.iloadN (pc' := 1) d25_0 rfl rfl).iloadN (pc' := 2) d25_1 rfl rfl
  replace R := own_pure0 (R.callS (pc' := 5) (argsL := [(.int (0 : Int32)), (.int (1 : Int32))]) (rest := []) (W := 0) (w120 hw) (w121 hw) (w115 hw) (w122 hw) (by decide) (rm_cl0_1 C.l Z a0 hw h n0 Ds) rfl (lenOf pd2 rfl) rfl rfl d25_2 (by decide) (by decide) (by decide) (by decide) rfl)
  replace R := (((((R.iloadN (pc' := 6) d25_5 rfl rfl).iloadN (pc' := 7) d25_6 rfl rfl).isub (pc' := 8) d25_7 rfl).stk (S' := [(.int (1 : Int32))]) rfl).istoreN (pc' := 9) (l' := #[.val (.ref t), .val (.int (0 : Int32)), .val (.int (1 : Int32)), .val (.int (1 : Int32)), .unset]) d25_8 rfl rfl).iloadN (pc' := 10) d25_9 rfl rfl
  obtain ⟨h1, b1, k1, g1, E1, V1, R⟩ := R.newP (pc' := 12) (aty := .byte) (cap := 1) (w23 hw) d25_10 (by decide) (by decide) (by decide) (by decide) (by decide) rfl
  have V1p : Arv Z h1 b1 k1 .byte (1 : Int32) [(.int (0 : Int32))] (.int (0 : Int32)) := V1.pad (pad_rep [] (.int (0 : Int32)) 1)
  replace R := (((((R.astore (pc' := 14) (l' := #[.val (.ref t), .val (.int (0 : Int32)), .val (.int (1 : Int32)), .val (.int (1 : Int32)), .val (.ref b1)]) d25_12 rfl rfl rfl).aloadN (pc' := 15) (v := (.ref t)) d25_14 rfl rfl rfl).iloadN (pc' := 16) d25_15 rfl rfl).aload (pc' := 18) (v := (.ref b1)) d25_16 rfl rfl rfl).iconst (pc' := 19) (z := (0 : Int32)) d25_18 rfl rfl).aloadN (pc' := 20) (v := (.ref t)) d25_19 rfl rfl rfl
  have K2 := ((Keep.refl h []).trans ((Keep.refl h []).ext E1) all0)
  have F3 := V_t.keep K2 nin0
  replace R := ((((R.arraylength (pc' := 21) F3 d25_20 rfl).iloadN (pc' := 22) d25_21 rfl rfl).isub (pc' := 23) d25_22 rfl).stk (S' := [(.int (4 : Int32)), (.int (0 : Int32)), (.ref b1), (.int (0 : Int32)), (.ref t)]) rfl).iloadN (pc' := 24) d25_23 rfl rfl
  replace R := own_pure (R.callS (pc' := 27) (argsL := [(.int (4 : Int32)), (.int (1 : Int32))]) (rest := [(.int (0 : Int32)), (.ref b1), (.int (0 : Int32)), (.ref t)]) (W := 4) (w123 hw) (w124 hw) (w125 hw) (w126 hw) (by decide) (rm_min4_1 C.l Z a0 hw h1 n0 (b1 :: Ds)) rfl (lenOf pd9 rfl) rfl rfl d25_24 (by decide) (by decide) (by decide) (by decide) rfl)
  have nvb : t ≠ b1 := fun e => by rw [e, g1] at hvl; exact Nat.lt_irrefl _ hvl
  obtain ⟨h4, K4, V4, R⟩ := R.copyB (pc' := 30) (W := 0) (nn := (1 : Int32)) (us := [(.int x0.toInt8.toInt32)]) (w127 hw) (w130 hw) (w128 hw) (w129 hw) F3 V1p rfl (by decide) (by decide) (by decide) (by decide) (by decide) rfl (Nat.le_of_ble_eq_true rfl) (List.mem_of_getElem? (i := 0) rfl) rfl d25_27 (by decide) rfl (by decide) rfl
  have V4p : Arv Z h4 b1 k1 .byte (1 : Int32) [(.int x0.toInt8.toInt32)] (.int (0 : Int32)) := V4
  replace R := R.aload (pc' := 32) (v := (.ref b1)) d25_30 rfl rfl rfl
  have hK := (((Keep.refl h []).trans ((Keep.refl h []).ext E1) all0).trans K4 (allS (Or.inr (by rw [g1]; exact (Nat.le_refl _))) all0))
  exact R.retA (Ds' := Ds) hret rfl rfl rfl d25_32 (by decide) (by decide) (fun _ q => (fun q => (List.mem_cons_of_mem _ q)) q) ⟨b1, _, rfl, hK, V4p, rfl⟩
theorem rm_cr0_1 (l : Launch) (Z : State) (a0 : Array Value) (hw : HW a0 Z) (h : Heap) (n0 : Nat) (Ds : List Addr) {x0 x1 x2 x3 : Int32} {t : Addr} {kt : ClassId} (V_t : Arv Z h t kt .byte (4 : Int32) [(.int x0.toInt8.toInt32), (.int x1.toInt8.toInt32), (.int x2.toInt8.toInt32), (.int x3.toInt8.toInt32)] (.int 0)) :
    Ctr l Z (⟨"java/util/Arrays", "copyOfRange", "([BII)[B"⟩ : MethodName) jdk_65_method_132_code 3 (some (.array .byte)) [] (rmo 2 1 1 96) #[.ref t, .int (0 : Int32), .int (1 : Int32)] h n0 Ds (fun v h' Ds' => ∃ (r : Addr) (kr : ClassId), v = some (.ref r) ∧ Keep h h' [] ∧ Arv Z h' r kr .byte (1 : Int32) [(.int x0.toInt8.toInt32)] (.int 0) ∧ Ds = Ds') := by
  refine ctr_of (Ls := #[.val (.ref t), .val (.int (0 : Int32)), .val (.int (1 : Int32))]) (plainFor_of_name pn3) (fun m => by first | (simp [entryFrame, mkF, argsToLocals, Value.category]; done) | rfl) ?_
  intro C hl hret hnm R
  subst hl
  have hvl : t < h.size := V_t.lt
  replace R := (((((R.iloadN (pc' := 1) d24_0 rfl rfl).ifN (pc' := 4) d24_1 (teq (by decide : (0 : Int32) = (0 : Int32))).2 rfl).iloadN (pc' := 5) d24_4 rfl rfl).aloadN (pc' := 6) (v := (.ref t)) d24_5 rfl rfl rfl).arraylength (pc' := 7) V_t d24_6 rfl).icmpN (pc' := 10) d24_7 (feq (by decide : ¬ ((1 : Int32) = (4 : Int32)))).1 rfl
  replace R := ((R.aloadN (pc' := 11) (v := (.ref t)) d24_10 rfl rfl rfl).iloadN (pc' := 12) d24_11 rfl rfl).iloadN (pc' := 13) d24_12 rfl rfl
  obtain ⟨_, h1, _, ⟨r1, k1, rfl, K1, V1, rfl⟩, R⟩ := R.callS (pc' := 16) (argsL := [(.ref t), (.int (0 : Int32)), (.int (1 : Int32))]) (rest := []) (W := 0) (w117 hw) (w118 hw) (w115 hw) (w119 hw) (by decide) (rm_crb0_1 C.l Z a0 hw h n0 Ds V_t) rfl (lenOf pd10 rfl) rfl rfl d24_13 (by decide) (by decide) (by decide) (by decide) rfl
  replace R := (R.mono (ce' := 1) (sl' := 1) (by decide) (by decide)).stk (S' := [(.ref r1)]) rfl
  have hK := ((Keep.refl h []).trans K1 all0)
  exact R.retA (Ds' := Ds) hret rfl rfl rfl d24_16 (by decide) (by decide) (fun _ q => q) ⟨r1, _, rfl, hK, V1, rfl⟩
theorem rm_ns0_1 (l : Launch) (Z : State) (a0 : Array Value) (hw : HW a0 Z) (h : Heap) (n0 : Nat) (Ds : List Addr) {x0 x1 x2 x3 : Int32} (hok : ∀ c ∈ ([x0, x1, x2, x3] : List Int32), ¬ c < 0 ∧ ¬ (255 : Int32) < c) {t : Addr} {kt : ClassId} (V_t : Arv Z h t kt .byte (4 : Int32) [(.int x0.toInt8.toInt32), (.int x1.toInt8.toInt32), (.int x2.toInt8.toInt32), (.int x3.toInt8.toInt32)] (.int 0)) :
    Ctr l Z (⟨"java/lang/StringLatin1", "newString", "([BII)Ljava/lang/String;"⟩ : MethodName) jdk_43_method_47_code 3 (some (.object "java/lang/String")) [] (rmo 3 2 5 112) #[.ref t, .int (0 : Int32), .int (1 : Int32)] h n0 Ds (fun v h' Ds' => ∃ r : Addr, v = some (.ref r) ∧ IsStr Z h' r [x0] ∧ Keep h h' [] ∧ Ds = Ds') := by
  refine ctr_of (Ls := #[.val (.ref t), .val (.int (0 : Int32)), .val (.int (1 : Int32))]) (plainFor_of_name pn2) (fun m => by first | (simp [entryFrame, mkF, argsToLocals, Value.category]; done) | rfl) ?_
  intro C hl hret hnm R
  subst hl
  replace R := (R.iloadN (pc' := 1) d16_0 rfl rfl).ifY (pc' := 7) d16_1 (feq (by decide : ¬ ((1 : Int32) = (0 : Int32)))).2 (by decide) rfl
  obtain ⟨h1, b1, g1, E1, X1, D1, R⟩ := R.newO (pc' := 10) (w112 hw) (w6 hw) (w7 hw) d16_7 (by decide) (by decide) rfl
  have F1_coder : Fld Z h1 b1 "java/lang/String" "coder" "B" (.int (0 : Int32)) := D1 (Or.inr (w31 hw)) (ty := .byte) (by decide)
  have F1_value : Fld Z h1 b1 "java/lang/String" "value" "[B" .null := D1 (Or.inr (w33 hw)) (ty := (.array .byte)) (by decide)
  replace R := (((((R.dup (pc' := 11) d16_10 rfl rfl).aloadN (pc' := 12) (v := (.ref t)) d16_11 rfl rfl rfl).iloadN (pc' := 13) d16_12 rfl rfl).iloadN (pc' := 14) d16_13 rfl rfl).iloadN (pc' := 15) d16_14 rfl rfl).iadd (pc' := 16) d16_15 rfl
  replace R := R.stk (S' := [(.int (1 : Int32)), (.int (0 : Int32)), (.ref t), (.ref b1), (.ref b1)]) rfl
  have K3 := ((Keep.refl h []).trans ((Keep.refl h []).ext E1) all0)
  have F4 := V_t.keep K3 nin0
  obtain ⟨_, h2, _, ⟨r2, k2, rfl, K2, V2, rfl⟩, R⟩ := R.callS (pc' := 19) (argsL := [(.ref t), (.int (0 : Int32)), (.int (1 : Int32))]) (rest := [(.ref b1), (.ref b1)]) (W := 2) (w113 hw) (w114 hw) (w115 hw) (w116 hw) (by decide) (rm_cr0_1 C.l Z a0 hw h1 n0 (b1 :: Ds) F4) rfl (lenOf pd10 rfl) rfl rfl d16_16 (by decide) (by decide) (by decide) (by decide) rfl
  replace R := ((R.mono (ce' := 2) (sl' := 5) (by decide) (by decide)).stk (S' := [(.ref r2), (.ref b1), (.ref b1)]) rfl).iconst (pc' := 20) (z := (0 : Int32)) d16_19 rfl rfl
  have K6 := ((Keep.refl h1 []).trans K2 all0)
  have F7 := X1.keep K6
  have nab : b1 ≠ r2 := Exa.neArv F7 V2 (w6 hw)
  have K8 := ((Keep.refl h1 []).trans K2 all0)
  have F9 := F1_value.keep K8 nin0
  have K10 := ((Keep.refl h1 []).trans K2 all0)
  have F11 := F1_coder.keep K10 nin0
  obtain ⟨_, h5, _, ⟨rfl, K5, X5, F5_v, F5_c, rfl⟩, R⟩ := R.callI (pc' := 23) (a := b1) (argsL := [(.ref r2), (.int (0 : Int32))]) (rest := [(.ref b1)]) (W := 1) rfl (w131 hw) (w132 hw) (w7 hw) (w133 hw) (by decide) (rm_bb C.l Z a0 hw b1 r2 h2 n0 (b1 :: Ds) (List.mem_of_getElem? (i := 0) rfl) F7 F9 F11) rfl (lenOf pd11 rfl) rfl rfl d16_20 (by decide) (by decide) (by decide) (by decide) rfl
  replace R := (R.mono (ce' := 2) (sl' := 5) (by decide) (by decide)).stk (S' := [(.ref b1)]) rfl
  have hK := ((((Keep.refl h []).trans ((Keep.refl h []).ext E1) all0).trans K2 all0).trans K5 (allS (Or.inr (by rw [g1]; exact (Nat.le_refl _))) all0))
  have K12 := ((Keep.refl h2 [b1]).trans K5 (allS (Or.inl (List.mem_of_getElem? (i := 0) rfl)) all0))
  have F13 := V2.keep K12 (ninS (Ne.symm nab) nin0)
  exact R.retA (Ds' := Ds) hret rfl rfl rfl d16_23 (by decide) (by decide) (fun _ q => (fun q => (List.mem_cons_of_mem _ q)) q) ⟨b1, rfl, ⟨X5, F5_c, (chS (hok x0 (List.mem_of_getElem? (i := 0) rfl)) ch0), Nat.le_of_ble_eq_true rfl, r2, _, F5_v, F13⟩, hK, rfl⟩
theorem rm_su0_1 (l : Launch) (Z : State) (a0 : Array Value) (hw : HW a0 Z) (a : Addr) (h : Heap) (n0 : Nat) (Ds : List Addr) (own_cs : CompactOn Z) (own_si : SiooOk Z) {x0 x1 x2 x3 : Int32} (S_a : IsStr Z h a [x0, x1, x2, x3]) :
    Ctr l Z (⟨"java/lang/String", "substring", "(II)Ljava/lang/String;"⟩ : MethodName) jdk_42_method_92_code 5 (some (.object "java/lang/String")) [] (rmo 4 2 7 126) #[.ref a, .int (0 : Int32), .int (1 : Int32)] h n0 Ds (fun v h' Ds' => ∃ r : Addr, v = some (.ref r) ∧ IsStr Z h' r [x0] ∧ Keep h h' [] ∧ Ds = Ds') := by
  refine ctr_of (Ls := #[.val (.ref a), .val (.int (0 : Int32)), .val (.int (1 : Int32)), .unset, .unset]) (plainFor_of_name pn0) (fun m => by first | (simp [entryFrame, mkF, argsToLocals, Value.category]; done) | rfl) ?_
  intro C hl hret hnm R
  subst hl
  have S_0 := S_a
  obtain ⟨e1, e2, e3, e4, t, kt, e5, e6⟩ := S_a
  have e7 : Arv Z h t kt .byte (4 : Int32) [(.int x0.toInt8.toInt32), (.int x1.toInt8.toInt32), (.int x2.toInt8.toInt32), (.int x3.toInt8.toInt32)] (.int 0) := e6
  have hok := e3
  have V_t := e7
  replace R := R.aloadN (pc' := 1) (v := (.ref a)) d10_0 rfl rfl rfl
  replace R := own_pure (R.callV (pc' := 4) (y := (⟨"java/lang/String", "length", "()I"⟩ : MethodName)) (z := (⟨"java/lang/String", "length", "()I"⟩ : MethodName)) (argsL := []) (rest := []) (W := 0) (w55 hw) (w56 hw) (fun s' hZ' => notFace_of_selects (args := #[]) (mvT hZ' (w58 hw))) (w58 hw) (w57 hw) (w7 hw) (w59 hw) (by decide) e1 (rm_length C.l Z a0 hw a h n0 Ds own_cs S_0) rfl (lenOf pd6 rfl) rfl rfl d10_1 (by decide) (by decide) (by decide) (by decide) rfl)
  replace R := (((R.istoreN (pc' := 5) (l' := #[.val (.ref a), .val (.int (0 : Int32)), .val (.int (1 : Int32)), .val (.int (4 : Int32)), .unset]) d10_4 rfl rfl).iloadN (pc' := 6) d10_5 rfl rfl).iloadN (pc' := 7) d10_6 rfl rfl).iloadN (pc' := 8) d10_7 rfl rfl
  replace R := own_pure0 (R.callS (pc' := 11) (argsL := [(.int (0 : Int32)), (.int (1 : Int32)), (.int (4 : Int32))]) (rest := []) (W := 0) (w65 hw) (w66 hw) (w7 hw) (w67 hw) (by decide) (rm_be0_1 C.l Z a0 hw h n0 Ds own_si) rfl (lenOf pd7 rfl) rfl rfl d10_8 (by decide) (by decide) (by decide) (by decide) rfl)
  replace R := (((((R.iloadN (pc' := 12) d10_11 rfl rfl).ifN (pc' := 15) d10_12 (teq (by decide : (0 : Int32) = (0 : Int32))).2 rfl).iloadN (pc' := 16) d10_15 rfl rfl).iloadN (pc' := 17) d10_16 rfl rfl).icmpY (pc' := 22) d10_17 (feq (by decide : ¬ ((1 : Int32) = (4 : Int32)))).2 (by decide) rfl).iloadN (pc' := 23) d10_22 rfl rfl
  replace R := ((((R.iloadN (pc' := 24) d10_23 rfl rfl).isub (pc' := 25) d10_24 rfl).stk (S' := [(.int (1 : Int32))]) rfl).istore (pc' := 27) (l' := #[.val (.ref a), .val (.int (0 : Int32)), .val (.int (1 : Int32)), .val (.int (4 : Int32)), .val (.int (1 : Int32))]) d10_25 rfl rfl).aloadN (pc' := 28) (v := (.ref a)) d10_27 rfl rfl rfl
  replace R := own_pure (R.callV (pc' := 31) (y := (⟨"java/lang/String", "isLatin1", "()Z"⟩ : MethodName)) (z := (⟨"java/lang/String", "isLatin1", "()Z"⟩ : MethodName)) (argsL := []) (rest := []) (W := 0) (w73 hw) (w74 hw) (fun s' hZ' => notFace_of_selects (args := #[]) (mvT hZ' (w76 hw))) (w76 hw) (w75 hw) (w7 hw) (w77 hw) (by decide) e1 (rm_isLatin1 C.l Z a0 hw a h n0 Ds own_cs e2) rfl (lenOf pd3 rfl) rfl rfl d10_28 (by decide) (by decide) (by decide) (by decide) rfl)
  replace R := ((((R.ifN (pc' := 34) d10_31 (feq (by decide : ¬ ((1 : Int32) = (0 : Int32)))).1 rfl).aloadN (pc' := 35) (v := (.ref a)) d10_34 rfl rfl rfl).getF (pc' := 38) (host := "") (Or.inl (w32 hw)) Via.refl e5 d10_35 rfl).iloadN (pc' := 39) d10_38 rfl rfl).iload (pc' := 41) d10_39 rfl rfl
  obtain ⟨_, h1, _, ⟨r1, rfl, S1, K1, rfl⟩, R⟩ := R.callS (pc' := 44) (argsL := [(.ref t), (.int (0 : Int32)), (.int (1 : Int32))]) (rest := []) (W := 0) (w78 hw) (w79 hw) (w80 hw) (w81 hw) (by decide) (rm_ns0_1 C.l Z a0 hw h n0 Ds hok e7) rfl (lenOf pd8 rfl) rfl rfl d10_41 (by decide) (by decide) (by decide) (by decide) rfl
  replace R := ((R.mono (ce' := 2) (sl' := 5) (by decide) (by decide)).stk (S' := [(.ref r1)]) rfl).goto (pc' := 57) d10_44 (by decide) rfl
  have hK : Keep h h1 [] := ((Keep.refl h []).trans K1 all0)
  exact R.retA (Ds' := Ds) hret rfl rfl rfl d10_57 (by decide) (by decide) (fun _ q => q) ⟨r1, rfl, S1, hK, rfl⟩
theorem rm_ft0_2 (l : Launch) (Z : State) (a0 : Array Value) (hw : HW a0 Z) (fm : Value) (h : Heap) (n0 : Nat) (Ds : List Addr) (hfm : fm.isRef = true) :
    Ctr l Z (⟨"jdk/internal/util/Preconditions", "checkFromToIndex", "(IIILjava/util/function/BiFunction;)I"⟩ : MethodName) jdk_41_method_12_code 4 (some .int) [] (rmo 0 0 0 0) #[.int (0 : Int32), .int (2 : Int32), .int (4 : Int32), fm] h n0 Ds (fun v h' Ds' => v = some (.int (0 : Int32)) ∧ h = h' ∧ Ds = Ds') := by
  refine ctr_of (Ls := #[.val (.int (0 : Int32)), .val (.int (2 : Int32)), .val (.int (4 : Int32)), .val fm]) (plainFor_of_name pn1) (fun mm => by rcases ref_cases hfm with rfl | ⟨_, rfl⟩ <;> first | (simp [entryFrame, mkF, argsToLocals, Value.category]; done) | rfl) ?_
  intro C hl hret hnm R
  subst hl
  replace R := (((((R.iloadN (pc' := 1) d14_0 rfl rfl).ifN (pc' := 4) d14_1 (flt (by decide : ¬ ((0 : Int32) < (0 : Int32)))).1 rfl).iloadN (pc' := 5) d14_4 rfl rfl).iloadN (pc' := 6) d14_5 rfl rfl).icmpN (pc' := 9) d14_6 (flt (by decide : ¬ ((2 : Int32) < (0 : Int32)))).2.2.1 rfl).iloadN (pc' := 10) d14_9 rfl rfl
  replace R := ((R.iloadN (pc' := 11) d14_10 rfl rfl).icmpY (pc' := 22) d14_11 (flt (by decide : ¬ ((4 : Int32) < (2 : Int32)))).2.2.2 (by decide) rfl).iloadN (pc' := 23) d14_22 rfl rfl
  exact R.retI (Ds' := Ds) hret d14_23 (by decide) (by decide) (fun _ q => q) ⟨rfl, rfl, rfl⟩
theorem rm_be0_2 (l : Launch) (Z : State) (a0 : Array Value) (hw : HW a0 Z) (h : Heap) (n0 : Nat) (Ds : List Addr) (own_si : SiooOk Z) :
    Ctr l Z (⟨"java/lang/String", "checkBoundsBeginEnd", "(III)V"⟩ : MethodName) jdk_42_method_158_code 3 none [] (rmo 1 0 0 15) #[.int (0 : Int32), .int (2 : Int32), .int (4 : Int32)] h n0 Ds (fun v h' Ds' => v = none ∧ h = h' ∧ Ds = Ds') := by
  refine ctr_of (Ls := #[.val (.int (0 : Int32)), .val (.int (2 : Int32)), .val (.int (4 : Int32))]) (plainFor_of_name pn0) (fun m => by first | (simp [entryFrame, mkF, argsToLocals, Value.category]; done) | rfl) ?_
  intro C hl hret hnm R
  subst hl
  obtain ⟨fm, S_fm, hfm⟩ := id own_si
  replace R := (((R.iloadN (pc' := 1) d13_0 rfl rfl).iloadN (pc' := 2) d13_1 rfl rfl).iloadN (pc' := 3) d13_2 rfl rfl).getS (pc' := 6) (host := "") (Or.inl (w68 hw)) Via.refl S_fm d13_3 rfl
  replace R := own_pure (R.callS (pc' := 9) (argsL := [(.int (0 : Int32)), (.int (2 : Int32)), (.int (4 : Int32)), fm]) (rest := []) (W := 0) (w70 hw) (w71 hw) (w69 hw) (w72 hw) (by decide) (rm_ft0_2 C.l Z a0 hw fm h n0 Ds hfm) rfl (lenOf pd5 rfl) rfl rfl d13_6 (by decide) (by decide) (by decide) (by decide) rfl)
  replace R := R.pop (pc' := 10) d13_9 rfl rfl
  exact R.retV (Ds' := Ds) hret d13_10 (by decide) (by decide) (fun _ q => q) ⟨rfl, rfl, rfl⟩
theorem rm_min4_2 (l : Launch) (Z : State) (a0 : Array Value) (hw : HW a0 Z) (h : Heap) (n0 : Nat) (Ds : List Addr) :
    Ctr l Z (⟨"java/lang/Math", "min", "(II)I"⟩ : MethodName) jdk_29_method_69_code 2 (some .int) [] (rmo 0 0 0 0) #[.int (4 : Int32), .int (2 : Int32)] h n0 Ds (fun v h' Ds' => v = some (.int (2 : Int32)) ∧ h = h' ∧ Ds = Ds') := by
  refine ctr_of (Ls := #[.val (.int (4 : Int32)), .val (.int (2 : Int32))]) (Jvm.Free.JP.mathPlain rfl (by decide +kernel)) (fun m => by first | (simp [entryFrame, mkF, argsToLocals, Value.category]; done) | rfl) ?_
  intro C hl hret hnm R
  subst hl
  replace R := (((R.iloadN (pc' := 1) d27_0 rfl rfl).iloadN (pc' := 2) d27_1 rfl rfl).icmpY (pc' := 9) d27_2 (tlt (by decide : (2 : Int32) < (4 : Int32))).2.2.1 (by decide) rfl).iloadN (pc' := 10) d27_9 rfl rfl
  exact R.retI (Ds' := Ds) hret d27_10 (by decide) (by decide) (fun _ q => q) ⟨rfl, rfl, rfl⟩
theorem rm_cl0_2 (l : Launch) (Z : State) (a0 : Array Value) (hw : HW a0 Z) (h : Heap) (n0 : Nat) (Ds : List Addr) :
    Ctr l Z (⟨"java/util/Arrays", "checkLength", "(II)V"⟩ : MethodName) jdk_65_method_131_code 2 none [] (rmo 0 0 0 0) #[.int (0 : Int32), .int (2 : Int32)] h n0 Ds (fun v h' Ds' => v = none ∧ h = h' ∧ Ds = Ds') := by
  refine ctr_of (Ls := #[.val (.int (0 : Int32)), .val (.int (2 : Int32))]) (plainFor_of_name pn3) (fun m => by first | (simp [entryFrame, mkF, argsToLocals, Value.category]; done) | rfl) ?_
  intro C hl hret hnm R
  subst hl
  replace R := ((R.iloadN (pc' := 1) d26_0 rfl rfl).iloadN (pc' := 2) d26_1 rfl rfl).icmpY (pc' := 37) d26_2 (flt (by decide : ¬ ((2 : Int32) < (0 : Int32)))).2.1 (by decide) rfl
  exact R.retV (Ds' := Ds) hret d26_37 (by decide) (by decide) (fun _ q => q) ⟨rfl, rfl, rfl⟩
theorem rm_crb0_2 (l : Launch) (Z : State) (a0 : Array Value) (hw : HW a0 Z) (h : Heap) (n0 : Nat) (Ds : List Addr) {x0 x1 x2 x3 : Int32} {t : Addr} {kt : ClassId} (V_t : Arv Z h t kt .byte (4 : Int32) [(.int x0.toInt8.toInt32), (.int x1.toInt8.toInt32), (.int x2.toInt8.toInt32), (.int x3.toInt8.toInt32)] (.int 0)) :
    Ctr l Z (⟨"java/util/Arrays", "copyOfRangeByte", "([BII)[B"⟩ : MethodName) jdk_65_method_133_code 5 (some (.array .byte)) [] (rmo 1 1 2 80) #[.ref t, .int (0 : Int32), .int (2 : Int32)] h n0 Ds (fun v h' Ds' => ∃ (r : Addr) (kr : ClassId), v = some (.ref r) ∧ Keep h h' [] ∧ Arv Z h' r kr .byte (2 : Int32) [(.int x0.toInt8.toInt32), (.int x1.toInt8.toInt32)] (.int 0) ∧ Ds = Ds') := by
  refine ctr_of (Ls := #[.val (.ref t), .val (.int (0 : Int32)), .val (.int (2 : Int32)), .unset, .unset]) (plainFor_of_name pn3) (fun m => by first | (simp [entryFrame, mkF, argsToLocals, Value.category]; done) | rfl) ?_
  intro C hl hret hnm R
  subst hl
  have hvl : t < h.size := V_t.lt
  replace R := (R.iloadN (pc' := 1) d25_0 rfl rfl).iloadN (pc' := 2) d25_1 rfl rfl
  replace R := own_pure0 (R.callS (pc' := 5) (argsL := [(.int (0 : Int32)), (.int (2 : Int32))]) (rest := []) (W := 0) (w120 hw) (w121 hw) (w115 hw) (w122 hw) (by decide) (rm_cl0_2 C.l Z a0 hw h n0 Ds) rfl (lenOf pd2 rfl) rfl rfl d25_2 (by decide) (by decide) (by decide) (by decide) rfl)
  replace R := (((((R.iloadN (pc' := 6) d25_5 rfl rfl).iloadN (pc' := 7) d25_6 rfl rfl).isub (pc' := 8) d25_7 rfl).stk (S' := [(.int (2 : Int32))]) rfl).istoreN (pc' := 9) (l' := #[.val (.ref t), .val (.int (0 : Int32)), .val (.int (2 : Int32)), .val (.int (2 : Int32)), .unset]) d25_8 rfl rfl).iloadN (pc' := 10) d25_9 rfl rfl
  obtain ⟨h1, b1, k1, g1, E1, V1, R⟩ := R.newP (pc' := 12) (aty := .byte) (cap := 2) (w23 hw) d25_10 (by decide) (by decide) (by decide) (by decide) (by decide) rfl
  have V1p : Arv Z h1 b1 k1 .byte (2 : Int32) [(.int (0 : Int32)), (.int (0 : Int32))] (.int (0 : Int32)) := V1.pad (pad_rep [] (.int (0 : Int32)) 2)
  replace R := (((((R.astore (pc' := 14) (l' := #[.val (.ref t), .val (.int (0 : Int32)), .val (.int (2 : Int32)), .val (.int (2 : Int32)), .val (.ref b1)]) d25_12 rfl rfl rfl).aloadN (pc' := 15) (v := (.ref t)) d25_14 rfl rfl rfl).iloadN (pc' := 16) d25_15 rfl rfl).aload (pc' := 18) (v := (.ref b1)) d25_16 rfl rfl rfl).iconst (pc' := 19) (z := (0 : Int32)) d25_18 rfl rfl).aloadN (pc' := 20) (v := (.ref t)) d25_19 rfl rfl rfl
  have K2 := ((Keep.refl h []).trans ((Keep.refl h []).ext E1) all0)
  have F3 := V_t.keep K2 nin0
  replace R := ((((R.arraylength (pc' := 21) F3 d25_20 rfl).iloadN (pc' := 22) d25_21 rfl rfl).isub (pc' := 23) d25_22 rfl).stk (S' := [(.int (4 : Int32)), (.int (0 : Int32)), (.ref b1), (.int (0 : Int32)), (.ref t)]) rfl).iloadN (pc' := 24) d25_23 rfl rfl
  replace R := own_pure (R.callS (pc' := 27) (argsL := [(.int (4 : Int32)), (.int (2 : Int32))]) (rest := [(.int (0 : Int32)), (.ref b1), (.int (0 : Int32)), (.ref t)]) (W := 4) (w123 hw) (w124 hw) (w125 hw) (w126 hw) (by decide) (rm_min4_2 C.l Z a0 hw h1 n0 (b1 :: Ds)) rfl (lenOf pd9 rfl) rfl rfl d25_24 (by decide) (by decide) (by decide) (by decide) rfl)
  have nvb : t ≠ b1 := fun e => by rw [e, g1] at hvl; exact Nat.lt_irrefl _ hvl
  obtain ⟨h4, K4, V4, R⟩ := R.copyB (pc' := 30) (W := 0) (nn := (2 : Int32)) (us := [(.int x0.toInt8.toInt32), (.int x1.toInt8.toInt32)]) (w127 hw) (w130 hw) (w128 hw) (w129 hw) F3 V1p rfl (by decide) (by decide) (by decide) (by decide) (by decide) rfl (Nat.le_of_ble_eq_true rfl) (List.mem_of_getElem? (i := 0) rfl) rfl d25_27 (by decide) rfl (by decide) rfl
  have V4p : Arv Z h4 b1 k1 .byte (2 : Int32) [(.int x0.toInt8.toInt32), (.int x1.toInt8.toInt32)] (.int (0 : Int32)) := V4
  replace R := R.aload (pc' := 32) (v := (.ref b1)) d25_30 rfl rfl rfl
  have hK := (((Keep.refl h []).trans ((Keep.refl h []).ext E1) all0).trans K4 (allS (Or.inr (by rw [g1]; exact (Nat.le_refl _))) all0))
  exact R.retA (Ds' := Ds) hret rfl rfl rfl d25_32 (by decide) (by decide) (fun _ q => (fun q => (List.mem_cons_of_mem _ q)) q) ⟨b1, _, rfl, hK, V4p, rfl⟩
theorem rm_cr0_2 (l : Launch) (Z : State) (a0 : Array Value) (hw : HW a0 Z) (h : Heap) (n0 : Nat) (Ds : List Addr) {x0 x1 x2 x3 : Int32} {t : Addr} {kt : ClassId} (V_t : Arv Z h t kt .byte (4 : Int32) [(.int x0.toInt8.toInt32), (.int x1.toInt8.toInt32), (.int x2.toInt8.toInt32), (.int x3.toInt8.toInt32)] (.int 0)) :
    Ctr l Z (⟨"java/util/Arrays", "copyOfRange", "([BII)[B"⟩ : MethodName) jdk_65_method_132_code 3 (some (.array .byte)) [] (rmo 2 1 2 96) #[.ref t, .int (0 : Int32), .int (2 : Int32)] h n0 Ds (fun v h' Ds' => ∃ (r : Addr) (kr : ClassId), v = some (.ref r) ∧ Keep h h' [] ∧ Arv Z h' r kr .byte (2 : Int32) [(.int x0.toInt8.toInt32), (.int x1.toInt8.toInt32)] (.int 0) ∧ Ds = Ds') := by
  refine ctr_of (Ls := #[.val (.ref t), .val (.int (0 : Int32)), .val (.int (2 : Int32))]) (plainFor_of_name pn3) (fun m => by first | (simp [entryFrame, mkF, argsToLocals, Value.category]; done) | rfl) ?_
  intro C hl hret hnm R
  subst hl
  have hvl : t < h.size := V_t.lt
  replace R := (((((R.iloadN (pc' := 1) d24_0 rfl rfl).ifN (pc' := 4) d24_1 (teq (by decide : (0 : Int32) = (0 : Int32))).2 rfl).iloadN (pc' := 5) d24_4 rfl rfl).aloadN (pc' := 6) (v := (.ref t)) d24_5 rfl rfl rfl).arraylength (pc' := 7) V_t d24_6 rfl).icmpN (pc' := 10) d24_7 (feq (by decide : ¬ ((2 : Int32) = (4 : Int32)))).1 rfl
  replace R := ((R.aloadN (pc' := 11) (v := (.ref t)) d24_10 rfl rfl rfl).iloadN (pc' := 12) d24_11 rfl rfl).iloadN (pc' := 13) d24_12 rfl rfl
  obtain ⟨_, h1, _, ⟨r1, k1, rfl, K1, V1, rfl⟩, R⟩ := R.callS (pc' := 16) (argsL := [(.ref t), (.int (0 : Int32)), (.int (2 : Int32))]) (rest := []) (W := 0) (w117 hw) (w118 hw) (w115 hw) (w119 hw) (by decide) (rm_crb0_2 C.l Z a0 hw h n0 Ds V_t) rfl (lenOf pd10 rfl) rfl rfl d24_13 (by decide) (by decide) (by decide) (by decide) rfl
  replace R := (R.mono (ce' := 1) (sl' := 2) (by decide) (by decide)).stk (S' := [(.ref r1)]) rfl
  have hK := ((Keep.refl h []).trans K1 all0)
  exact R.retA (Ds' := Ds) hret rfl rfl rfl d24_16 (by decide) (by decide) (fun _ q => q) ⟨r1, _, rfl, hK, V1, rfl⟩
theorem rm_ns0_2 (l : Launch) (Z : State) (a0 : Array Value) (hw : HW a0 Z) (h : Heap) (n0 : Nat) (Ds : List Addr) {x0 x1 x2 x3 : Int32} (hok : ∀ c ∈ ([x0, x1, x2, x3] : List Int32), ¬ c < 0 ∧ ¬ (255 : Int32) < c) {t : Addr} {kt : ClassId} (V_t : Arv Z h t kt .byte (4 : Int32) [(.int x0.toInt8.toInt32), (.int x1.toInt8.toInt32), (.int x2.toInt8.toInt32), (.int x3.toInt8.toInt32)] (.int 0)) :
    Ctr l Z (⟨"java/lang/StringLatin1", "newString", "([BII)Ljava/lang/String;"⟩ : MethodName) jdk_43_method_47_code 3 (some (.object "java/lang/String")) [] (rmo 3 2 6 112) #[.ref t, .int (0 : Int32), .int (2 : Int32)] h n0 Ds (fun v h' Ds' => ∃ r : Addr, v = some (.ref r) ∧ IsStr Z h' r [x0, x1] ∧ Keep h h' [] ∧ Ds = Ds') := by
  refine ctr_of (Ls := #[.val (.ref t), .val (.int (0 : Int32)), .val (.int (2 : Int32))]) (plainFor_of_name pn2) (fun m => by first | (simp [entryFrame, mkF, argsToLocals, Value.category]; done) | rfl) ?_
  intro C hl hret hnm R
  subst hl
  replace R := (R.iloadN (pc' := 1) d16_0 rfl rfl).ifY (pc' := 7) d16_1 (feq (by decide : ¬ ((2 : Int32) = (0 : Int32)))).2 (by decide) rfl
  obtain ⟨h1, b1, g1, E1, X1, D1, R⟩ := R.newO (pc' := 10) (w112 hw) (w6 hw) (w7 hw) d16_7 (by decide) (by decide) rfl
  have F1_coder : Fld Z h1 b1 "java/lang/String" "coder" "B" (.int (0 : Int32)) := D1 (Or.inr (w31 hw)) (ty := .byte) (by decide)
  have F1_value : Fld Z h1 b1 "java/lang/String" "value" "[B" .null := D1 (Or.inr (w33 hw)) (ty := (.array .byte)) (by decide)
  replace R := (((((R.dup (pc' := 11) d16_10 rfl rfl).aloadN (pc' := 12) (v := (.ref t)) d16_11 rfl rfl rfl).iloadN (pc' := 13) d16_12 rfl rfl).iloadN (pc' := 14) d16_13 rfl rfl).iloadN (pc' := 15) d16_14 rfl rfl).iadd (pc' := 16) d16_15 rfl
  replace R := R.stk (S' := [(.int (2 : Int32)), (.int (0 : Int32)), (.ref t), (.ref b1), (.ref b1)]) rfl
  have K3 := ((Keep.refl h []).trans ((Keep.refl h []).ext E1) all0)
  have F4 := V_t.keep K3 nin0
  obtain ⟨_, h2, _, ⟨r2, k2, rfl, K2, V2, rfl⟩, R⟩ := R.callS (pc' := 19) (argsL := [(.ref t), (.int (0 : Int32)), (.int (2 : Int32))]) (rest := [(.ref b1), (.ref b1)]) (W := 2) (w113 hw) (w114 hw) (w115 hw) (w116 hw) (by decide) (rm_cr0_2 C.l Z a0 hw h1 n0 (b1 :: Ds) F4) rfl (lenOf pd10 rfl) rfl rfl d16_16 (by decide) (by decide) (by decide) (by decide) rfl
  replace R := ((R.mono (ce' := 2) (sl' := 6) (by decide) (by decide)).stk (S' := [(.ref r2), (.ref b1), (.ref b1)]) rfl).iconst (pc' := 20) (z := (0 : Int32)) d16_19 rfl rfl
  have K6 := ((Keep.refl h1 []).trans K2 all0)
  have F7 := X1.keep K6
  have nab : b1 ≠ r2 := Exa.neArv F7 V2 (w6 hw)
  have K8 := ((Keep.refl h1 []).trans K2 all0)
  have F9 := F1_value.keep K8 nin0
  have K10 := ((Keep.refl h1 []).trans K2 all0)
  have F11 := F1_coder.keep K10 nin0
  obtain ⟨_, h5, _, ⟨rfl, K5, X5, F5_v, F5_c, rfl⟩, R⟩ := R.callI (pc' := 23) (a := b1) (argsL := [(.ref r2), (.int (0 : Int32))]) (rest := [(.ref b1)]) (W := 1) rfl (w131 hw) (w132 hw) (w7 hw) (w133 hw) (by decide) (rm_bb C.l Z a0 hw b1 r2 h2 n0 (b1 :: Ds) (List.mem_of_getElem? (i := 0) rfl) F7 F9 F11) rfl (lenOf pd11 rfl) rfl rfl d16_20 (by decide) (by decide) (by decide) (by decide) rfl
  replace R := (R.mono (ce' := 2) (sl' := 6) (by decide) (by decide)).stk (S' := [(.ref b1)]) rfl
  have hK := ((((Keep.refl h []).trans ((Keep.refl h []).ext E1) all0).trans K2 all0).trans K5 (allS (Or.inr (by rw [g1]; exact (Nat.le_refl _))) all0))
  have K12 := ((Keep.refl h2 [b1]).trans K5 (allS (Or.inl (List.mem_of_getElem? (i := 0) rfl)) all0))
  have F13 := V2.keep K12 (ninS (Ne.symm nab) nin0)
  exact R.retA (Ds' := Ds) hret rfl rfl rfl d16_23 (by decide) (by decide) (fun _ q => (fun q => (List.mem_cons_of_mem _ q)) q) ⟨b1, rfl, ⟨X5, F5_c, (chS (hok x0 (List.mem_of_getElem? (i := 0) rfl)) (chS (hok x1 (List.mem_of_getElem? (i := 1) rfl)) ch0)), Nat.le_of_ble_eq_true rfl, r2, _, F5_v, F13⟩, hK, rfl⟩
theorem rm_su0_2 (l : Launch) (Z : State) (a0 : Array Value) (hw : HW a0 Z) (a : Addr) (h : Heap) (n0 : Nat) (Ds : List Addr) (own_cs : CompactOn Z) (own_si : SiooOk Z) {x0 x1 x2 x3 : Int32} (S_a : IsStr Z h a [x0, x1, x2, x3]) :
    Ctr l Z (⟨"java/lang/String", "substring", "(II)Ljava/lang/String;"⟩ : MethodName) jdk_42_method_92_code 5 (some (.object "java/lang/String")) [] (rmo 4 2 7 126) #[.ref a, .int (0 : Int32), .int (2 : Int32)] h n0 Ds (fun v h' Ds' => ∃ r : Addr, v = some (.ref r) ∧ IsStr Z h' r [x0, x1] ∧ Keep h h' [] ∧ Ds = Ds') := by
  refine ctr_of (Ls := #[.val (.ref a), .val (.int (0 : Int32)), .val (.int (2 : Int32)), .unset, .unset]) (plainFor_of_name pn0) (fun m => by first | (simp [entryFrame, mkF, argsToLocals, Value.category]; done) | rfl) ?_
  intro C hl hret hnm R
  subst hl
  have S_0 := S_a
  obtain ⟨e1, e2, e3, e4, t, kt, e5, e6⟩ := S_a
  have e7 : Arv Z h t kt .byte (4 : Int32) [(.int x0.toInt8.toInt32), (.int x1.toInt8.toInt32), (.int x2.toInt8.toInt32), (.int x3.toInt8.toInt32)] (.int 0) := e6
  have hok := e3
  have V_t := e7
  replace R := R.aloadN (pc' := 1) (v := (.ref a)) d10_0 rfl rfl rfl
  replace R := own_pure (R.callV (pc' := 4) (y := (⟨"java/lang/String", "length", "()I"⟩ : MethodName)) (z := (⟨"java/lang/String", "length", "()I"⟩ : MethodName)) (argsL := []) (rest := []) (W := 0) (w55 hw) (w56 hw) (fun s' hZ' => notFace_of_selects (args := #[]) (mvT hZ' (w58 hw))) (w58 hw) (w57 hw) (w7 hw) (w59 hw) (by decide) e1 (rm_length C.l Z a0 hw a h n0 Ds own_cs S_0) rfl (lenOf pd6 rfl) rfl rfl d10_1 (by decide) (by decide) (by decide) (by decide) rfl)
  replace R := (((R.istoreN (pc' := 5) (l' := #[.val (.ref a), .val (.int (0 : Int32)), .val (.int (2 : Int32)), .val (.int (4 : Int32)), .unset]) d10_4 rfl rfl).iloadN (pc' := 6) d10_5 rfl rfl).iloadN (pc' := 7) d10_6 rfl rfl).iloadN (pc' := 8) d10_7 rfl rfl
  replace R := own_pure0 (R.callS (pc' := 11) (argsL := [(.int (0 : Int32)), (.int (2 : Int32)), (.int (4 : Int32))]) (rest := []) (W := 0) (w65 hw) (w66 hw) (w7 hw) (w67 hw) (by decide) (rm_be0_2 C.l Z a0 hw h n0 Ds own_si) rfl (lenOf pd7 rfl) rfl rfl d10_8 (by decide) (by decide) (by decide) (by decide) rfl)
  replace R := (((((R.iloadN (pc' := 12) d10_11 rfl rfl).ifN (pc' := 15) d10_12 (teq (by decide : (0 : Int32) = (0 : Int32))).2 rfl).iloadN (pc' := 16) d10_15 rfl rfl).iloadN (pc' := 17) d10_16 rfl rfl).icmpY (pc' := 22) d10_17 (feq (by decide : ¬ ((2 : Int32) = (4 : Int32)))).2 (by decide) rfl).iloadN (pc' := 23) d10_22 rfl rfl
  replace R := ((((R.iloadN (pc' := 24) d10_23 rfl rfl).isub (pc' := 25) d10_24 rfl).stk (S' := [(.int (2 : Int32))]) rfl).istore (pc' := 27) (l' := #[.val (.ref a), .val (.int (0 : Int32)), .val (.int (2 : Int32)), .val (.int (4 : Int32)), .val (.int (2 : Int32))]) d10_25 rfl rfl).aloadN (pc' := 28) (v := (.ref a)) d10_27 rfl rfl rfl
  replace R := own_pure (R.callV (pc' := 31) (y := (⟨"java/lang/String", "isLatin1", "()Z"⟩ : MethodName)) (z := (⟨"java/lang/String", "isLatin1", "()Z"⟩ : MethodName)) (argsL := []) (rest := []) (W := 0) (w73 hw) (w74 hw) (fun s' hZ' => notFace_of_selects (args := #[]) (mvT hZ' (w76 hw))) (w76 hw) (w75 hw) (w7 hw) (w77 hw) (by decide) e1 (rm_isLatin1 C.l Z a0 hw a h n0 Ds own_cs e2) rfl (lenOf pd3 rfl) rfl rfl d10_28 (by decide) (by decide) (by decide) (by decide) rfl)
  replace R := ((((R.ifN (pc' := 34) d10_31 (feq (by decide : ¬ ((1 : Int32) = (0 : Int32)))).1 rfl).aloadN (pc' := 35) (v := (.ref a)) d10_34 rfl rfl rfl).getF (pc' := 38) (host := "") (Or.inl (w32 hw)) Via.refl e5 d10_35 rfl).iloadN (pc' := 39) d10_38 rfl rfl).iload (pc' := 41) d10_39 rfl rfl
  obtain ⟨_, h1, _, ⟨r1, rfl, S1, K1, rfl⟩, R⟩ := R.callS (pc' := 44) (argsL := [(.ref t), (.int (0 : Int32)), (.int (2 : Int32))]) (rest := []) (W := 0) (w78 hw) (w79 hw) (w80 hw) (w81 hw) (by decide) (rm_ns0_2 C.l Z a0 hw h n0 Ds hok e7) rfl (lenOf pd8 rfl) rfl rfl d10_41 (by decide) (by decide) (by decide) (by decide) rfl
  replace R := ((R.mono (ce' := 2) (sl' := 6) (by decide) (by decide)).stk (S' := [(.ref r1)]) rfl).goto (pc' := 57) d10_44 (by decide) rfl
  have hK : Keep h h1 [] := ((Keep.refl h []).trans K1 all0)
  exact R.retA (Ds' := Ds) hret rfl rfl rfl d10_57 (by decide) (by decide) (fun _ q => q) ⟨r1, rfl, S1, hK, rfl⟩
theorem rm_ft0_3 (l : Launch) (Z : State) (a0 : Array Value) (hw : HW a0 Z) (fm : Value) (h : Heap) (n0 : Nat) (Ds : List Addr) (hfm : fm.isRef = true) :
    Ctr l Z (⟨"jdk/internal/util/Preconditions", "checkFromToIndex", "(IIILjava/util/function/BiFunction;)I"⟩ : MethodName) jdk_41_method_12_code 4 (some .int) [] (rmo 0 0 0 0) #[.int (0 : Int32), .int (3 : Int32), .int (4 : Int32), fm] h n0 Ds (fun v h' Ds' => v = some (.int (0 : Int32)) ∧ h = h' ∧ Ds = Ds') := by
  refine ctr_of (Ls := #[.val (.int (0 : Int32)), .val (.int (3 : Int32)), .val (.int (4 : Int32)), .val fm]) (plainFor_of_name pn1) (fun mm => by rcases ref_cases hfm with rfl | ⟨_, rfl⟩ <;> first | (simp [entryFrame, mkF, argsToLocals, Value.category]; done) | rfl) ?_
  intro C hl hret hnm R
  subst hl
  replace R := (((((R.iloadN (pc' := 1) d14_0 rfl rfl).ifN (pc' := 4) d14_1 (flt (by decide : ¬ ((0 : Int32) < (0 : Int32)))).1 rfl).iloadN (pc' := 5) d14_4 rfl rfl).iloadN (pc' := 6) d14_5 rfl rfl).icmpN (pc' := 9) d14_6 (flt (by decide : ¬ ((3 : Int32) < (0 : Int32)))).2.2.1 rfl).iloadN (pc' := 10) d14_9 rfl rfl
  replace R := ((R.iloadN (pc' := 11) d14_10 rfl rfl).icmpY (pc' := 22) d14_11 (flt (by decide : ¬ ((4 : Int32) < (3 : Int32)))).2.2.2 (by decide) rfl).iloadN (pc' := 23) d14_22 rfl rfl
  exact R.retI (Ds' := Ds) hret d14_23 (by decide) (by decide) (fun _ q => q) ⟨rfl, rfl, rfl⟩
theorem rm_be0_3 (l : Launch) (Z : State) (a0 : Array Value) (hw : HW a0 Z) (h : Heap) (n0 : Nat) (Ds : List Addr) (own_si : SiooOk Z) :
    Ctr l Z (⟨"java/lang/String", "checkBoundsBeginEnd", "(III)V"⟩ : MethodName) jdk_42_method_158_code 3 none [] (rmo 1 0 0 15) #[.int (0 : Int32), .int (3 : Int32), .int (4 : Int32)] h n0 Ds (fun v h' Ds' => v = none ∧ h = h' ∧ Ds = Ds') := by
  refine ctr_of (Ls := #[.val (.int (0 : Int32)), .val (.int (3 : Int32)), .val (.int (4 : Int32))]) (plainFor_of_name pn0) (fun m => by first | (simp [entryFrame, mkF, argsToLocals, Value.category]; done) | rfl) ?_
  intro C hl hret hnm R
  subst hl
  obtain ⟨fm, S_fm, hfm⟩ := id own_si
  replace R := (((R.iloadN (pc' := 1) d13_0 rfl rfl).iloadN (pc' := 2) d13_1 rfl rfl).iloadN (pc' := 3) d13_2 rfl rfl).getS (pc' := 6) (host := "") (Or.inl (w68 hw)) Via.refl S_fm d13_3 rfl
  replace R := own_pure (R.callS (pc' := 9) (argsL := [(.int (0 : Int32)), (.int (3 : Int32)), (.int (4 : Int32)), fm]) (rest := []) (W := 0) (w70 hw) (w71 hw) (w69 hw) (w72 hw) (by decide) (rm_ft0_3 C.l Z a0 hw fm h n0 Ds hfm) rfl (lenOf pd5 rfl) rfl rfl d13_6 (by decide) (by decide) (by decide) (by decide) rfl)
  replace R := R.pop (pc' := 10) d13_9 rfl rfl
  exact R.retV (Ds' := Ds) hret d13_10 (by decide) (by decide) (fun _ q => q) ⟨rfl, rfl, rfl⟩
theorem rm_min4_3 (l : Launch) (Z : State) (a0 : Array Value) (hw : HW a0 Z) (h : Heap) (n0 : Nat) (Ds : List Addr) :
    Ctr l Z (⟨"java/lang/Math", "min", "(II)I"⟩ : MethodName) jdk_29_method_69_code 2 (some .int) [] (rmo 0 0 0 0) #[.int (4 : Int32), .int (3 : Int32)] h n0 Ds (fun v h' Ds' => v = some (.int (3 : Int32)) ∧ h = h' ∧ Ds = Ds') := by
  refine ctr_of (Ls := #[.val (.int (4 : Int32)), .val (.int (3 : Int32))]) (Jvm.Free.JP.mathPlain rfl (by decide +kernel)) (fun m => by first | (simp [entryFrame, mkF, argsToLocals, Value.category]; done) | rfl) ?_
  intro C hl hret hnm R
  subst hl
  replace R := (((R.iloadN (pc' := 1) d27_0 rfl rfl).iloadN (pc' := 2) d27_1 rfl rfl).icmpY (pc' := 9) d27_2 (tlt (by decide : (3 : Int32) < (4 : Int32))).2.2.1 (by decide) rfl).iloadN (pc' := 10) d27_9 rfl rfl
  exact R.retI (Ds' := Ds) hret d27_10 (by decide) (by decide) (fun _ q => q) ⟨rfl, rfl, rfl⟩
theorem rm_cl0_3 (l : Launch) (Z : State) (a0 : Array Value) (hw : HW a0 Z) (h : Heap) (n0 : Nat) (Ds : List Addr) :
    Ctr l Z (⟨"java/util/Arrays", "checkLength", "(II)V"⟩ : MethodName) jdk_65_method_131_code 2 none [] (rmo 0 0 0 0) #[.int (0 : Int32), .int (3 : Int32)] h n0 Ds (fun v h' Ds' => v = none ∧ h = h' ∧ Ds = Ds') := by
  refine ctr_of (Ls := #[.val (.int (0 : Int32)), .val (.int (3 : Int32))]) (plainFor_of_name pn3) (fun m => by first | (simp [entryFrame, mkF, argsToLocals, Value.category]; done) | rfl) ?_
  intro C hl hret hnm R
  subst hl
  replace R := ((R.iloadN (pc' := 1) d26_0 rfl rfl).iloadN (pc' := 2) d26_1 rfl rfl).icmpY (pc' := 37) d26_2 (flt (by decide : ¬ ((3 : Int32) < (0 : Int32)))).2.1 (by decide) rfl
  exact R.retV (Ds' := Ds) hret d26_37 (by decide) (by decide) (fun _ q => q) ⟨rfl, rfl, rfl⟩
theorem rm_crb0_3 (l : Launch) (Z : State) (a0 : Array Value) (hw : HW a0 Z) (h : Heap) (n0 : Nat) (Ds : List Addr) {x0 x1 x2 x3 : Int32} {t : Addr} {kt : ClassId} (V_t : Arv Z h t kt .byte (4 : Int32) [(.int x0.toInt8.toInt32), (.int x1.toInt8.toInt32), (.int x2.toInt8.toInt32), (.int x3.toInt8.toInt32)] (.int 0)) :
    Ctr l Z (⟨"java/util/Arrays", "copyOfRangeByte", "([BII)[B"⟩ : MethodName) jdk_65_method_133_code 5 (some (.array .byte)) [] (rmo 1 1 3 80) #[.ref t, .int (0 : Int32), .int (3 : Int32)] h n0 Ds (fun v h' Ds' => ∃ (r : Addr) (kr : ClassId), v = some (.ref r) ∧ Keep h h' [] ∧ Arv Z h' r kr .byte (3 : Int32) [(.int x0.toInt8.toInt32), (.int x1.toInt8.toInt32), (.int x2.toInt8.toInt32)] (.int 0) ∧ Ds = Ds') := by
  refine ctr_of (Ls := #[.val (.ref t), .val (.int (0 : Int32)), .val (.int (3 : Int32)), .unset, .unset]) (plainFor_of_name pn3) (fun m => by first | (simp [entryFrame, mkF, argsToLocals, Value.category]; done) | rfl) ?_
  intro C hl hret hnm R
  subst hl
  have hvl : t < h.size := V_t.lt
  replace R := (R.iloadN (pc' := 1) d25_0 rfl rfl).iloadN (pc' := 2) d25_1 rfl rfl
  replace R := own_pure0 (R.callS (pc' := 5) (argsL := [(.int (0 : Int32)), (.int (3 : Int32))]) (rest := []) (W := 0) (w120 hw) (w121 hw) (w115 hw) (w122 hw) (by decide) (rm_cl0_3 C.l Z a0 hw h n0 Ds) rfl (lenOf pd2 rfl) rfl rfl d25_2 (by decide) (by decide) (by decide) (by decide) rfl)
  replace R := (((((R.iloadN (pc' := 6) d25_5 rfl rfl).iloadN (pc' := 7) d25_6 rfl rfl).isub (pc' := 8) d25_7 rfl).stk (S' := [(.int (3 : Int32))]) rfl).istoreN (pc' := 9) (l' := #[.val (.ref t), .val (.int (0 : Int32)), .val (.int (3 : Int32)), .val (.int (3 : Int32)), .unset]) d25_8 rfl rfl).iloadN (pc' := 10) d25_9 rfl rfl
  obtain ⟨h1, b1, k1, g1, E1, V1, R⟩ := R.newP (pc' := 12) (aty := .byte) (cap := 3) (w23 hw) d25_10 (by decide) (by decide) (by decide) (by decide) (by decide) rfl
  have V1p : Arv Z h1 b1 k1 .byte (3 : Int32) [(.int (0 : Int32)), (.int (0 : Int32)), (.int (0 : Int32))] (.int (0 : Int32)) := V1.pad (pad_rep [] (.int (0 : Int32)) 3)
  replace R := (((((R.astore (pc' := 14) (l' := #[.val (.ref t), .val (.int (0 : Int32)), .val (.int (3 : Int32)), .val (.int (3 : Int32)), .val (.ref b1)]) d25_12 rfl rfl rfl).aloadN (pc' := 15) (v := (.ref t)) d25_14 rfl rfl rfl).iloadN (pc' := 16) d25_15 rfl rfl).aload (pc' := 18) (v := (.ref b1)) d25_16 rfl rfl rfl).iconst (pc' := 19) (z := (0 : Int32)) d25_18 rfl rfl).aloadN (pc' := 20) (v := (.ref t)) d25_19 rfl rfl rfl
  have K2 := ((Keep.refl h []).trans ((Keep.refl h []).ext E1) all0)
  have F3 := V_t.keep K2 nin0
  replace R := ((((R.arraylength (pc' := 21) F3 d25_20 rfl).iloadN (pc' := 22) d25_21 rfl rfl).isub (pc' := 23) d25_22 rfl).stk (S' := [(.int (4 : Int32)), (.int (0 : Int32)), (.ref b1), (.int (0 : Int32)), (.ref t)]) rfl).iloadN (pc' := 24) d25_23 rfl rfl
  replace R := own_pure (R.callS (pc' := 27) (argsL := [(.int (4 : Int32)), (.int (3 : Int32))]) (rest := [(.int (0 : Int32)), (.ref b1), (.int (0 : Int32)), (.ref t)]) (W := 4) (w123 hw) (w124 hw) (w125 hw) (w126 hw) (by decide) (rm_min4_3 C.l Z a0 hw h1 n0 (b1 :: Ds)) rfl (lenOf pd9 rfl) rfl rfl d25_24 (by decide) (by decide) (by decide) (by decide) rfl)
  have nvb : t ≠ b1 := fun e => by rw [e, g1] at hvl; exact Nat.lt_irrefl _ hvl
  obtain ⟨h4, K4, V4, R⟩ := R.copyB (pc' := 30) (W := 0) (nn := (3 : Int32)) (us := [(.int x0.toInt8.toInt32), (.int x1.toInt8.toInt32), (.int x2.toInt8.toInt32)]) (w127 hw) (w130 hw) (w128 hw) (w129 hw) F3 V1p rfl (by decide) (by decide) (by decide) (by decide) (by decide) rfl (Nat.le_of_ble_eq_true rfl) (List.mem_of_getElem? (i := 0) rfl) rfl d25_27 (by decide) rfl (by decide) rfl
  have V4p : Arv Z h4 b1 k1 .byte (3 : Int32) [(.int x0.toInt8.toInt32), (.int x1.toInt8.toInt32), (.int x2.toInt8.toInt32)] (.int (0 : Int32)) := V4
  replace R := R.aload (pc' := 32) (v := (.ref b1)) d25_30 rfl rfl rfl
  have hK := (((Keep.refl h []).trans ((Keep.refl h []).ext E1) all0).trans K4 (allS (Or.inr (by rw [g1]; exact (Nat.le_refl _))) all0))
  exact R.retA (Ds' := Ds) hret rfl rfl rfl d25_32 (by decide) (by decide) (fun _ q => (fun q => (List.mem_cons_of_mem _ q)) q) ⟨b1, _, rfl, hK, V4p, rfl⟩
theorem rm_cr0_3 (l : Launch) (Z : State) (a0 : Array Value) (hw : HW a0 Z) (h : Heap) (n0 : Nat) (Ds : List Addr) {x0 x1 x2 x3 : Int32} {t : Addr} {kt : ClassId} (V_t : Arv Z h t kt .byte (4 : Int32) [(.int x0.toInt8.toInt32), (.int x1.toInt8.toInt32), (.int x2.toInt8.toInt32), (.int x3.toInt8.toInt32)] (.int 0)) :
    Ctr l Z (⟨"java/util/Arrays", "copyOfRange", "([BII)[B"⟩ : MethodName) jdk_65_method_132_code 3 (some (.array .byte)) [] (rmo 2 1 3 96) #[.ref t, .int (0 : Int32), .int (3 : Int32)] h n0 Ds (fun v h' Ds' => ∃ (r : Addr) (kr : ClassId), v = some (.ref r) ∧ Keep h h' [] ∧ Arv Z h' r kr .byte (3 : Int32) [(.int x0.toInt8.toInt32), (.int x1.toInt8.toInt32), (.int x2.toInt8.toInt32)] (.int 0) ∧ Ds = Ds') := by
  refine ctr_of (Ls := #[.val (.ref t), .val (.int (0 : Int32)), .val (.int (3 : Int32))]) (plainFor_of_name pn3) (fun m => by first | (simp [entryFrame, mkF, argsToLocals, Value.category]; done) | rfl) ?_
  intro C hl hret hnm R
  subst hl
  have hvl : t < h.size := V_t.lt
  replace R := (((((R.iloadN (pc' := 1) d24_0 rfl rfl).ifN (pc' := 4) d24_1 (teq (by decide : (0 : Int32) = (0 : Int32))).2 rfl).iloadN (pc' := 5) d24_4 rfl rfl).aloadN (pc' := 6) (v := (.ref t)) d24_5 rfl rfl rfl).arraylength (pc' := 7) V_t d24_6 rfl).icmpN (pc' := 10) d24_7 (feq (by decide : ¬ ((3 : Int32) = (4 : Int32)))).1 rfl
  replace R := ((R.aloadN (pc' := 11) (v := (.ref t)) d24_10 rfl rfl rfl).iloadN (pc' := 12) d24_11 rfl rfl).iloadN (pc' := 13) d24_12 rfl rfl
  obtain ⟨_, h1, _, ⟨r1, k1, rfl, K1, V1, rfl⟩, R⟩ := R.callS (pc' := 16) (argsL := [(.ref t), (.int (0 : Int32)), (.int (3 : Int32))]) (rest := []) (W := 0) (w117 hw) (w118 hw) (w115 hw) (w119 hw) (by decide) (rm_crb0_3 C.l Z a0 hw h n0 Ds V_t) rfl (lenOf pd10 rfl) rfl rfl d24_13 (by decide) (by decide) (by decide) (by decide) rfl
  replace R := (R.mono (ce' := 1) (sl' := 3) (by decide) (by decide)).stk (S' := [(.ref r1)]) rfl
  have hK := ((Keep.refl h []).trans K1 all0)
  exact R.retA (Ds' := Ds) hret rfl rfl rfl d24_16 (by decide) (by decide) (fun _ q => q) ⟨r1, _, rfl, hK, V1, rfl⟩
theorem rm_ns0_3 (l : Launch) (Z : State) (a0 : Array Value) (hw : HW a0 Z) (h : Heap) (n0 : Nat) (Ds : List Addr) {x0 x1 x2 x3 : Int32} (hok : ∀ c ∈ ([x0, x1, x2, x3] : List Int32), ¬ c < 0 ∧ ¬ (255 : Int32) < c) {t : Addr} {kt : ClassId} (V_t : Arv Z h t kt .byte (4 : Int32) [(.int x0.toInt8.toInt32), (.int x1.toInt8.toInt32), (.int x2.toInt8.toInt32), (.int x3.toInt8.toInt32)] (.int 0)) :
    Ctr l Z (⟨"java/lang/StringLatin1", "newString", "([BII)Ljava/lang/String;"⟩ : MethodName) jdk_43_method_47_code 3 (some (.object "java/lang/String")) [] (rmo 3 2 7 112) #[.ref t, .int (0 : Int32), .int (3 : Int32)] h n0 Ds (fun v h' Ds' => ∃ r : Addr, v = some (.ref r) ∧ IsStr Z h' r [x0, x1, x2] ∧ Keep h h' [] ∧ Ds = Ds') := by
  refine ctr_of (Ls := #[.val (.ref t), .val (.int (0 : Int32)), .val (.int (3 : Int32))]) (plainFor_of_name pn2) (fun m => by first | (simp [entryFrame, mkF, argsToLocals, Value.category]; done) | rfl) ?_
  intro C hl hret hnm R
  subst hl
  replace R := (R.iloadN (pc' := 1) d16_0 rfl rfl).ifY (pc' := 7) d16_1 (feq (by decide : ¬ ((3 : Int32) = (0 : Int32)))).2 (by decide) rfl
  obtain ⟨h1, b1, g1, E1, X1, D1, R⟩ := R.newO (pc' := 10) (w112 hw) (w6 hw) (w7 hw) d16_7 (by decide) (by decide) rfl
  have F1_coder : Fld Z h1 b1 "java/lang/String" "coder" "B" (.int (0 : Int32)) := D1 (Or.inr (w31 hw)) (ty := .byte) (by decide)
  have F1_value : Fld Z h1 b1 "java/lang/String" "value" "[B" .null := D1 (Or.inr (w33 hw)) (ty := (.array .byte)) (by decide)
  replace R := (((((R.dup (pc' := 11) d16_10 rfl rfl).aloadN (pc' := 12) (v := (.ref t)) d16_11 rfl rfl rfl).iloadN (pc' := 13) d16_12 rfl rfl).iloadN (pc' := 14) d16_13 rfl rfl).iloadN (pc' := 15) d16_14 rfl rfl).iadd (pc' := 16) d16_15 rfl
  replace R := R.stk (S' := [(.int (3 : Int32)), (.int (0 : Int32)), (.ref t), (.ref b1), (.ref b1)]) rfl
  have K3 := ((Keep.refl h []).trans ((Keep.refl h []).ext E1) all0)
  have F4 := V_t.keep K3 nin0
  obtain ⟨_, h2, _, ⟨r2, k2, rfl, K2, V2, rfl⟩, R⟩ := R.callS (pc' := 19) (argsL := [(.ref t), (.int (0 : Int32)), (.int (3 : Int32))]) (rest := [(.ref b1), (.ref b1)]) (W := 2) (w113 hw) (w114 hw) (w115 hw) (w116 hw) (by decide) (rm_cr0_3 C.l Z a0 hw h1 n0 (b1 :: Ds) F4) rfl (lenOf pd10 rfl) rfl rfl d16_16 (by decide) (by decide) (by decide) (by decide) rfl
  replace R := ((R.mono (ce' := 2) (sl' := 7) (by decide) (by decide)).stk (S' := [(.ref r2), (.ref b1), (.ref b1)]) rfl).iconst (pc' := 20) (z := (0 : Int32)) d16_19 rfl rfl
  have K6 := ((Keep.refl h1 []).trans K2 all0)
  have F7 := X1.keep K6
  have nab : b1 ≠ r2 := Exa.neArv F7 V2 (w6 hw)
  have K8 := ((Keep.refl h1 []).trans K2 all0)
  have F9 := F1_value.keep K8 nin0
  have K10 := ((Keep.refl h1 []).trans K2 all0)
  have F11 := F1_coder.keep K10 nin0
  obtain ⟨_, h5, _, ⟨rfl, K5, X5, F5_v, F5_c, rfl⟩, R⟩ := R.callI (pc' := 23) (a := b1) (argsL := [(.ref r2), (.int (0 : Int32))]) (rest := [(.ref b1)]) (W := 1) rfl (w131 hw) (w132 hw) (w7 hw) (w133 hw) (by decide) (rm_bb C.l Z a0 hw b1 r2 h2 n0 (b1 :: Ds) (List.mem_of_getElem? (i := 0) rfl) F7 F9 F11) rfl (lenOf pd11 rfl) rfl rfl d16_20 (by decide) (by decide) (by decide) (by decide) rfl
  replace R := (R.mono (ce' := 2) (sl' := 7) (by decide) (by decide)).stk (S' := [(.ref b1)]) rfl
  have hK := ((((Keep.refl h []).trans ((Keep.refl h []).ext E1) all0).trans K2 all0).trans K5 (allS (Or.inr (by rw [g1]; exact (Nat.le_refl _))) all0))
  have K12 := ((Keep.refl h2 [b1]).trans K5 (allS (Or.inl (List.mem_of_getElem? (i := 0) rfl)) all0))
  have F13 := V2.keep K12 (ninS (Ne.symm nab) nin0)
  exact R.retA (Ds' := Ds) hret rfl rfl rfl d16_23 (by decide) (by decide) (fun _ q => (fun q => (List.mem_cons_of_mem _ q)) q) ⟨b1, rfl, ⟨X5, F5_c, (chS (hok x0 (List.mem_of_getElem? (i := 0) rfl)) (chS (hok x1 (List.mem_of_getElem? (i := 1) rfl)) (chS (hok x2 (List.mem_of_getElem? (i := 2) rfl)) ch0))), Nat.le_of_ble_eq_true rfl, r2, _, F5_v, F13⟩, hK, rfl⟩
theorem rm_su0_3 (l : Launch) (Z : State) (a0 : Array Value) (hw : HW a0 Z) (a : Addr) (h : Heap) (n0 : Nat) (Ds : List Addr) (own_cs : CompactOn Z) (own_si : SiooOk Z) {x0 x1 x2 x3 : Int32} (S_a : IsStr Z h a [x0, x1, x2, x3]) :
    Ctr l Z (⟨"java/lang/String", "substring", "(II)Ljava/lang/String;"⟩ : MethodName) jdk_42_method_92_code 5 (some (.object "java/lang/String")) [] (rmo 4 2 7 126) #[.ref a, .int (0 : Int32), .int (3 : Int32)] h n0 Ds (fun v h' Ds' => ∃ r : Addr, v = some (.ref r) ∧ IsStr Z h' r [x0, x1, x2] ∧ Keep h h' [] ∧ Ds = Ds') := by
  refine ctr_of (Ls := #[.val (.ref a), .val (.int (0 : Int32)), .val (.int (3 : Int32)), .unset, .unset]) (plainFor_of_name pn0) (fun m => by first | (simp [entryFrame, mkF, argsToLocals, Value.category]; done) | rfl) ?_
  intro C hl hret hnm R
  subst hl
  have S_0 := S_a
  obtain ⟨e1, e2, e3, e4, t, kt, e5, e6⟩ := S_a
  have e7 : Arv Z h t kt .byte (4 : Int32) [(.int x0.toInt8.toInt32), (.int x1.toInt8.toInt32), (.int x2.toInt8.toInt32), (.int x3.toInt8.toInt32)] (.int 0) := e6
  have hok := e3
  have V_t := e7
  replace R := R.aloadN (pc' := 1) (v := (.ref a)) d10_0 rfl rfl rfl
  replace R := own_pure (R.callV (pc' := 4) (y := (⟨"java/lang/String", "length", "()I"⟩ : MethodName)) (z := (⟨"java/lang/String", "length", "()I"⟩ : MethodName)) (argsL := []) (rest := []) (W := 0) (w55 hw) (w56 hw) (fun s' hZ' => notFace_of_selects (args := #[]) (mvT hZ' (w58 hw))) (w58 hw) (w57 hw) (w7 hw) (w59 hw) (by decide) e1 (rm_length C.l Z a0 hw a h n0 Ds own_cs S_0) rfl (lenOf pd6 rfl) rfl rfl d10_1 (by decide) (by decide) (by decide) (by decide) rfl)
  replace R := (((R.istoreN (pc' := 5) (l' := #[.val (.ref a), .val (.int (0 : Int32)), .val (.int (3 : Int32)), .val (.int (4 : Int32)), .unset]) d10_4 rfl rfl).iloadN (pc' := 6) d10_5 rfl rfl).iloadN (pc' := 7) d10_6 rfl rfl).iloadN (pc' := 8) d10_7 rfl rfl
  replace R := own_pure0 (R.callS (pc' := 11) (argsL := [(.int (0 : Int32)), (.int (3 : Int32)), (.int (4 : Int32))]) (rest := []) (W := 0) (w65 hw) (w66 hw) (w7 hw) (w67 hw) (by decide) (rm_be0_3 C.l Z a0 hw h n0 Ds own_si) rfl (lenOf pd7 rfl) rfl rfl d10_8 (by decide) (by decide) (by decide) (by decide) rfl)
  replace R := (((((R.iloadN (pc' := 12) d10_11 rfl rfl).ifN (pc' := 15) d10_12 (teq (by decide : (0 : Int32) = (0 : Int32))).2 rfl).iloadN (pc' := 16) d10_15 rfl rfl).iloadN (pc' := 17) d10_16 rfl rfl).icmpY (pc' := 22) d10_17 (feq (by decide : ¬ ((3 : Int32) = (4 : Int32)))).2 (by decide) rfl).iloadN (pc' := 23) d10_22 rfl rfl
  replace R := ((((R.iloadN (pc' := 24) d10_23 rfl rfl).isub (pc' := 25) d10_24 rfl).stk (S' := [(.int (3 : Int32))]) rfl).istore (pc' := 27) (l' := #[.val (.ref a), .val (.int (0 : Int32)), .val (.int (3 : Int32)), .val (.int (4 : Int32)), .val (.int (3 : Int32))]) d10_25 rfl rfl).aloadN (pc' := 28) (v := (.ref a)) d10_27 rfl rfl rfl
  replace R := own_pure (R.callV (pc' := 31) (y := (⟨"java/lang/String", "isLatin1", "()Z"⟩ : MethodName)) (z := (⟨"java/lang/String", "isLatin1", "()Z"⟩ : MethodName)) (argsL := []) (rest := []) (W := 0) (w73 hw) (w74 hw) (fun s' hZ' => notFace_of_selects (args := #[]) (mvT hZ' (w76 hw))) (w76 hw) (w75 hw) (w7 hw) (w77 hw) (by decide) e1 (rm_isLatin1 C.l Z a0 hw a h n0 Ds own_cs e2) rfl (lenOf pd3 rfl) rfl rfl d10_28 (by decide) (by decide) (by decide) (by decide) rfl)
  replace R := ((((R.ifN (pc' := 34) d10_31 (feq (by decide : ¬ ((1 : Int32) = (0 : Int32)))).1 rfl).aloadN (pc' := 35) (v := (.ref a)) d10_34 rfl rfl rfl).getF (pc' := 38) (host := "") (Or.inl (w32 hw)) Via.refl e5 d10_35 rfl).iloadN (pc' := 39) d10_38 rfl rfl).iload (pc' := 41) d10_39 rfl rfl
  obtain ⟨_, h1, _, ⟨r1, rfl, S1, K1, rfl⟩, R⟩ := R.callS (pc' := 44) (argsL := [(.ref t), (.int (0 : Int32)), (.int (3 : Int32))]) (rest := []) (W := 0) (w78 hw) (w79 hw) (w80 hw) (w81 hw) (by decide) (rm_ns0_3 C.l Z a0 hw h n0 Ds hok e7) rfl (lenOf pd8 rfl) rfl rfl d10_41 (by decide) (by decide) (by decide) (by decide) rfl
  replace R := ((R.mono (ce' := 2) (sl' := 7) (by decide) (by decide)).stk (S' := [(.ref r1)]) rfl).goto (pc' := 57) d10_44 (by decide) rfl
  have hK : Keep h h1 [] := ((Keep.refl h []).trans K1 all0)
  exact R.retA (Ds' := Ds) hret rfl rfl rfl d10_57 (by decide) (by decide) (fun _ q => q) ⟨r1, rfl, S1, hK, rfl⟩
theorem rm_ft0_4 (l : Launch) (Z : State) (a0 : Array Value) (hw : HW a0 Z) (fm : Value) (h : Heap) (n0 : Nat) (Ds : List Addr) (hfm : fm.isRef = true) :
    Ctr l Z (⟨"jdk/internal/util/Preconditions", "checkFromToIndex", "(IIILjava/util/function/BiFunction;)I"⟩ : MethodName) jdk_41_method_12_code 4 (some .int) [] (rmo 0 0 0 0) #[.int (0 : Int32), .int (4 : Int32), .int (4 : Int32), fm] h n0 Ds (fun v h' Ds' => v = some (.int (0 : Int32)) ∧ h = h' ∧ Ds = Ds') := by
  refine ctr_of (Ls := #[.val (.int (0 : Int32)), .val (.int (4 : Int32)), .val (.int (4 : Int32)), .val fm]) (plainFor_of_name pn1) (fun mm => by rcases ref_cases hfm with rfl | ⟨_, rfl⟩ <;> first | (simp [entryFrame, mkF, argsToLocals, Value.category]; done) | rfl) ?_
  intro C hl hret hnm R
  subst hl
  replace R := (((((R.iloadN (pc' := 1) d14_0 rfl rfl).ifN (pc' := 4) d14_1 (flt (by decide : ¬ ((0 : Int32) < (0 : Int32)))).1 rfl).iloadN (pc' := 5) d14_4 rfl rfl).iloadN (pc' := 6) d14_5 rfl rfl).icmpN (pc' := 9) d14_6 (flt (by decide : ¬ ((4 : Int32) < (0 : Int32)))).2.2.1 rfl).iloadN (pc' := 10) d14_9 rfl rfl
  replace R := ((R.iloadN (pc' := 11) d14_10 rfl rfl).icmpY (pc' := 22) d14_11 (flt (by decide : ¬ ((4 : Int32) < (4 : Int32)))).2.2.2 (by decide) rfl).iloadN (pc' := 23) d14_22 rfl rfl
  exact R.retI (Ds' := Ds) hret d14_23 (by decide) (by decide) (fun _ q => q) ⟨rfl, rfl, rfl⟩
theorem rm_be0_4 (l : Launch) (Z : State) (a0 : Array Value) (hw : HW a0 Z) (h : Heap) (n0 : Nat) (Ds : List Addr) (own_si : SiooOk Z) :
    Ctr l Z (⟨"java/lang/String", "checkBoundsBeginEnd", "(III)V"⟩ : MethodName) jdk_42_method_158_code 3 none [] (rmo 1 0 0 15) #[.int (0 : Int32), .int (4 : Int32), .int (4 : Int32)] h n0 Ds (fun v h' Ds' => v = none ∧ h = h' ∧ Ds = Ds') := by
  refine ctr_of (Ls := #[.val (.int (0 : Int32)), .val (.int (4 : Int32)), .val (.int (4 : Int32))]) (plainFor_of_name pn0) (fun m => by first | (simp [entryFrame, mkF, argsToLocals, Value.category]; done) | rfl) ?_
  intro C hl hret hnm R
  subst hl
  obtain ⟨fm, S_fm, hfm⟩ := id own_si
  replace R := (((R.iloadN (pc' := 1) d13_0 rfl rfl).iloadN (pc' := 2) d13_1 rfl rfl).iloadN (pc' := 3) d13_2 rfl rfl).getS (pc' := 6) (host := "") (Or.inl (w68 hw)) Via.refl S_fm d13_3 rfl
  replace R := own_pure (R.callS (pc' := 9) (argsL := [(.int (0 : Int32)), (.int (4 : Int32)), (.int (4 : Int32)), fm]) (rest := []) (W := 0) (w70 hw) (w71 hw) (w69 hw) (w72 hw) (by decide) (rm_ft0_4 C.l Z a0 hw fm h n0 Ds hfm) rfl (lenOf pd5 rfl) rfl rfl d13_6 (by decide) (by decide) (by decide) (by decide) rfl)
  replace R := R.pop (pc' := 10) d13_9 rfl rfl
  exact R.retV (Ds' := Ds) hret d13_10 (by decide) (by decide) (fun _ q => q) ⟨rfl, rfl, rfl⟩
theorem rm_su0_4 (l : Launch) (Z : State) (a0 : Array Value) (hw : HW a0 Z) (a : Addr) (h : Heap) (n0 : Nat) (Ds : List Addr) (own_cs : CompactOn Z) (own_si : SiooOk Z) {x0 x1 x2 x3 : Int32} (S_a : IsStr Z h a [x0, x1, x2, x3]) :
    Ctr l Z (⟨"java/lang/String", "substring", "(II)Ljava/lang/String;"⟩ : MethodName) jdk_42_method_92_code 5 (some (.object "java/lang/String")) [] (rmo 4 2 7 126) #[.ref a, .int (0 : Int32), .int (4 : Int32)] h n0 Ds (fun v h' Ds' => ∃ r : Addr, v = some (.ref r) ∧ IsStr Z h' r [x0, x1, x2, x3] ∧ Keep h h' [] ∧ Ds = Ds') := by
  refine ctr_of (Ls := #[.val (.ref a), .val (.int (0 : Int32)), .val (.int (4 : Int32)), .unset, .unset]) (plainFor_of_name pn0) (fun m => by first | (simp [entryFrame, mkF, argsToLocals, Value.category]; done) | rfl) ?_
  intro C hl hret hnm R
  subst hl
  have S_0 := S_a
  obtain ⟨e1, e2, e3, e4, t, kt, e5, e6⟩ := S_a
  have e7 : Arv Z h t kt .byte (4 : Int32) [(.int x0.toInt8.toInt32), (.int x1.toInt8.toInt32), (.int x2.toInt8.toInt32), (.int x3.toInt8.toInt32)] (.int 0) := e6
  have hok := e3
  have V_t := e7
  replace R := R.aloadN (pc' := 1) (v := (.ref a)) d10_0 rfl rfl rfl
  replace R := own_pure (R.callV (pc' := 4) (y := (⟨"java/lang/String", "length", "()I"⟩ : MethodName)) (z := (⟨"java/lang/String", "length", "()I"⟩ : MethodName)) (argsL := []) (rest := []) (W := 0) (w55 hw) (w56 hw) (fun s' hZ' => notFace_of_selects (args := #[]) (mvT hZ' (w58 hw))) (w58 hw) (w57 hw) (w7 hw) (w59 hw) (by decide) e1 (rm_length C.l Z a0 hw a h n0 Ds own_cs S_0) rfl (lenOf pd6 rfl) rfl rfl d10_1 (by decide) (by decide) (by decide) (by decide) rfl)
  replace R := (((R.istoreN (pc' := 5) (l' := #[.val (.ref a), .val (.int (0 : Int32)), .val (.int (4 : Int32)), .val (.int (4 : Int32)), .unset]) d10_4 rfl rfl).iloadN (pc' := 6) d10_5 rfl rfl).iloadN (pc' := 7) d10_6 rfl rfl).iloadN (pc' := 8) d10_7 rfl rfl
  replace R := own_pure0 (R.callS (pc' := 11) (argsL := [(.int (0 : Int32)), (.int (4 : Int32)), (.int (4 : Int32))]) (rest := []) (W := 0) (w65 hw) (w66 hw) (w7 hw) (w67 hw) (by decide) (rm_be0_4 C.l Z a0 hw h n0 Ds own_si) rfl (lenOf pd7 rfl) rfl rfl d10_8 (by decide) (by decide) (by decide) (by decide) rfl)
  replace R := (((((R.iloadN (pc' := 12) d10_11 rfl rfl).ifN (pc' := 15) d10_12 (teq (by decide : (0 : Int32) = (0 : Int32))).2 rfl).iloadN (pc' := 16) d10_15 rfl rfl).iloadN (pc' := 17) d10_16 rfl rfl).icmpN (pc' := 20) d10_17 (teq (by decide : (4 : Int32) = (4 : Int32))).2 rfl).aloadN (pc' := 21) (v := (.ref a)) d10_20 rfl rfl rfl
  have hK : Keep h h [] := Keep.refl h []
  exact R.retA (Ds' := Ds) hret rfl rfl rfl d10_21 (by decide) (by decide) (fun _ q => q) ⟨a, rfl, S_0, hK, rfl⟩
theorem rm_ft1_1 (l : Launch) (Z : State) (a0 : Array Value) (hw : HW a0 Z) (fm : Value) (h : Heap) (n0 : Nat) (Ds : List Addr) (hfm : fm.isRef = true) :
    Ctr l Z (⟨"jdk/internal/util/Preconditions", "checkFromToIndex", "(IIILjava/util/function/BiFunction;)I"⟩ : MethodName) jdk_41_method_12_code 4 (some .int) [] (rmo 0 0 0 0) #[.int (1 : Int32), .int (1 : Int32), .int (4 : Int32), fm] h n0 Ds (fun v h' Ds' => v = some (.int (1 : Int32)) ∧ h = h' ∧ Ds = Ds') := by
  refine ctr_of (Ls := #[.val (.int (1 : Int32)), .val (.int (1 : Int32)), .val (.int (4 : Int32)), .val fm]) (plainFor_of_name pn1) (fun mm => by rcases ref_cases hfm with rfl | ⟨_, rfl⟩ <;> first | (simp [entryFrame, mkF, argsToLocals, Value.category]; done) | rfl) ?_
  intro C hl hret hnm R
  subst hl
  replace R := (((((R.iloadN (pc' := 1) d14_0 rfl rfl).ifN (pc' := 4) d14_1 (flt (by decide : ¬ ((1 : Int32) < (0 : Int32)))).1 rfl).iloadN (pc' := 5) d14_4 rfl rfl).iloadN (pc' := 6) d14_5 rfl rfl).icmpN (pc' := 9) d14_6 (flt (by decide : ¬ ((1 : Int32) < (1 : Int32)))).2.2.1 rfl).iloadN (pc' := 10) d14_9 rfl rfl
  replace R := ((R.iloadN (pc' := 11) d14_10 rfl rfl).icmpY (pc' := 22) d14_11 (flt (by decide : ¬ ((4 : Int32) < (1 : Int32)))).2.2.2 (by decide) rfl).iloadN (pc' := 23) d14_22 rfl rfl
  exact R.retI (Ds' := Ds) hret d14_23 (by decide) (by decide) (fun _ q => q) ⟨rfl, rfl, rfl⟩
theorem rm_be1_1 (l : Launch) (Z : State) (a0 : Array Value) (hw : HW a0 Z) (h : Heap) (n0 : Nat) (Ds : List Addr) (own_si : SiooOk Z) :
    Ctr l Z (⟨"java/lang/String", "checkBoundsBeginEnd", "(III)V"⟩ : MethodName) jdk_42_method_158_code 3 none [] (rmo 1 0 0 15) #[.int (1 : Int32), .int (1 : Int32), .int (4 : Int32)] h n0 Ds (fun v h' Ds' => v = none ∧ h = h' ∧ Ds = Ds') := by
  refine ctr_of (Ls := #[.val (.int (1 : Int32)), .val (.int (1 : Int32)), .val (.int (4 : Int32))]) (plainFor_of_name pn0) (fun m => by first | (simp [entryFrame, mkF, argsToLocals, Value.category]; done) | rfl) ?_
  intro C hl hret hnm R
  subst hl
  obtain ⟨fm, S_fm, hfm⟩ := id own_si
  replace R := (((R.iloadN (pc' := 1) d13_0 rfl rfl).iloadN (pc' := 2) d13_1 rfl rfl).iloadN (pc' := 3) d13_2 rfl rfl).getS (pc' := 6) (host := "") (Or.inl (w68 hw)) Via.refl S_fm d13_3 rfl
  replace R := own_pure (R.callS (pc' := 9) (argsL := [(.int (1 : Int32)), (.int (1 : Int32)), (.int (4 : Int32)), fm]) (rest := []) (W := 0) (w70 hw) (w71 hw) (w69 hw) (w72 hw) (by decide) (rm_ft1_1 C.l Z a0 hw fm h n0 Ds hfm) rfl (lenOf pd5 rfl) rfl rfl d13_6 (by decide) (by decide) (by decide) (by decide) rfl)
  replace R := R.pop (pc' := 10) d13_9 rfl rfl
  exact R.retV (Ds' := Ds) hret d13_10 (by decide) (by decide) (fun _ q => q) ⟨rfl, rfl, rfl⟩
theorem rm_ns1_1 (l : Launch) (Z : State) (a0 : Array Value) (hw : HW a0 Z) (h : Heap) (n0 : Nat) (Ds : List Addr) {x0 x1 x2 x3 : Int32} (hok : ∀ c ∈ ([x0, x1, x2, x3] : List Int32), ¬ c < 0 ∧ ¬ (255 : Int32) < c) {t : Addr} {kt : ClassId} (V_t : Arv Z h t kt .byte (4 : Int32) [(.int x0.toInt8.toInt32), (.int x1.toInt8.toInt32), (.int x2.toInt8.toInt32), (.int x3.toInt8.toInt32)] (.int 0)) :
    Ctr l Z (⟨"java/lang/StringLatin1", "newString", "([BII)Ljava/lang/String;"⟩ : MethodName) jdk_43_method_47_code 3 (some (.object "java/lang/String")) [] (rmo 0 2 4 0) #[.ref t, .int (1 : Int32), .int (0 : Int32)] h n0 Ds (fun v h' Ds' => ∃ r : Addr, v = some (.ref r) ∧ IsStr Z h' r [] ∧ Keep h h' [] ∧ Ds = Ds') := by
  refine ctr_of (Ls := #[.val (.ref t), .val (.int (1 : Int32)), .val (.int (0 : Int32))]) (plainFor_of_name pn2) (fun m => by first | (simp [entryFrame, mkF, argsToLocals, Value.category]; done) | rfl) ?_
  intro C hl hret hnm R
  subst hl
  replace R := (R.iloadN (pc' := 1) d16_0 rfl rfl).ifN (pc' := 4) d16_1 (teq (by decide : (0 : Int32) = (0 : Int32))).2 rfl
  obtain ⟨h1, a1, E1, S1, N1, R⟩ := R.ldcS (pc' := 6) (n := 0) (cs := []) (by decide) (w82 hw) (by decide +kernel) (by decide +kernel) (by decide) d16_4 (by decide +kernel) (by decide) (by decide) (by decide) rfl
  have hK := ((Keep.refl h []).trans ((Keep.refl h []).ext E1) all0)
  exact R.retA (Ds' := Ds) hret rfl rfl rfl d16_6 (by decide) (by decide) (fun _ q => q) ⟨a1, rfl, S1, hK, rfl⟩
theorem rm_su1_1 (l : Launch) (Z : State) (a0 : Array Value) (hw : HW a0 Z) (a : Addr) (h : Heap) (n0 : Nat) (Ds : List Addr) (own_cs : CompactOn Z) (own_si : SiooOk Z) {x0 x1 x2 x3 : Int32} (S_a : IsStr Z h a [x0, x1, x2, x3]) :
    Ctr l Z (⟨"java/lang/String", "substring", "(II)Ljava/lang/String;"⟩ : MethodName) jdk_42_method_92_code 5 (some (.object "java/lang/String")) [] (rmo 4 2 7 126) #[.ref a, .int (1 : Int32), .int (1 : Int32)] h n0 Ds (fun v h' Ds' => ∃ r : Addr, v = some (.ref r) ∧ IsStr Z h' r [] ∧ Keep h h' [] ∧ Ds = Ds') := by
  refine ctr_of (Ls := #[.val (.ref a), .val (.int (1 : Int32)), .val (.int (1 : Int32)), .unset, .unset]) (plainFor_of_name pn0) (fun m => by first | (simp [entryFrame, mkF, argsToLocals, Value.category]; done) | rfl) ?_
  intro C hl hret hnm R
  subst hl
  have S_0 := S_a
  obtain ⟨e1, e2, e3, e4, t, kt, e5, e6⟩ := S_a
  have e7 : Arv Z h t kt .byte (4 : Int32) [(.int x0.toInt8.toInt32), (.int x1.toInt8.toInt32), (.int x2.toInt8.toInt32), (.int x3.toInt8.toInt32)] (.int 0) := e6
  have hok := e3
  have V_t := e7
  replace R := R.aloadN (pc' := 1) (v := (.ref a)) d10_0 rfl rfl rfl
  replace R := own_pure (R.callV (pc' := 4) (y := (⟨"java/lang/String", "length", "()I"⟩ : MethodName)) (z := (⟨"java/lang/String", "length", "()I"⟩ : MethodName)) (argsL := []) (rest := []) (W := 0) (w55 hw) (w56 hw) (fun s' hZ' => notFace_of_selects (args := #[]) (mvT hZ' (w58 hw))) (w58 hw) (w57 hw) (w7 hw) (w59 hw) (by decide) e1 (rm_length C.l Z a0 hw a h n0 Ds own_cs S_0) rfl (lenOf pd6 rfl) rfl rfl d10_1 (by decide) (by decide) (by decide) (by decide) rfl)
  replace R := (((R.istoreN (pc' := 5) (l' := #[.val (.ref a), .val (.int (1 : Int32)), .val (.int (1 : Int32)), .val (.int (4 : Int32)), .unset]) d10_4 rfl rfl).iloadN (pc' := 6) d10_5 rfl rfl).iloadN (pc' := 7) d10_6 rfl rfl).iloadN (pc' := 8) d10_7 rfl rfl
  replace R := own_pure0 (R.callS (pc' := 11) (argsL := [(.int (1 : Int32)), (.int (1 : Int32)), (.int (4 : Int32))]) (rest := []) (W := 0) (w65 hw) (w66 hw) (w7 hw) (w67 hw) (by decide) (rm_be1_1 C.l Z a0 hw h n0 Ds own_si) rfl (lenOf pd7 rfl) rfl rfl d10_8 (by decide) (by decide) (by decide) (by decide) rfl)
  replace R := (((((R.iloadN (pc' := 12) d10_11 rfl rfl).ifY (pc' := 22) d10_12 (feq (by decide : ¬ ((1 : Int32) = (0 : Int32)))).2 (by decide) rfl).iloadN (pc' := 23) d10_22 rfl rfl).iloadN (pc' := 24) d10_23 rfl rfl).isub (pc' := 25) d10_24 rfl).stk (S' := [(.int (0 : Int32))]) rfl
  replace R := (R.istore (pc' := 27) (l' := #[.val (.ref a), .val (.int (1 : Int32)), .val (.int (1 : Int32)), .val (.int (4 : Int32)), .val (.int (0 : Int32))]) d10_25 rfl rfl).aloadN (pc' := 28) (v := (.ref a)) d10_27 rfl rfl rfl
  replace R := own_pure (R.callV (pc' := 31) (y := (⟨"java/lang/String", "isLatin1", "()Z"⟩ : MethodName)) (z := (⟨"java/lang/String", "isLatin1", "()Z"⟩ : MethodName)) (argsL := []) (rest := []) (W := 0) (w73 hw) (w74 hw) (fun s' hZ' => notFace_of_selects (args := #[]) (mvT hZ' (w76 hw))) (w76 hw) (w75 hw) (w7 hw) (w77 hw) (by decide) e1 (rm_isLatin1 C.l Z a0 hw a h n0 Ds own_cs e2) rfl (lenOf pd3 rfl) rfl rfl d10_28 (by decide) (by decide) (by decide) (by decide) rfl)
  replace R := ((((R.ifN (pc' := 34) d10_31 (feq (by decide : ¬ ((1 : Int32) = (0 : Int32)))).1 rfl).aloadN (pc' := 35) (v := (.ref a)) d10_34 rfl rfl rfl).getF (pc' := 38) (host := "") (Or.inl (w32 hw)) Via.refl e5 d10_35 rfl).iloadN (pc' := 39) d10_38 rfl rfl).iload (pc' := 41) d10_39 rfl rfl
  obtain ⟨_, h1, _, ⟨r1, rfl, S1, K1, rfl⟩, R⟩ := R.callS (pc' := 44) (argsL := [(.ref t), (.int (1 : Int32)), (.int (0 : Int32))]) (rest := []) (W := 0) (w78 hw) (w79 hw) (w80 hw) (w81 hw) (by decide) (rm_ns1_1 C.l Z a0 hw h n0 Ds hok e7) rfl (lenOf pd8 rfl) rfl rfl d10_41 (by decide) (by decide) (by decide) (by decide) rfl
  replace R := ((R.mono (ce' := 2) (sl' := 4) (by decide) (by decide)).stk (S' := [(.ref r1)]) rfl).goto (pc' := 57) d10_44 (by decide) rfl
  have hK : Keep h h1 [] := ((Keep.refl h []).trans K1 all0)
  exact R.retA (Ds' := Ds) hret rfl rfl rfl d10_57 (by decide) (by decide) (fun _ q => q) ⟨r1, rfl, S1, hK, rfl⟩
theorem rm_ft1_2 (l : Launch) (Z : State) (a0 : Array Value) (hw : HW a0 Z) (fm : Value) (h : Heap) (n0 : Nat) (Ds : List Addr) (hfm : fm.isRef = true) :
    Ctr l Z (⟨"jdk/internal/util/Preconditions", "checkFromToIndex", "(IIILjava/util/function/BiFunction;)I"⟩ : MethodName) jdk_41_method_12_code 4 (some .int) [] (rmo 0 0 0 0) #[.int (1 : Int32), .int (2 : Int32), .int (4 : Int32), fm] h n0 Ds (fun v h' Ds' => v = some (.int (1 : Int32)) ∧ h = h' ∧ Ds = Ds') := by
  refine ctr_of (Ls := #[.val (.int (1 : Int32)), .val (.int (2 : Int32)), .val (.int (4 : Int32)), .val fm]) (plainFor_of_name pn1) (fun mm => by rcases ref_cases hfm with rfl | ⟨_, rfl⟩ <;> first | (simp [entryFrame, mkF, argsToLocals, Value.category]; done) | rfl) ?_
  intro C hl hret hnm R
  subst hl
  replace R := (((((R.iloadN (pc' := 1) d14_0 rfl rfl).ifN (pc' := 4) d14_1 (flt (by decide : ¬ ((1 : Int32) < (0 : Int32)))).1 rfl).iloadN (pc' := 5) d14_4 rfl rfl).iloadN (pc' := 6) d14_5 rfl rfl).icmpN (pc' := 9) d14_6 (flt (by decide : ¬ ((2 : Int32) < (1 : Int32)))).2.2.1 rfl).iloadN (pc' := 10) d14_9 rfl rfl
  replace R := ((R.iloadN (pc' := 11) d14_10 rfl rfl).icmpY (pc' := 22) d14_11 (flt (by decide : ¬ ((4 : Int32) < (2 : Int32)))).2.2.2 (by decide) rfl).iloadN (pc' := 23) d14_22 rfl rfl
  exact R.retI (Ds' := Ds) hret d14_23 (by decide) (by decide) (fun _ q => q) ⟨rfl, rfl, rfl⟩
theorem rm_be1_2 (l : Launch) (Z : State) (a0 : Array Value) (hw : HW a0 Z) (h : Heap) (n0 : Nat) (Ds : List Addr) (own_si : SiooOk Z) :
    Ctr l Z (⟨"java/lang/String", "checkBoundsBeginEnd", "(III)V"⟩ : MethodName) jdk_42_method_158_code 3 none [] (rmo 1 0 0 15) #[.int (1 : Int32), .int (2 : Int32), .int (4 : Int32)] h n0 Ds (fun v h' Ds' => v = none ∧ h = h' ∧ Ds = Ds') := by
  refine ctr_of (Ls := #[.val (.int (1 : Int32)), .val (.int (2 : Int32)), .val (.int (4 : Int32))]) (plainFor_of_name pn0) (fun m => by first | (simp [entryFrame, mkF, argsToLocals, Value.category]; done) | rfl) ?_
  intro C hl hret hnm R
  subst hl
  obtain ⟨fm, S_fm, hfm⟩ := id own_si
  replace R := (((R.iloadN (pc' := 1) d13_0 rfl rfl).iloadN (pc' := 2) d13_1 rfl rfl).iloadN (pc' := 3) d13_2 rfl rfl).getS (pc' := 6) (host := "") (Or.inl (w68 hw)) Via.refl S_fm d13_3 rfl
  replace R := own_pure (R.callS (pc' := 9) (argsL := [(.int (1 : Int32)), (.int (2 : Int32)), (.int (4 : Int32)), fm]) (rest := []) (W := 0) (w70 hw) (w71 hw) (w69 hw) (w72 hw) (by decide) (rm_ft1_2 C.l Z a0 hw fm h n0 Ds hfm) rfl (lenOf pd5 rfl) rfl rfl d13_6 (by decide) (by decide) (by decide) (by decide) rfl)
  replace R := R.pop (pc' := 10) d13_9 rfl rfl
  exact R.retV (Ds' := Ds) hret d13_10 (by decide) (by decide) (fun _ q => q) ⟨rfl, rfl, rfl⟩
theorem rm_min3_1 (l : Launch) (Z : State) (a0 : Array Value) (hw : HW a0 Z) (h : Heap) (n0 : Nat) (Ds : List Addr) :
    Ctr l Z (⟨"java/lang/Math", "min", "(II)I"⟩ : MethodName) jdk_29_method_69_code 2 (some .int) [] (rmo 0 0 0 0) #[.int (3 : Int32), .int (1 : Int32)] h n0 Ds (fun v h' Ds' => v = some (.int (1 : Int32)) ∧ h = h' ∧ Ds = Ds') := by
  refine ctr_of (Ls := #[.val (.int (3 : Int32)), .val (.int (1 : Int32))]) (Jvm.Free.JP.mathPlain rfl (by decide +kernel)) (fun m => by first | (simp [entryFrame, mkF, argsToLocals, Value.category]; done) | rfl) ?_
  intro C hl hret hnm R
  subst hl
  replace R := (((R.iloadN (pc' := 1) d27_0 rfl rfl).iloadN (pc' := 2) d27_1 rfl rfl).icmpY (pc' := 9) d27_2 (tlt (by decide : (1 : Int32) < (3 : Int32))).2.2.1 (by decide) rfl).iloadN (pc' := 10) d27_9 rfl rfl
  exact R.retI (Ds' := Ds) hret d27_10 (by decide) (by decide) (fun _ q => q) ⟨rfl, rfl, rfl⟩
theorem rm_cl1_2 (l : Launch) (Z : State) (a0 : Array Value) (hw : HW a0 Z) (h : Heap) (n0 : Nat) (Ds : List Addr) :
    Ctr l Z (⟨"java/util/Arrays", "checkLength", "(II)V"⟩ : MethodName) jdk_65_method_131_code 2 none [] (rmo 0 0 0 0) #[.int (1 : Int32), .int (2 : Int32)] h n0 Ds (fun v h' Ds' => v = none ∧ h = h' ∧ Ds = Ds') := by
  refine ctr_of (Ls := #[.val (.int (1 : Int32)), .val (.int (2 : Int32))]) (plainFor_of_name pn3) (fun m => by first | (simp [entryFrame, mkF, argsToLocals, Value.category]; done) | rfl) ?_
  intro C hl hret hnm R
  subst hl
  replace R := ((R.iloadN (pc' := 1) d26_0 rfl rfl).iloadN (pc' := 2) d26_1 rfl rfl).icmpY (pc' := 37) d26_2 (flt (by decide : ¬ ((2 : Int32) < (1 : Int32)))).2.1 (by decide) rfl
  exact R.retV (Ds' := Ds) hret d26_37 (by decide) (by decide) (fun _ q => q) ⟨rfl, rfl, rfl⟩
theorem rm_crb1_2 (l : Launch) (Z : State) (a0 : Array Value) (hw : HW a0 Z) (h : Heap) (n0 : Nat) (Ds : List Addr) {x0 x1 x2 x3 : Int32} {t : Addr} {kt : ClassId} (V_t : Arv Z h t kt .byte (4 : Int32) [(.int x0.toInt8.toInt32), (.int x1.toInt8.toInt32), (.int x2.toInt8.toInt32), (.int x3.toInt8.toInt32)] (.int 0)) :
    Ctr l Z (⟨"java/util/Arrays", "copyOfRangeByte", "([BII)[B"⟩ : MethodName) jdk_65_method_133_code 5 (some (.array .byte)) [] (rmo 1 1 1 80) #[.ref t, .int (1 : Int32), .int (2 : Int32)] h n0 Ds (fun v h' Ds' => ∃ (r : Addr) (kr : ClassId), v = some (.ref r) ∧ Keep h h' [] ∧ Arv Z h' r kr .byte (1 : Int32) [(.int x1.toInt8.toInt32)] (.int 0) ∧ Ds = Ds') := by
  refine ctr_of (Ls := #[.val (.ref t), .val (.int (1 : Int32)), .val (.int (2 : Int32)), .unset, .unset]) (plainFor_of_name pn3) (fun m => by first | (simp [entryFrame, mkF, argsToLocals, Value.category]; done) | rfl) ?_
  intro C hl hret hnm R
  subst hl
  have hvl : t < h.size := V_t.lt
  replace R := (R.iloadN (pc' := 1) d25_0 rfl rfl).iloadN (pc' := 2) d25_1 rfl rfl
  replace R := own_pure0 (R.callS (pc' := 5) (argsL := [(.int (1 : Int32)), (.int (2 : Int32))]) (rest := []) (W := 0) (w120 hw) (w121 hw) (w115 hw) (w122 hw) (by decide) (rm_cl1_2 C.l Z a0 hw h n0 Ds) rfl (lenOf pd2 rfl) rfl rfl d25_2 (by decide) (by decide) (by decide) (by decide) rfl)
  replace R := (((((R.iloadN (pc' := 6) d25_5 rfl rfl).iloadN (pc' := 7) d25_6 rfl rfl).isub (pc' := 8) d25_7 rfl).stk (S' := [(.int (1 : Int32))]) rfl).istoreN (pc' := 9) (l' := #[.val (.ref t), .val (.int (1 : Int32)), .val (.int (2 : Int32)), .val (.int (1 : Int32)), .unset]) d25_8 rfl rfl).iloadN (pc' := 10) d25_9 rfl rfl
  obtain ⟨h1, b1, k1, g1, E1, V1, R⟩ := R.newP (pc' := 12) (aty := .byte) (cap := 1) (w23 hw) d25_10 (by decide) (by decide) (by decide) (by decide) (by decide) rfl
  have V1p : Arv Z h1 b1 k1 .byte (1 : Int32) [(.int (0 : Int32))] (.int (0 : Int32)) := V1.pad (pad_rep [] (.int (0 : Int32)) 1)
  replace R := (((((R.astore (pc' := 14) (l' := #[.val (.ref t), .val (.int (1 : Int32)), .val (.int (2 : Int32)), .val (.int (1 : Int32)), .val (.ref b1)]) d25_12 rfl rfl rfl).aloadN (pc' := 15) (v := (.ref t)) d25_14 rfl rfl rfl).iloadN (pc' := 16) d25_15 rfl rfl).aload (pc' := 18) (v := (.ref b1)) d25_16 rfl rfl rfl).iconst (pc' := 19) (z := (0 : Int32)) d25_18 rfl rfl).aloadN (pc' := 20) (v := (.ref t)) d25_19 rfl rfl rfl
  have K2 := ((Keep.refl h []).trans ((Keep.refl h []).ext E1) all0)
  have F3 := V_t.keep K2 nin0
  replace R := ((((R.arraylength (pc' := 21) F3 d25_20 rfl).iloadN (pc' := 22) d25_21 rfl rfl).isub (pc' := 23) d25_22 rfl).stk (S' := [(.int (3 : Int32)), (.int (0 : Int32)), (.ref b1), (.int (1 : Int32)), (.ref t)]) rfl).iloadN (pc' := 24) d25_23 rfl rfl
  replace R := own_pure (R.callS (pc' := 27) (argsL := [(.int (3 : Int32)), (.int (1 : Int32))]) (rest := [(.int (0 : Int32)), (.ref b1), (.int (1 : Int32)), (.ref t)]) (W := 4) (w123 hw) (w124 hw) (w125 hw) (w126 hw) (by decide) (rm_min3_1 C.l Z a0 hw h1 n0 (b1 :: Ds)) rfl (lenOf pd9 rfl) rfl rfl d25_24 (by decide) (by decide) (by decide) (by decide) rfl)
  have nvb : t ≠ b1 := fun e => by rw [e, g1] at hvl; exact Nat.lt_irrefl _ hvl
  obtain ⟨h4, K4, V4, R⟩ := R.copyB (pc' := 30) (W := 0) (nn := (1 : Int32)) (us := [(.int x1.toInt8.toInt32)]) (w127 hw) (w130 hw) (w128 hw) (w129 hw) F3 V1p rfl (by decide) (by decide) (by decide) (by decide) (by decide) rfl (Nat.le_of_ble_eq_true rfl) (List.mem_of_getElem? (i := 0) rfl) rfl d25_27 (by decide) rfl (by decide) rfl
  have V4p : Arv Z h4 b1 k1 .byte (1 : Int32) [(.int x1.toInt8.toInt32)] (.int (0 : Int32)) := V4
  replace R := R.aload (pc' := 32) (v := (.ref b1)) d25_30 rfl rfl rfl
  have hK := (((Keep.refl h []).trans ((Keep.refl h []).ext E1) all0).trans K4 (allS (Or.inr (by rw [g1]; exact (Nat.le_refl _))) all0))
  exact R.retA (Ds' := Ds) hret rfl rfl rfl d25_32 (by decide) (by decide) (fun _ q => (fun q => (List.mem_cons_of_mem _ q)) q) ⟨b1, _, rfl, hK, V4p, rfl⟩
theorem rm_cr1_2 (l : Launch) (Z : State) (a0 : Array Value) (hw : HW a0 Z) (h : Heap) (n0 : Nat) (Ds : List Addr) {x0 x1 x2 x3 : Int32} {t : Addr} {kt : ClassId} (V_t : Arv Z h t kt .byte (4 : Int32) [(.int x0.toInt8.toInt32), (.int x1.toInt8.toInt32), (.int x2.toInt8.toInt32), (.int x3.toInt8.toInt32)] (.int 0)) :
    Ctr l Z (⟨"java/util/Arrays", "copyOfRange", "([BII)[B"⟩ : MethodName) jdk_65_method_132_code 3 (some (.array .byte)) [] (rmo 2 1 1 96) #[.ref t, .int (1 : Int32), .int (2 : Int32)] h n0 Ds (fun v h' Ds' => ∃ (r : Addr) (kr : ClassId), v = some (.ref r) ∧ Keep h h' [] ∧ Arv Z h' r kr .byte (1 : Int32) [(.int x1.toInt8.toInt32)] (.int 0) ∧ Ds = Ds') := by
  refine ctr_of (Ls := #[.val (.ref t), .val (.int (1 : Int32)), .val (.int (2 : Int32))]) (plainFor_of_name pn3) (fun m => by first | (simp [entryFrame, mkF, argsToLocals, Value.category]; done) | rfl) ?_
  intro C hl hret hnm R
  subst hl
  have hvl : t < h.size := V_t.lt
  replace R := ((((R.iloadN (pc' := 1) d24_0 rfl rfl).ifY (pc' := 10) d24_1 (feq (by decide : ¬ ((1 : Int32) = (0 : Int32)))).2 (by decide) rfl).aloadN (pc' := 11) (v := (.ref t)) d24_10 rfl rfl rfl).iloadN (pc' := 12) d24_11 rfl rfl).iloadN (pc' := 13) d24_12 rfl rfl
  obtain ⟨_, h1, _, ⟨r1, k1, rfl, K1, V1, rfl⟩, R⟩ := R.callS (pc' := 16) (argsL := [(.ref t), (.int (1 : Int32)), (.int (2 : Int32))]) (rest := []) (W := 0) (w117 hw) (w118 hw) (w115 hw) (w119 hw) (by decide) (rm_crb1_2 C.l Z a0 hw h n0 Ds V_t) rfl (lenOf pd10 rfl) rfl rfl d24_13 (by decide) (by decide) (by decide) (by decide) rfl
  replace R := (R.mono (ce' := 1) (sl' := 1) (by decide) (by decide)).stk (S' := [(.ref r1)]) rfl
  have hK := ((Keep.refl h []).trans K1 all0)
  exact R.retA (Ds' := Ds) hret rfl rfl rfl d24_16 (by decide) (by decide) (fun _ q => q) ⟨r1, _, rfl, hK, V1, rfl⟩
theorem rm_ns1_2 (l : Launch) (Z : State) (a0 : Array Value) (hw : HW a0 Z) (h : Heap) (n0 : Nat) (Ds : List Addr) {x0 x1 x2 x3 : Int32} (hok : ∀ c ∈ ([x0, x1, x2, x3] : List Int32), ¬ c < 0 ∧ ¬ (255 : Int32) < c) {t : Addr} {kt : ClassId} (V_t : Arv Z h t kt .byte (4 : Int32) [(.int x0.toInt8.toInt32), (.int x1.toInt8.toInt32), (.int x2.toInt8.toInt32), (.int x3.toInt8.toInt32)] (.int 0)) :
    Ctr l Z (⟨"java/lang/StringLatin1", "newString", "([BII)Ljava/lang/String;"⟩ : MethodName) jdk_43_method_47_code 3 (some (.object "java/lang/String")) [] (rmo 3 2 5 112) #[.ref t, .int (1 : Int32), .int (1 : Int32)] h n0 Ds (fun v h' Ds' => ∃ r : Addr, v = some (.ref r) ∧ IsStr Z h' r [x1] ∧ Keep h h' [] ∧ Ds = Ds') := by
  refine ctr_of (Ls := #[.val (.ref t), .val (.int (1 : Int32)), .val (.int (1 : Int32))]) (plainFor_of_name pn2) (fun m => by first | (simp [entryFrame, mkF, argsToLocals, Value.category]; done) | rfl) ?_
  intro C hl hret hnm R
  subst hl
  replace R := (R.iloadN (pc' := 1) d16_0 rfl rfl).ifY (pc' := 7) d16_1 (feq (by decide : ¬ ((1 : Int32) = (0 : Int32)))).2 (by decide) rfl
  obtain ⟨h1, b1, g1, E1, X1, D1, R⟩ := R.newO (pc' := 10) (w112 hw) (w6 hw) (w7 hw) d16_7 (by decide) (by decide) rfl
  have F1_coder : Fld Z h1 b1 "java/lang/String" "coder" "B" (.int (0 : Int32)) := D1 (Or.inr (w31 hw)) (ty := .byte) (by decide)
  have F1_value : Fld Z h1 b1 "java/lang/String" "value" "[B" .null := D1 (Or.inr (w33 hw)) (ty := (.array .byte)) (by decide)
  replace R := (((((R.dup (pc' := 11) d16_10 rfl rfl).aloadN (pc' := 12) (v := (.ref t)) d16_11 rfl rfl rfl).iloadN (pc' := 13) d16_12 rfl rfl).iloadN (pc' := 14) d16_13 rfl rfl).iloadN (pc' := 15) d16_14 rfl rfl).iadd (pc' := 16) d16_15 rfl
  replace R := R.stk (S' := [(.int (2 : Int32)), (.int (1 : Int32)), (.ref t), (.ref b1), (.ref b1)]) rfl
  have K3 := ((Keep.refl h []).trans ((Keep.refl h []).ext E1) all0)
  have F4 := V_t.keep K3 nin0
  obtain ⟨_, h2, _, ⟨r2, k2, rfl, K2, V2, rfl⟩, R⟩ := R.callS (pc' := 19) (argsL := [(.ref t), (.int (1 : Int32)), (.int (2 : Int32))]) (rest := [(.ref b1), (.ref b1)]) (W := 2) (w113 hw) (w114 hw) (w115 hw) (w116 hw) (by decide) (rm_cr1_2 C.l Z a0 hw h1 n0 (b1 :: Ds) F4) rfl (lenOf pd10 rfl) rfl rfl d16_16 (by decide) (by decide) (by decide) (by decide) rfl
  replace R := ((R.mono (ce' := 2) (sl' := 5) (by decide) (by decide)).stk (S' := [(.ref r2), (.ref b1), (.ref b1)]) rfl).iconst (pc' := 20) (z := (0 : Int32)) d16_19 rfl rfl
  have K6 := ((Keep.refl h1 []).trans K2 all0)
  have F7 := X1.keep K6
  have nab : b1 ≠ r2 := Exa.neArv F7 V2 (w6 hw)
  have K8 := ((Keep.refl h1 []).trans K2 all0)
  have F9 := F1_value.keep K8 nin0
  have K10 := ((Keep.refl h1 []).trans K2 all0)
  have F11 := F1_coder.keep K10 nin0
  obtain ⟨_, h5, _, ⟨rfl, K5, X5, F5_v, F5_c, rfl⟩, R⟩ := R.callI (pc' := 23) (a := b1) (argsL := [(.ref r2), (.int (0 : Int32))]) (rest := [(.ref b1)]) (W := 1) rfl (w131 hw) (w132 hw) (w7 hw) (w133 hw) (by decide) (rm_bb C.l Z a0 hw b1 r2 h2 n0 (b1 :: Ds) (List.mem_of_getElem? (i := 0) rfl) F7 F9 F11) rfl (lenOf pd11 rfl) rfl rfl d16_20 (by decide) (by decide) (by decide) (by decide) rfl
  replace R := (R.mono (ce' := 2) (sl' := 5) (by decide) (by decide)).stk (S' := [(.ref b1)]) rfl
  have hK := ((((Keep.refl h []).trans ((Keep.refl h []).ext E1) all0).trans K2 all0).trans K5 (allS (Or.inr (by rw [g1]; exact (Nat.le_refl _))) all0))
  have K12 := ((Keep.refl h2 [b1]).trans K5 (allS (Or.inl (List.mem_of_getElem? (i := 0) rfl)) all0))
  have F13 := V2.keep K12 (ninS (Ne.symm nab) nin0)
  exact R.retA (Ds' := Ds) hret rfl rfl rfl d16_23 (by decide) (by decide) (fun _ q => (fun q => (List.mem_cons_of_mem _ q)) q) ⟨b1, rfl, ⟨X5, F5_c, (chS (hok x1 (List.mem_of_getElem? (i := 1) rfl)) ch0), Nat.le_of_ble_eq_true rfl, r2, _, F5_v, F13⟩, hK, rfl⟩
theorem rm_su1_2 (l : Launch) (Z : State) (a0 : Array Value) (hw : HW a0 Z) (a : Addr) (h : Heap) (n0 : Nat) (Ds : List Addr) (own_cs : CompactOn Z) (own_si : SiooOk Z) {x0 x1 x2 x3 : Int32} (S_a : IsStr Z h a [x0, x1, x2, x3]) :
    Ctr l Z (⟨"java/lang/String", "substring", "(II)Ljava/lang/String;"⟩ : MethodName) jdk_42_method_92_code 5 (some (.object "java/lang/String")) [] (rmo 4 2 7 126) #[.ref a, .int (1 : Int32), .int (2 : Int32)] h n0 Ds (fun v h' Ds' => ∃ r : Addr, v = some (.ref r) ∧ IsStr Z h' r [x1] ∧ Keep h h' [] ∧ Ds = Ds') := by
  refine ctr_of (Ls := #[.val (.ref a), .val (.int (1 : Int32)), .val (.int (2 : Int32)), .unset, .unset]) (plainFor_of_name pn0) (fun m => by first | (simp [entryFrame, mkF, argsToLocals, Value.category]; done) | rfl) ?_
  intro C hl hret hnm R
  subst hl
  have S_0 := S_a
  obtain ⟨e1, e2, e3, e4, t, kt, e5, e6⟩ := S_a
  have e7 : Arv Z h t kt .byte (4 : Int32) [(.int x0.toInt8.toInt32), (.int x1.toInt8.toInt32), (.int x2.toInt8.toInt32), (.int x3.toInt8.toInt32)] (.int 0) := e6
  have hok := e3
  have V_t := e7
  replace R := R.aloadN (pc' := 1) (v := (.ref a)) d10_0 rfl rfl rfl
  replace R := own_pure (R.callV (pc' := 4) (y := (⟨"java/lang/String", "length", "()I"⟩ : MethodName)) (z := (⟨"java/lang/String", "length", "()I"⟩ : MethodName)) (argsL := []) (rest := []) (W := 0) (w55 hw) (w56 hw) (fun s' hZ' => notFace_of_selects (args := #[]) (mvT hZ' (w58 hw))) (w58 hw) (w57 hw) (w7 hw) (w59 hw) (by decide) e1 (rm_length C.l Z a0 hw a h n0 Ds own_cs S_0) rfl (lenOf pd6 rfl) rfl rfl d10_1 (by decide) (by decide) (by decide) (by decide) rfl)
  replace R := (((R.istoreN (pc' := 5) (l' := #[.val (.ref a), .val (.int (1 : Int32)), .val (.int (2 : Int32)), .val (.int (4 : Int32)), .unset]) d10_4 rfl rfl).iloadN (pc' := 6) d10_5 rfl rfl).iloadN (pc' := 7) d10_6 rfl rfl).iloadN (pc' := 8) d10_7 rfl rfl
  replace R := own_pure0 (R.callS (pc' := 11) (argsL := [(.int (1 : Int32)), (.int (2 : Int32)), (.int (4 : Int32))]) (rest := []) (W := 0) (w65 hw) (w66 hw) (w7 hw) (w67 hw) (by decide) (rm_be1_2 C.l Z a0 hw h n0 Ds own_si) rfl (lenOf pd7 rfl) rfl rfl d10_8 (by decide) (by decide) (by decide) (by decide) rfl)
  replace R := (((((R.iloadN (pc' := 12) d10_11 rfl rfl).ifY (pc' := 22) d10_12 (feq (by decide : ¬ ((1 : Int32) = (0 : Int32)))).2 (by decide) rfl).iloadN (pc' := 23) d10_22 rfl rfl).iloadN (pc' := 24) d10_23 rfl rfl).isub (pc' := 25) d10_24 rfl).stk (S' := [(.int (1 : Int32))]) rfl
  replace R := (R.istore (pc' := 27) (l' := #[.val (.ref a), .val (.int (1 : Int32)), .val (.int (2 : Int32)), .val (.int (4 : Int32)), .val (.int (1 : Int32))]) d10_25 rfl rfl).aloadN (pc' := 28) (v := (.ref a)) d10_27 rfl rfl rfl
  replace R := own_pure (R.callV (pc' := 31) (y := (⟨"java/lang/String", "isLatin1", "()Z"⟩ : MethodName)) (z := (⟨"java/lang/String", "isLatin1", "()Z"⟩ : MethodName)) (argsL := []) (rest := []) (W := 0) (w73 hw) (w74 hw) (fun s' hZ' => notFace_of_selects (args := #[]) (mvT hZ' (w76 hw))) (w76 hw) (w75 hw) (w7 hw) (w77 hw) (by decide) e1 (rm_isLatin1 C.l Z a0 hw a h n0 Ds own_cs e2) rfl (lenOf pd3 rfl) rfl rfl d10_28 (by decide) (by decide) (by decide) (by decide) rfl)
  replace R := ((((R.ifN (pc' := 34) d10_31 (feq (by decide : ¬ ((1 : Int32) = (0 : Int32)))).1 rfl).aloadN (pc' := 35) (v := (.ref a)) d10_34 rfl rfl rfl).getF (pc' := 38) (host := "") (Or.inl (w32 hw)) Via.refl e5 d10_35 rfl).iloadN (pc' := 39) d10_38 rfl rfl).iload (pc' := 41) d10_39 rfl rfl
  obtain ⟨_, h1, _, ⟨r1, rfl, S1, K1, rfl⟩, R⟩ := R.callS (pc' := 44) (argsL := [(.ref t), (.int (1 : Int32)), (.int (1 : Int32))]) (rest := []) (W := 0) (w78 hw) (w79 hw) (w80 hw) (w81 hw) (by decide) (rm_ns1_2 C.l Z a0 hw h n0 Ds hok e7) rfl (lenOf pd8 rfl) rfl rfl d10_41 (by decide) (by decide) (by decide) (by decide) rfl
  replace R := ((R.mono (ce' := 2) (sl' := 5) (by decide) (by decide)).stk (S' := [(.ref r1)]) rfl).goto (pc' := 57) d10_44 (by decide) rfl
  have hK : Keep h h1 [] := ((Keep.refl h []).trans K1 all0)
  exact R.retA (Ds' := Ds) hret rfl rfl rfl d10_57 (by decide) (by decide) (fun _ q => q) ⟨r1, rfl, S1, hK, rfl⟩
theorem rm_ft1_3 (l : Launch) (Z : State) (a0 : Array Value) (hw : HW a0 Z) (fm : Value) (h : Heap) (n0 : Nat) (Ds : List Addr) (hfm : fm.isRef = true) :
    Ctr l Z (⟨"jdk/internal/util/Preconditions", "checkFromToIndex", "(IIILjava/util/function/BiFunction;)I"⟩ : MethodName) jdk_41_method_12_code 4 (some .int) [] (rmo 0 0 0 0) #[.int (1 : Int32), .int (3 : Int32), .int (4 : Int32), fm] h n0 Ds (fun v h' Ds' => v = some (.int (1 : Int32)) ∧ h = h' ∧ Ds = Ds') := by
  refine ctr_of (Ls := #[.val (.int (1 : Int32)), .val (.int (3 : Int32)), .val (.int (4 : Int32)), .val fm]) (plainFor_of_name pn1) (fun mm => by rcases ref_cases hfm with rfl | ⟨_, rfl⟩ <;> first | (simp [entryFrame, mkF, argsToLocals, Value.category]; done) | rfl) ?_
  intro C hl hret hnm R
  subst hl
  replace R := (((((R.iloadN (pc' := 1) d14_0 rfl rfl).ifN (pc' := 4) d14_1 (flt (by decide : ¬ ((1 : Int32) < (0 : Int32)))).1 rfl).iloadN (pc' := 5) d14_4 rfl rfl).iloadN (pc' := 6) d14_5 rfl rfl).icmpN (pc' := 9) d14_6 (flt (by decide : ¬ ((3 : Int32) < (1 : Int32)))).2.2.1 rfl).iloadN (pc' := 10) d14_9 rfl rfl
  replace R := ((R.iloadN (pc' := 11) d14_10 rfl rfl).icmpY (pc' := 22) d14_11 (flt (by decide : ¬ ((4 : Int32) < (3 : Int32)))).2.2.2 (by decide) rfl).iloadN (pc' := 23) d14_22 rfl rfl
  exact R.retI (Ds' := Ds) hret d14_23 (by decide) (by decide) (fun _ q => q) ⟨rfl, rfl, rfl⟩
theorem rm_be1_3 (l : Launch) (Z : State) (a0 : Array Value) (hw : HW a0 Z) (h : Heap) (n0 : Nat) (Ds : List Addr) (own_si : SiooOk Z) :
    Ctr l Z (⟨"java/lang/String", "checkBoundsBeginEnd", "(III)V"⟩ : MethodName) jdk_42_method_158_code 3 none [] (rmo 1 0 0 15) #[.int (1 : Int32), .int (3 : Int32), .int (4 : Int32)] h n0 Ds (fun v h' Ds' => v = none ∧ h = h' ∧ Ds = Ds') := by
  refine ctr_of (Ls := #[.val (.int (1 : Int32)), .val (.int (3 : Int32)), .val (.int (4 : Int32))]) (plainFor_of_name pn0) (fun m => by first | (simp [entryFrame, mkF, argsToLocals, Value.category]; done) | rfl) ?_
  intro C hl hret hnm R
  subst hl
  obtain ⟨fm, S_fm, hfm⟩ := id own_si
  replace R := (((R.iloadN (pc' := 1) d13_0 rfl rfl).iloadN (pc' := 2) d13_1 rfl rfl).iloadN (pc' := 3) d13_2 rfl rfl).getS (pc' := 6) (host := "") (Or.inl (w68 hw)) Via.refl S_fm d13_3 rfl
  replace R := own_pure (R.callS (pc' := 9) (argsL := [(.int (1 : Int32)), (.int (3 : Int32)), (.int (4 : Int32)), fm]) (rest := []) (W := 0) (w70 hw) (w71 hw) (w69 hw) (w72 hw) (by decide) (rm_ft1_3 C.l Z a0 hw fm h n0 Ds hfm) rfl (lenOf pd5 rfl) rfl rfl d13_6 (by decide) (by decide) (by decide) (by decide) rfl)
  replace R := R.pop (pc' := 10) d13_9 rfl rfl
  exact R.retV (Ds' := Ds) hret d13_10 (by decide) (by decide) (fun _ q => q) ⟨rfl, rfl, rfl⟩
theorem rm_min3_2 (l : Launch) (Z : State) (a0 : Array Value) (hw : HW a0 Z) (h : Heap) (n0 : Nat) (Ds : List Addr) :
    Ctr l Z (⟨"java/lang/Math", "min", "(II)I"⟩ : MethodName) jdk_29_method_69_code 2 (some .int) [] (rmo 0 0 0 0) #[.int (3 : Int32), .int (2 : Int32)] h n0 Ds (fun v h' Ds' => v = some (.int (2 : Int32)) ∧ h = h' ∧ Ds = Ds') := by
  refine ctr_of (Ls := #[.val (.int (3 : Int32)), .val (.int (2 : Int32))]) (Jvm.Free.JP.mathPlain rfl (by decide +kernel)) (fun m => by first | (simp [entryFrame, mkF, argsToLocals, Value.category]; done) | rfl) ?_
  intro C hl hret hnm R
  subst hl
  replace R := (((R.iloadN (pc' := 1) d27_0 rfl rfl).iloadN (pc' := 2) d27_1 rfl rfl).icmpY (pc' := 9) d27_2 (tlt (by decide : (2 : Int32) < (3 : Int32))).2.2.1 (by decide) rfl).iloadN (pc' := 10) d27_9 rfl rfl
  exact R.retI (Ds' := Ds) hret d27_10 (by decide) (by decide) (fun _ q => q) ⟨rfl, rfl, rfl⟩
theorem rm_cl1_3 (l : Launch) (Z : State) (a0 : Array Value) (hw : HW a0 Z) (h : Heap) (n0 : Nat) (Ds : List Addr) :
    Ctr l Z (⟨"java/util/Arrays", "checkLength", "(II)V"⟩ : MethodName) jdk_65_method_131_code 2 none [] (rmo 0 0 0 0) #[.int (1 : Int32), .int (3 : Int32)] h n0 Ds (fun v h' Ds' => v = none ∧ h = h' ∧ Ds = Ds') := by
  refine ctr_of (Ls := #[.val (.int (1 : Int32)), .val (.int (3 : Int32))]) (plainFor_of_name pn3) (fun m => by first | (simp [entryFrame, mkF, argsToLocals, Value.category]; done) | rfl) ?_
  intro C hl hret hnm R
  subst hl
  replace R := ((R.iloadN (pc' := 1) d26_0 rfl rfl).iloadN (pc' := 2) d26_1 rfl rfl).icmpY (pc' := 37) d26_2 (flt (by decide : ¬ ((3 : Int32) < (1 : Int32)))).2.1 (by decide) rfl
  exact R.retV (Ds' := Ds) hret d26_37 (by decide) (by decide) (fun _ q => q) ⟨rfl, rfl, rfl⟩
theorem rm_crb1_3 (l : Launch) (Z : State) (a0 : Array Value) (hw : HW a0 Z) (h : Heap) (n0 : Nat) (Ds : List Addr) {x0 x1 x2 x3 : Int32} {t : Addr} {kt : ClassId} (V_t : Arv Z h t kt .byte (4 : Int32) [(.int x0.toInt8.toInt32), (.int x1.toInt8.toInt32), (.int x2.toInt8.toInt32), (.int x3.toInt8.toInt32)] (.int 0)) :
    Ctr l Z (⟨"java/util/Arrays", "copyOfRangeByte", "([BII)[B"⟩ : MethodName) jdk_65_method_133_code 5 (some (.array .byte)) [] (rmo 1 1 2 80) #[.ref t, .int (1 : Int32), .int (3 : Int32)] h n0 Ds (fun v h' Ds' => ∃ (r : Addr) (kr : ClassId), v = some (.ref r) ∧ Keep h h' [] ∧ Arv Z h' r kr .byte (2 : Int32) [(.int x1.toInt8.toInt32), (.int x2.toInt8.toInt32)] (.int 0) ∧ Ds = Ds') := by
  refine ctr_of (Ls := #[.val (.ref t), .val (.int (1 : Int32)), .val (.int (3 : Int32)), .unset, .unset]) (plainFor_of_name pn3) (fun m => by first | (simp [entryFrame, mkF, argsToLocals, Value.category]; done) | rfl) ?_
  intro C hl hret hnm R
  subst hl
  have hvl : t < h.size := V_t.lt
  replace R := (R.iloadN (pc' := 1) d25_0 rfl rfl).iloadN (pc' := 2) d25_1 rfl rfl
  replace R := own_pure0 (R.callS (pc' := 5) (argsL := [(.int (1 : Int32)), (.int (3 : Int32))]) (rest := []) (W := 0) (w120 hw) (w121 hw) (w115 hw) (w122 hw) (by decide) (rm_cl1_3 C.l Z a0 hw h n0 Ds) rfl (lenOf pd2 rfl) rfl rfl d25_2 (by decide) (by decide) (by decide) (by decide) rfl)
  replace R := (((((R.iloadN (pc' := 6) d25_5 rfl rfl).iloadN (pc' := 7) d25_6 rfl rfl).isub (pc' := 8) d25_7 rfl).stk (S' := [(.int (2 : Int32))]) rfl).istoreN (pc' := 9) (l' := #[.val (.ref t), .val (.int (1 : Int32)), .val (.int (3 : Int32)), .val (.int (2 : Int32)), .unset]) d25_8 rfl rfl).iloadN (pc' := 10) d25_9 rfl rfl
  obtain ⟨h1, b1, k1, g1, E1, V1, R⟩ := R.newP (pc' := 12) (aty := .byte) (cap := 2) (w23 hw) d25_10 (by decide) (by decide) (by decide) (by decide) (by decide) rfl
  have V1p : Arv Z h1 b1 k1 .byte (2 : Int32) [(.int (0 : Int32)), (.int (0 : Int32))] (.int (0 : Int32)) := V1.pad (pad_rep [] (.int (0 : Int32)) 2)
  replace R := (((((R.astore (pc' := 14) (l' := #[.val (.ref t), .val (.int (1 : Int32)), .val (.int (3 : Int32)), .val (.int (2 : Int32)), .val (.ref b1)]) d25_12 rfl rfl rfl).aloadN (pc' := 15) (v := (.ref t)) d25_14 rfl rfl rfl).iloadN (pc' := 16) d25_15 rfl rfl).aload (pc' := 18) (v := (.ref b1)) d25_16 rfl rfl rfl).iconst (pc' := 19) (z := (0 : Int32)) d25_18 rfl rfl).aloadN (pc' := 20) (v := (.ref t)) d25_19 rfl rfl rfl
  have K2 := ((Keep.refl h []).trans ((Keep.refl h []).ext E1) all0)
  have F3 := V_t.keep K2 nin0
  replace R := ((((R.arraylength (pc' := 21) F3 d25_20 rfl).iloadN (pc' := 22) d25_21 rfl rfl).isub (pc' := 23) d25_22 rfl).stk (S' := [(.int (3 : Int32)), (.int (0 : Int32)), (.ref b1), (.int (1 : Int32)), (.ref t)]) rfl).iloadN (pc' := 24) d25_23 rfl rfl
  replace R := own_pure (R.callS (pc' := 27) (argsL := [(.int (3 : Int32)), (.int (2 : Int32))]) (rest := [(.int (0 : Int32)), (.ref b1), (.int (1 : Int32)), (.ref t)]) (W := 4) (w123 hw) (w124 hw) (w125 hw) (w126 hw) (by decide) (rm_min3_2 C.l Z a0 hw h1 n0 (b1 :: Ds)) rfl (lenOf pd9 rfl) rfl rfl d25_24 (by decide) (by decide) (by decide) (by decide) rfl)
  have nvb : t ≠ b1 := fun e => by rw [e, g1] at hvl; exact Nat.lt_irrefl _ hvl
  obtain ⟨h4, K4, V4, R⟩ := R.copyB (pc' := 30) (W := 0) (nn := (2 : Int32)) (us := [(.int x1.toInt8.toInt32), (.int x2.toInt8.toInt32)]) (w127 hw) (w130 hw) (w128 hw) (w129 hw) F3 V1p rfl (by decide) (by decide) (by decide) (by decide) (by decide) rfl (Nat.le_of_ble_eq_true rfl) (List.mem_of_getElem? (i := 0) rfl) rfl d25_27 (by decide) rfl (by decide) rfl
  have V4p : Arv Z h4 b1 k1 .byte (2 : Int32) [(.int x1.toInt8.toInt32), (.int x2.toInt8.toInt32)] (.int (0 : Int32)) := V4
  replace R := R.aload (pc' := 32) (v := (.ref b1)) d25_30 rfl rfl rfl
  have hK := (((Keep.refl h []).trans ((Keep.refl h []).ext E1) all0).trans K4 (allS (Or.inr (by rw [g1]; exact (Nat.le_refl _))) all0))
  exact R.retA (Ds' := Ds) hret rfl rfl rfl d25_32 (by decide) (by decide) (fun _ q => (fun q => (List.mem_cons_of_mem _ q)) q) ⟨b1, _, rfl, hK, V4p, rfl⟩
theorem rm_cr1_3 (l : Launch) (Z : State) (a0 : Array Value) (hw : HW a0 Z) (h : Heap) (n0 : Nat) (Ds : List Addr) {x0 x1 x2 x3 : Int32} {t : Addr} {kt : ClassId} (V_t : Arv Z h t kt .byte (4 : Int32) [(.int x0.toInt8.toInt32), (.int x1.toInt8.toInt32), (.int x2.toInt8.toInt32), (.int x3.toInt8.toInt32)] (.int 0)) :
    Ctr l Z (⟨"java/util/Arrays", "copyOfRange", "([BII)[B"⟩ : MethodName) jdk_65_method_132_code 3 (some (.array .byte)) [] (rmo 2 1 2 96) #[.ref t, .int (1 : Int32), .int (3 : Int32)] h n0 Ds (fun v h' Ds' => ∃ (r : Addr) (kr : ClassId), v = some (.ref r) ∧ Keep h h' [] ∧ Arv Z h' r kr .byte (2 : Int32) [(.int x1.toInt8.toInt32), (.int x2.toInt8.toInt32)] (.int 0) ∧ Ds = Ds') := by
  refine ctr_of (Ls := #[.val (.ref t), .val (.int (1 : Int32)), .val (.int (3 : Int32))]) (plainFor_of_name pn3) (fun m => by first | (simp [entryFrame, mkF, argsToLocals, Value.category]; done) | rfl) ?_
  intro C hl hret hnm R
  subst hl
  have hvl : t < h.size := V_t.lt
  replace R := ((((R.iloadN (pc' := 1) d24_0 rfl rfl).ifY (pc' := 10) d24_1 (feq (by decide : ¬ ((1 : Int32) = (0 : Int32)))).2 (by decide) rfl).aloadN (pc' := 11) (v := (.ref t)) d24_10 rfl rfl rfl).iloadN (pc' := 12) d24_11 rfl rfl).iloadN (pc' := 13) d24_12 rfl rfl
  obtain ⟨_, h1, _, ⟨r1, k1, rfl, K1, V1, rfl⟩, R⟩ := R.callS (pc' := 16) (argsL := [(.ref t), (.int (1 : Int32)), (.int (3 : Int32))]) (rest := []) (W := 0) (w117 hw) (w118 hw) (w115 hw) (w119 hw) (by decide) (rm_crb1_3 C.l Z a0 hw h n0 Ds V_t) rfl (lenOf pd10 rfl) rfl rfl d24_13 (by decide) (by decide) (by decide) (by decide) rfl
  replace R := (R.mono (ce' := 1) (sl' := 2) (by decide) (by decide)).stk (S' := [(.ref r1)]) rfl
  have hK := ((Keep.refl h []).trans K1 all0)
  exact R.retA (Ds' := Ds) hret rfl rfl rfl d24_16 (by decide) (by decide) (fun _ q => q) ⟨r1, _, rfl, hK, V1, rfl⟩
theorem rm_ns1_3 (l : Launch) (Z : State) (a0 : Array Value) (hw : HW a0 Z) (h : Heap) (n0 : Nat) (Ds : List Addr) {x0 x1 x2 x3 : Int32} (hok : ∀ c ∈ ([x0, x1, x2, x3] : List Int32), ¬ c < 0 ∧ ¬ (255 : Int32) < c) {t : Addr} {kt : ClassId} (V_t : Arv Z h t kt .byte (4 : Int32) [(.int x0.toInt8.toInt32), (.int x1.toInt8.toInt32), (.int x2.toInt8.toInt32), (.int x3.toInt8.toInt32)] (.int 0)) :
    Ctr l Z (⟨"java/lang/StringLatin1", "newString", "([BII)Ljava/lang/String;"⟩ : MethodName) jdk_43_method_47_code 3 (some (.object "java/lang/String")) [] (rmo 3 2 6 112) #[.ref t, .int (1 : Int32), .int (2 : Int32)] h n0 Ds (fun v h' Ds' => ∃ r : Addr, v = some (.ref r) ∧ IsStr Z h' r [x1, x2] ∧ Keep h h' [] ∧ Ds = Ds') := by
  refine ctr_of (Ls := #[.val (.ref t), .val (.int (1 : Int32)), .val (.int (2 : Int32))]) (plainFor_of_name pn2) (fun m => by first | (simp [entryFrame, mkF, argsToLocals, Value.category]; done) | rfl) ?_
  intro C hl hret hnm R
  subst hl
  replace R := (R.iloadN (pc' := 1) d16_0 rfl rfl).ifY (pc' := 7) d16_1 (feq (by decide : ¬ ((2 : Int32) = (0 : Int32)))).2 (by decide) rfl
  obtain ⟨h1, b1, g1, E1, X1, D1, R⟩ := R.newO (pc' := 10) (w112 hw) (w6 hw) (w7 hw) d16_7 (by decide) (by decide) rfl
  have F1_coder : Fld Z h1 b1 "java/lang/String" "coder" "B" (.int (0 : Int32)) := D1 (Or.inr (w31 hw)) (ty := .byte) (by decide)
  have F1_value : Fld Z h1 b1 "java/lang/String" "value" "[B" .null := D1 (Or.inr (w33 hw)) (ty := (.array .byte)) (by decide)
  replace R := (((((R.dup (pc' := 11) d16_10 rfl rfl).aloadN (pc' := 12) (v := (.ref t)) d16_11 rfl rfl rfl).iloadN (pc' := 13) d16_12 rfl rfl).iloadN (pc' := 14) d16_13 rfl rfl).iloadN (pc' := 15) d16_14 rfl rfl).iadd (pc' := 16) d16_15 rfl
  replace R := R.stk (S' := [(.int (3 : Int32)), (.int (1 : Int32)), (.ref t), (.ref b1), (.ref b1)]) rfl
  have K3 := ((Keep.refl h []).trans ((Keep.refl h []).ext E1) all0)
  have F4 := V_t.keep K3 nin0
  obtain ⟨_, h2, _, ⟨r2, k2, rfl, K2, V2, rfl⟩, R⟩ := R.callS (pc' := 19) (argsL := [(.ref t), (.int (1 : Int32)), (.int (3 : Int32))]) (rest := [(.ref b1), (.ref b1)]) (W := 2) (w113 hw) (w114 hw) (w115 hw) (w116 hw) (by decide) (rm_cr1_3 C.l Z a0 hw h1 n0 (b1 :: Ds) F4) rfl (lenOf pd10 rfl) rfl rfl d16_16 (by decide) (by decide) (by decide) (by decide) rfl
  replace R := ((R.mono (ce' := 2) (sl' := 6) (by decide) (by decide)).stk (S' := [(.ref r2), (.ref b1), (.ref b1)]) rfl).iconst (pc' := 20) (z := (0 : Int32)) d16_19 rfl rfl
  have K6 := ((Keep.refl h1 []).trans K2 all0)
  have F7 := X1.keep K6
  have nab : b1 ≠ r2 := Exa.neArv F7 V2 (w6 hw)
  have K8 := ((Keep.refl h1 []).trans K2 all0)
  have F9 := F1_value.keep K8 nin0
  have K10 := ((Keep.refl h1 []).trans K2 all0)
  have F11 := F1_coder.keep K10 nin0
  obtain ⟨_, h5, _, ⟨rfl, K5, X5, F5_v, F5_c, rfl⟩, R⟩ := R.callI (pc' := 23) (a := b1) (argsL := [(.ref r2), (.int (0 : Int32))]) (rest := [(.ref b1)]) (W := 1) rfl (w131 hw) (w132 hw) (w7 hw) (w133 hw) (by decide) (rm_bb C.l Z a0 hw b1 r2 h2 n0 (b1 :: Ds) (List.mem_of_getElem? (i := 0) rfl) F7 F9 F11) rfl (lenOf pd11 rfl) rfl rfl d16_20 (by decide) (by decide) (by decide) (by decide) rfl
  replace R := (R.mono (ce' := 2) (sl' := 6) (by decide) (by decide)).stk (S' := [(.ref b1)]) rfl
  have hK := ((((Keep.refl h []).trans ((Keep.refl h []).ext E1) all0).trans K2 all0).trans K5 (allS (Or.inr (by rw [g1]; exact (Nat.le_refl _))) all0))
  have K12 := ((Keep.refl h2 [b1]).trans K5 (allS (Or.inl (List.mem_of_getElem? (i := 0) rfl)) all0))
  have F13 := V2.keep K12 (ninS (Ne.symm nab) nin0)
  exact R.retA (Ds' := Ds) hret rfl rfl rfl d16_23 (by decide) (by decide) (fun _ q => (fun q => (List.mem_cons_of_mem _ q)) q) ⟨b1, rfl, ⟨X5, F5_c, (chS (hok x1 (List.mem_of_getElem? (i := 1) rfl)) (chS (hok x2 (List.mem_of_getElem? (i := 2) rfl)) ch0)), Nat.le_of_ble_eq_true rfl, r2, _, F5_v, F13⟩, hK, rfl⟩
theorem rm_su1_3 (l : Launch) (Z : State) (a0 : Array Value) (hw : HW a0 Z) (a : Addr) (h : Heap) (n0 : Nat) (Ds : List Addr) (own_cs : CompactOn Z) (own_si : SiooOk Z) {x0 x1 x2 x3 : Int32} (S_a : IsStr Z h a [x0, x1, x2, x3]) :
    Ctr l Z (⟨"java/lang/String", "substring", "(II)Ljava/lang/String;"⟩ : MethodName) jdk_42_method_92_code 5 (some (.object "java/lang/String")) [] (rmo 4 2 7 126) #[.ref a, .int (1 : Int32), .int (3 : Int32)] h n0 Ds (fun v h' Ds' => ∃ r : Addr, v = some (.ref r) ∧ IsStr Z h' r [x1, x2] ∧ Keep h h' [] ∧ Ds = Ds') := by
  refine ctr_of (Ls := #[.val (.ref a), .val (.int (1 : Int32)), .val (.int (3 : Int32)), .unset, .unset]) (plainFor_of_name pn0) (fun m => by first | (simp [entryFrame, mkF, argsToLocals, Value.category]; done) | rfl) ?_
  intro C hl hret hnm R
  subst hl
  have S_0 := S_a
  obtain ⟨e1, e2, e3, e4, t, kt, e5, e6⟩ := S_a
  have e7 : Arv Z h t kt .byte (4 : Int32) [(.int x0.toInt8.toInt32), (.int x1.toInt8.toInt32), (.int x2.toInt8.toInt32), (.int x3.toInt8.toInt32)] (.int 0) := e6
  have hok := e3
  have V_t := e7
  replace R := R.aloadN (pc' := 1) (v := (.ref a)) d10_0 rfl rfl rfl
  replace R := own_pure (R.callV (pc' := 4) (y := (⟨"java/lang/String", "length", "()I"⟩ : MethodName)) (z := (⟨"java/lang/String", "length", "()I"⟩ : MethodName)) (argsL := []) (rest := []) (W := 0) (w55 hw) (w56 hw) (fun s' hZ' => notFace_of_selects (args := #[]) (mvT hZ' (w58 hw))) (w58 hw) (w57 hw) (w7 hw) (w59 hw) (by decide) e1 (rm_length C.l Z a0 hw a h n0 Ds own_cs S_0) rfl (lenOf pd6 rfl) rfl rfl d10_1 (by decide) (by decide) (by decide) (by decide) rfl)
  replace R := (((R.istoreN (pc' := 5) (l' := #[.val (.ref a), .val (.int (1 : Int32)), .val (.int (3 : Int32)), .val (.int (4 : Int32)), .unset]) d10_4 rfl rfl).iloadN (pc' := 6) d10_5 rfl rfl).iloadN (pc' := 7) d10_6 rfl rfl).iloadN (pc' := 8) d10_7 rfl rfl
  replace R := own_pure0 (R.callS (pc' := 11) (argsL := [(.int (1 : Int32)), (.int (3 : Int32)), (.int (4 : Int32))]) (rest := []) (W := 0) (w65 hw) (w66 hw) (w7 hw) (w67 hw) (by decide) (rm_be1_3 C.l Z a0 hw h n0 Ds own_si) rfl (lenOf pd7 rfl) rfl rfl d10_8 (by decide) (by decide) (by decide) (by decide) rfl)
  replace R := (((((R.iloadN (pc' := 12) d10_11 rfl rfl).ifY (pc' := 22) d10_12 (feq (by decide : ¬ ((1 : Int32) = (0 : Int32)))).2 (by decide) rfl).iloadN (pc' := 23) d10_22 rfl rfl).iloadN (pc' := 24) d10_23 rfl rfl).isub (pc' := 25) d10_24 rfl).stk (S' := [(.int (2 : Int32))]) rfl
  replace R := (R.istore (pc' := 27) (l' := #[.val (.ref a), .val (.int (1 : Int32)), .val (.int (3 : Int32)), .val (.int (4 : Int32)), .val (.int (2 : Int32))]) d10_25 rfl rfl).aloadN (pc' := 28) (v := (.ref a)) d10_27 rfl rfl rfl
  replace R := own_pure (R.callV (pc' := 31) (y := (⟨"java/lang/String", "isLatin1", "()Z"⟩ : MethodName)) (z := (⟨"java/lang/String", "isLatin1", "()Z"⟩ : MethodName)) (argsL := []) (rest := []) (W := 0) (w73 hw) (w74 hw) (fun s' hZ' => notFace_of_selects (args := #[]) (mvT hZ' (w76 hw))) (w76 hw) (w75 hw) (w7 hw) (w77 hw) (by decide) e1 (rm_isLatin1 C.l Z a0 hw a h n0 Ds own_cs e2) rfl (lenOf pd3 rfl) rfl rfl d10_28 (by decide) (by decide) (by decide) (by decide) rfl)
  replace R := ((((R.ifN (pc' := 34) d10_31 (feq (by decide : ¬ ((1 : Int32) = (0 : Int32)))).1 rfl).aloadN (pc' := 35) (v := (.ref a)) d10_34 rfl rfl rfl).getF (pc' := 38) (host := "") (Or.inl (w32 hw)) Via.refl e5 d10_35 rfl).iloadN (pc' := 39) d10_38 rfl rfl).iload (pc' := 41) d10_39 rfl rfl
  obtain ⟨_, h1, _, ⟨r1, rfl, S1, K1, rfl⟩, R⟩ := R.callS (pc' := 44) (argsL := [(.ref t), (.int (1 : Int32)), (.int (2 : Int32))]) (rest := []) (W := 0) (w78 hw) (w79 hw) (w80 hw) (w81 hw) (by decide) (rm_ns1_3 C.l Z a0 hw h n0 Ds hok e7) rfl (lenOf pd8 rfl) rfl rfl d10_41 (by decide) (by decide) (by decide) (by decide) rfl
  replace R := ((R.mono (ce' := 2) (sl' := 6) (by decide) (by decide)).stk (S' := [(.ref r1)]) rfl).goto (pc' := 57) d10_44 (by decide) rfl
  have hK : Keep h h1 [] := ((Keep.refl h []).trans K1 all0)
  exact R.retA (Ds' := Ds) hret rfl rfl rfl d10_57 (by decide) (by decide) (fun _ q => q) ⟨r1, rfl, S1, hK, rfl⟩
theorem rm_ft1_4 (l : Launch) (Z : State) (a0 : Array Value) (hw : HW a0 Z) (fm : Value) (h : Heap) (n0 : Nat) (Ds : List Addr) (hfm : fm.isRef = true) :
    Ctr l Z (⟨"jdk/internal/util/Preconditions", "checkFromToIndex", "(IIILjava/util/function/BiFunction;)I"⟩ : MethodName) jdk_41_method_12_code 4 (some .int) [] (rmo 0 0 0 0) #[.int (1 : Int32), .int (4 : Int32), .int (4 : Int32), fm] h n0 Ds (fun v h' Ds' => v = some (.int (1 : Int32)) ∧ h = h' ∧ Ds = Ds') := by
  refine ctr_of (Ls := #[.val (.int (1 : Int32)), .val (.int (4 : Int32)), .val (.int (4 : Int32)), .val fm]) (plainFor_of_name pn1) (fun mm => by rcases ref_cases hfm with rfl | ⟨_, rfl⟩ <;> first | (simp [entryFrame, mkF, argsToLocals, Value.category]; done) | rfl) ?_
  intro C hl hret hnm R
  subst hl
  replace R := (((((R.iloadN (pc' := 1) d14_0 rfl rfl).ifN (pc' := 4) d14_1 (flt (by decide : ¬ ((1 : Int32) < (0 : Int32)))).1 rfl).iloadN (pc' := 5) d14_4 rfl rfl).iloadN (pc' := 6) d14_5 rfl rfl).icmpN (pc' := 9) d14_6 (flt (by decide : ¬ ((4 : Int32) < (1 : Int32)))).2.2.1 rfl).iloadN (pc' := 10) d14_9 rfl rfl
  replace R := ((R.iloadN (pc' := 11) d14_10 rfl rfl).icmpY (pc' := 22) d14_11 (flt (by decide : ¬ ((4 : Int32) < (4 : Int32)))).2.2.2 (by decide) rfl).iloadN (pc' := 23) d14_22 rfl rfl
  exact R.retI (Ds' := Ds) hret d14_23 (by decide) (by decide) (fun _ q => q) ⟨rfl, rfl, rfl⟩
theorem rm_be1_4 (l : Launch) (Z : State) (a0 : Array Value) (hw : HW a0 Z) (h : Heap) (n0 : Nat) (Ds : List Addr) (own_si : SiooOk Z) :
    Ctr l Z (⟨"java/lang/String", "checkBoundsBeginEnd", "(III)V"⟩ : MethodName) jdk_42_method_158_code 3 none [] (rmo 1 0 0 15) #[.int (1 : Int32), .int (4 : Int32), .int (4 : Int32)] h n0 Ds (fun v h' Ds' => v = none ∧ h = h' ∧ Ds = Ds') := by
  refine ctr_of (Ls := #[.val (.int (1 : Int32)), .val (.int (4 : Int32)), .val (.int (4 : Int32))]) (plainFor_of_name pn0) (fun m => by first | (simp [entryFrame, mkF, argsToLocals, Value.category]; done) | rfl) ?_
  intro C hl hret hnm R
  subst hl
  obtain ⟨fm, S_fm, hfm⟩ := id own_si
  replace R := (((R.iloadN (pc' := 1) d13_0 rfl rfl).iloadN (pc' := 2) d13_1 rfl rfl).iloadN (pc' := 3) d13_2 rfl rfl).getS (pc' := 6) (host := "") (Or.inl (w68 hw)) Via.refl S_fm d13_3 rfl
  replace R := own_pure (R.callS (pc' := 9) (argsL := [(.int (1 : Int32)), (.int (4 : Int32)), (.int (4 : Int32)), fm]) (rest := []) (W := 0) (w70 hw) (w71 hw) (w69 hw) (w72 hw) (by decide) (rm_ft1_4 C.l Z a0 hw fm h n0 Ds hfm) rfl (lenOf pd5 rfl) rfl rfl d13_6 (by decide) (by decide) (by decide) (by decide) rfl)
  replace R := R.pop (pc' := 10) d13_9 rfl rfl
  exact R.retV (Ds' := Ds) hret d13_10 (by decide) (by decide) (fun _ q => q) ⟨rfl, rfl, rfl⟩
theorem rm_min3_3 (l : Launch) (Z : State) (a0 : Array Value) (hw : HW a0 Z) (h : Heap) (n0 : Nat) (Ds : List Addr) :
    Ctr l Z (⟨"java/lang/Math", "min", "(II)I"⟩ : MethodName) jdk_29_method_69_code 2 (some .int) [] (rmo 0 0 0 0) #[.int (3 : Int32), .int (3 : Int32)] h n0 Ds (fun v h' Ds' => v = some (.int (3 : Int32)) ∧ h = h' ∧ Ds = Ds') := by
  refine ctr_of (Ls := #[.val (.int (3 : Int32)), .val (.int (3 : Int32))]) (Jvm.Free.JP.mathPlain rfl (by decide +kernel)) (fun m => by first | (simp [entryFrame, mkF, argsToLocals, Value.category]; done) | rfl) ?_
  intro C hl hret hnm R
  subst hl
  replace R := ((((R.iloadN (pc' := 1) d27_0 rfl rfl).iloadN (pc' := 2) d27_1 rfl rfl).icmpN (pc' := 5) d27_2 (flt (by decide : ¬ ((3 : Int32) < (3 : Int32)))).2.2.1 rfl).iloadN (pc' := 6) d27_5 rfl rfl).goto (pc' := 10) d27_6 (by decide) rfl
  exact R.retI (Ds' := Ds) hret d27_10 (by decide) (by decide) (fun _ q => q) ⟨rfl, rfl, rfl⟩
theorem rm_cl1_4 (l : Launch) (Z : State) (a0 : Array Value) (hw : HW a0 Z) (h : Heap) (n0 : Nat) (Ds : List Addr) :
    Ctr l Z (⟨"java/util/Arrays", "checkLength", "(II)V"⟩ : MethodName) jdk_65_method_131_code 2 none [] (rmo 0 0 0 0) #[.int (1 : Int32), .int (4 : Int32)] h n0 Ds (fun v h' Ds' => v = none ∧ h = h' ∧ Ds = Ds') := by
  refine ctr_of (Ls := #[.val (.int (1 : Int32)), .val (.int (4 : Int32))]) (plainFor_of_name pn3) (fun m => by first | (simp [entryFrame, mkF, argsToLocals, Value.category]; done) | rfl) ?_
  intro C hl hret hnm R
  subst hl
  replace R := ((R.iloadN (pc' := 1) d26_0 rfl rfl).iloadN (pc' := 2) d26_1 rfl rfl).icmpY (pc' := 37) d26_2 (flt (by decide : ¬ ((4 : Int32) < (1 : Int32)))).2.1 (by decide) rfl
  exact R.retV (Ds' := Ds) hret d26_37 (by decide) (by decide) (fun _ q => q) ⟨rfl, rfl, rfl⟩
theorem rm_crb1_4 (l : Launch) (Z : State) (a0 : Array Value) (hw : HW a0 Z) (h : Heap) (n0 : Nat) (Ds : List Addr) {x0 x1 x2 x3 : Int32} {t : Addr} {kt : ClassId} (V_t : Arv Z h t kt .byte (4 : Int32) [(.int x0.toInt8.toInt32), (.int x1.toInt8.toInt32), (.int x2.toInt8.toInt32), (.int x3.toInt8.toInt32)] (.int 0)) :
    Ctr l Z (⟨"java/util/Arrays", "copyOfRangeByte", "([BII)[B"⟩ : MethodName) jdk_65_method_133_code 5 (some (.array .byte)) [] (rmo 1 1 3 80) #[.ref t, .int (1 : Int32), .int (4 : Int32)] h n0 Ds (fun v h' Ds' => ∃ (r : Addr) (kr : ClassId), v = some (.ref r) ∧ Keep h h' [] ∧ Arv Z h' r kr .byte (3 : Int32) [(.int x1.toInt8.toInt32), (.int x2.toInt8.toInt32), (.int x3.toInt8.toInt32)] (.int 0) ∧ Ds = Ds') := by
  refine ctr_of (Ls := #[.val (.ref t), .val (.int (1 : Int32)), .val (.int (4 : Int32)), .unset, .unset]) (plainFor_of_name pn3) (fun m => by first | (simp [entryFrame, mkF, argsToLocals, Value.category]; done) | rfl) ?_
  intro C hl hret hnm R
  subst hl
  have hvl : t < h.size := V_t.lt
  replace R := (R.iloadN (pc' := 1) d25_0 rfl rfl).iloadN (pc' := 2) d25_1 rfl rfl
  replace R := own_pure0 (R.callS (pc' := 5) (argsL := [(.int (1 : Int32)), (.int (4 : Int32))]) (rest := []) (W := 0) (w120 hw) (w121 hw) (w115 hw) (w122 hw) (by decide) (rm_cl1_4 C.l Z a0 hw h n0 Ds) rfl (lenOf pd2 rfl) rfl rfl d25_2 (by decide) (by decide) (by decide) (by decide) rfl)
  replace R := (((((R.iloadN (pc' := 6) d25_5 rfl rfl).iloadN (pc' := 7) d25_6 rfl rfl).isub (pc' := 8) d25_7 rfl).stk (S' := [(.int (3 : Int32))]) rfl).istoreN (pc' := 9) (l' := #[.val (.ref t), .val (.int (1 : Int32)), .val (.int (4 : Int32)), .val (.int (3 : Int32)), .unset]) d25_8 rfl rfl).iloadN (pc' := 10) d25_9 rfl rfl
  obtain ⟨h1, b1, k1, g1, E1, V1, R⟩ := R.newP (pc' := 12) (aty := .byte) (cap := 3) (w23 hw) d25_10 (by decide) (by decide) (by decide) (by decide) (by decide) rfl
  have V1p : Arv Z h1 b1 k1 .byte (3 : Int32) [(.int (0 : Int32)), (.int (0 : Int32)), (.int (0 : Int32))] (.int (0 : Int32)) := V1.pad (pad_rep [] (.int (0 : Int32)) 3)
  replace R := (((((R.astore (pc' := 14) (l' := #[.val (.ref t), .val (.int (1 : Int32)), .val (.int (4 : Int32)), .val (.int (3 : Int32)), .val (.ref b1)]) d25_12 rfl rfl rfl).aloadN (pc' := 15) (v := (.ref t)) d25_14 rfl rfl rfl).iloadN (pc' := 16) d25_15 rfl rfl).aload (pc' := 18) (v := (.ref b1)) d25_16 rfl rfl rfl).iconst (pc' := 19) (z := (0 : Int32)) d25_18 rfl rfl).aloadN (pc' := 20) (v := (.ref t)) d25_19 rfl rfl rfl
  have K2 := ((Keep.refl h []).trans ((Keep.refl h []).ext E1) all0)
  have F3 := V_t.keep K2 nin0
  replace R := ((((R.arraylength (pc' := 21) F3 d25_20 rfl).iloadN (pc' := 22) d25_21 rfl rfl).isub (pc' := 23) d25_22 rfl).stk (S' := [(.int (3 : Int32)), (.int (0 : Int32)), (.ref b1), (.int (1 : Int32)), (.ref t)]) rfl).iloadN (pc' := 24) d25_23 rfl rfl
  replace R := own_pure (R.callS (pc' := 27) (argsL := [(.int (3 : Int32)), (.int (3 : Int32))]) (rest := [(.int (0 : Int32)), (.ref b1), (.int (1 : Int32)), (.ref t)]) (W := 4) (w123 hw) (w124 hw) (w125 hw) (w126 hw) (by decide) (rm_min3_3 C.l Z a0 hw h1 n0 (b1 :: Ds)) rfl (lenOf pd9 rfl) rfl rfl d25_24 (by decide) (by decide) (by decide) (by decide) rfl)
  have nvb : t ≠ b1 := fun e => by rw [e, g1] at hvl; exact Nat.lt_irrefl _ hvl
  obtain ⟨h4, K4, V4, R⟩ := R.copyB (pc' := 30) (W := 0) (nn := (3 : Int32)) (us := [(.int x1.toInt8.toInt32), (.int x2.toInt8.toInt32), (.int x3.toInt8.toInt32)]) (w127 hw) (w130 hw) (w128 hw) (w129 hw) F3 V1p rfl (by decide) (by decide) (by decide) (by decide) (by decide) rfl (Nat.le_of_ble_eq_true rfl) (List.mem_of_getElem? (i := 0) rfl) rfl d25_27 (by decide) rfl (by decide) rfl
  have V4p : Arv Z h4 b1 k1 .byte (3 : Int32) [(.int x1.toInt8.toInt32), (.int x2.toInt8.toInt32), (.int x3.toInt8.toInt32)] (.int (0 : Int32)) := V4
  replace R := R.aload (pc' := 32) (v := (.ref b1)) d25_30 rfl rfl rfl
  have hK := (((Keep.refl h []).trans ((Keep.refl h []).ext E1) all0).trans K4 (allS (Or.inr (by rw [g1]; exact (Nat.le_refl _))) all0))
  exact R.retA (Ds' := Ds) hret rfl rfl rfl d25_32 (by decide) (by decide) (fun _ q => (fun q => (List.mem_cons_of_mem _ q)) q) ⟨b1, _, rfl, hK, V4p, rfl⟩
theorem rm_cr1_4 (l : Launch) (Z : State) (a0 : Array Value) (hw : HW a0 Z) (h : Heap) (n0 : Nat) (Ds : List Addr) {x0 x1 x2 x3 : Int32} {t : Addr} {kt : ClassId} (V_t : Arv Z h t kt .byte (4 : Int32) [(.int x0.toInt8.toInt32), (.int x1.toInt8.toInt32), (.int x2.toInt8.toInt32), (.int x3.toInt8.toInt32)] (.int 0)) :
    Ctr l Z (⟨"java/util/Arrays", "copyOfRange", "([BII)[B"⟩ : MethodName) jdk_65_method_132_code 3 (some (.array .byte)) [] (rmo 2 1 3 96) #[.ref t, .int (1 : Int32), .int (4 : Int32)] h n0 Ds (fun v h' Ds' => ∃ (r : Addr) (kr : ClassId), v = some (.ref r) ∧ Keep h h' [] ∧ Arv Z h' r kr .byte (3 : Int32) [(.int x1.toInt8.toInt32), (.int x2.toInt8.toInt32), (.int x3.toInt8.toInt32)] (.int 0) ∧ Ds = Ds') := by
  refine ctr_of (Ls := #[.val (.ref t), .val (.int (1 : Int32)), .val (.int (4 : Int32))]) (plainFor_of_name pn3) (fun m => by first | (simp [entryFrame, mkF, argsToLocals, Value.category]; done) | rfl) ?_
  intro C hl hret hnm R
  subst hl
  have hvl : t < h.size := V_t.lt
  replace R := ((((R.iloadN (pc' := 1) d24_0 rfl rfl).ifY (pc' := 10) d24_1 (feq (by decide : ¬ ((1 : Int32) = (0 : Int32)))).2 (by decide) rfl).aloadN (pc' := 11) (v := (.ref t)) d24_10 rfl rfl rfl).iloadN (pc' := 12) d24_11 rfl rfl).iloadN (pc' := 13) d24_12 rfl rfl
  obtain ⟨_, h1, _, ⟨r1, k1, rfl, K1, V1, rfl⟩, R⟩ := R.callS (pc' := 16) (argsL := [(.ref t), (.int (1 : Int32)), (.int (4 : Int32))]) (rest := []) (W := 0) (w117 hw) (w118 hw) (w115 hw) (w119 hw) (by decide) (rm_crb1_4 C.l Z a0 hw h n0 Ds V_t) rfl (lenOf pd10 rfl) rfl rfl d24_13 (by decide) (by decide) (by decide) (by decide) rfl
  replace R := (R.mono (ce' := 1) (sl' := 3) (by decide) (by decide)).stk (S' := [(.ref r1)]) rfl
  have hK := ((Keep.refl h []).trans K1 all0)
  exact R.retA (Ds' := Ds) hret rfl rfl rfl d24_16 (by decide) (by decide) (fun _ q => q) ⟨r1, _, rfl, hK, V1, rfl⟩
theorem rm_ns1_4 (l : Launch) (Z : State) (a0 : Array Value) (hw : HW a0 Z) (h : Heap) (n0 : Nat) (Ds : List Addr) {x0 x1 x2 x3 : Int32} (hok : ∀ c ∈ ([x0, x1, x2, x3] : List Int32), ¬ c < 0 ∧ ¬ (255 : Int32) < c) {t : Addr} {kt : ClassId} (V_t : Arv Z h t kt .byte (4 : Int32) [(.int x0.toInt8.toInt32), (.int x1.toInt8.toInt32), (.int x2.toInt8.toInt32), (.int x3.toInt8.toInt32)] (.int 0)) :
    Ctr l Z (⟨"java/lang/StringLatin1", "newString", "([BII)Ljava/lang/String;"⟩ : MethodName) jdk_43_method_47_code 3 (some (.object "java/lang/String")) [] (rmo 3 2 7 112) #[.ref t, .int (1 : Int32), .int (3 : Int32)] h n0 Ds (fun v h' Ds' => ∃ r : Addr, v = some (.ref r) ∧ IsStr Z h' r [x1, x2, x3] ∧ Keep h h' [] ∧ Ds = Ds') := by
  refine ctr_of (Ls := #[.val (.ref t), .val (.int (1 : Int32)), .val (.int (3 : Int32))]) (plainFor_of_name pn2) (fun m => by first | (simp [entryFrame, mkF, argsToLocals, Value.category]; done) | rfl) ?_
  intro C hl hret hnm R
  subst hl
  replace R := (R.iloadN (pc' := 1) d16_0 rfl rfl).ifY (pc' := 7) d16_1 (feq (by decide : ¬ ((3 : Int32) = (0 : Int32)))).2 (by decide) rfl
  obtain ⟨h1, b1, g1, E1, X1, D1, R⟩ := R.newO (pc' := 10) (w112 hw) (w6 hw) (w7 hw) d16_7 (by decide) (by decide) rfl
  have F1_coder : Fld Z h1 b1 "java/lang/String" "coder" "B" (.int (0 : Int32)) := D1 (Or.inr (w31 hw)) (ty := .byte) (by decide)
  have F1_value : Fld Z h1 b1 "java/lang/String" "value" "[B" .null := D1 (Or.inr (w33 hw)) (ty := (.array .byte)) (by decide)
  replace R := (((((R.dup (pc' := 11) d16_10 rfl rfl).aloadN (pc' := 12) (v := (.ref t)) d16_11 rfl rfl rfl).iloadN (pc' := 13) d16_12 rfl rfl).iloadN (pc' := 14) d16_13 rfl rfl).iloadN (pc' := 15) d16_14 rfl rfl).iadd (pc' := 16) d16_15 rfl
  replace R := R.stk (S' := [(.int (4 : Int32)), (.int (1 : Int32)), (.ref t), (.ref b1), (.ref b1)]) rfl
  have K3 := ((Keep.refl h []).trans ((Keep.refl h []).ext E1) all0)
  have F4 := V_t.keep K3 nin0
  obtain ⟨_, h2, _, ⟨r2, k2, rfl, K2, V2, rfl⟩, R⟩ := R.callS (pc' := 19) (argsL := [(.ref t), (.int (1 : Int32)), (.int (4 : Int32))]) (rest := [(.ref b1), (.ref b1)]) (W := 2) (w113 hw) (w114 hw) (w115 hw) (w116 hw) (by decide) (rm_cr1_4 C.l Z a0 hw h1 n0 (b1 :: Ds) F4) rfl (lenOf pd10 rfl) rfl rfl d16_16 (by decide) (by decide) (by decide) (by decide) rfl
  replace R := ((R.mono (ce' := 2) (sl' := 7) (by decide) (by decide)).stk (S' := [(.ref r2), (.ref b1), (.ref b1)]) rfl).iconst (pc' := 20) (z := (0 : Int32)) d16_19 rfl rfl
  have K6 := ((Keep.refl h1 []).trans K2 all0)
  have F7 := X1.keep K6
  have nab : b1 ≠ r2 := Exa.neArv F7 V2 (w6 hw)
  have K8 := ((Keep.refl h1 []).trans K2 all0)
  have F9 := F1_value.keep K8 nin0
  have K10 := ((Keep.refl h1 []).trans K2 all0)
  have F11 := F1_coder.keep K10 nin0
  obtain ⟨_, h5, _, ⟨rfl, K5, X5, F5_v, F5_c, rfl⟩, R⟩ := R.callI (pc' := 23) (a := b1) (argsL := [(.ref r2), (.int (0 : Int32))]) (rest := [(.ref b1)]) (W := 1) rfl (w131 hw) (w132 hw) (w7 hw) (w133 hw) (by decide) (rm_bb C.l Z a0 hw b1 r2 h2 n0 (b1 :: Ds) (List.mem_of_getElem? (i := 0) rfl) F7 F9 F11) rfl (lenOf pd11 rfl) rfl rfl d16_20 (by decide) (by decide) (by decide) (by decide) rfl
  replace R := (R.mono (ce' := 2) (sl' := 7) (by decide) (by decide)).stk (S' := [(.ref b1)]) rfl
  have hK := ((((Keep.refl h []).trans ((Keep.refl h []).ext E1) all0).trans K2 all0).trans K5 (allS (Or.inr (by rw [g1]; exact (Nat.le_refl _))) all0))
  have K12 := ((Keep.refl h2 [b1]).trans K5 (allS (Or.inl (List.mem_of_getElem? (i := 0) rfl)) all0))
  have F13 := V2.keep K12 (ninS (Ne.symm nab) nin0)
  exact R.retA (Ds' := Ds) hret rfl rfl rfl d16_23 (by decide) (by decide) (fun _ q => (fun q => (List.mem_cons_of_mem _ q)) q) ⟨b1, rfl, ⟨X5, F5_c, (chS (hok x1 (List.mem_of_getElem? (i := 1) rfl)) (chS (hok x2 (List.mem_of_getElem? (i := 2) rfl)) (chS (hok x3 (List.mem_of_getElem? (i := 3) rfl)) ch0))), Nat.le_of_ble_eq_true rfl, r2, _, F5_v, F13⟩, hK, rfl⟩
theorem rm_su1_4 (l : Launch) (Z : State) (a0 : Array Value) (hw : HW a0 Z) (a : Addr) (h : Heap) (n0 : Nat) (Ds : List Addr) (own_cs : CompactOn Z) (own_si : SiooOk Z) {x0 x1 x2 x3 : Int32} (S_a : IsStr Z h a [x0, x1, x2, x3]) :
    Ctr l Z (⟨"java/lang/String", "substring", "(II)Ljava/lang/String;"⟩ : MethodName) jdk_42_method_92_code 5 (some (.object "java/lang/String")) [] (rmo 4 2 7 126) #[.ref a, .int (1 : Int32), .int (4 : Int32)] h n0 Ds (fun v h' Ds' => ∃ r : Addr, v = some (.ref r) ∧ IsStr Z h' r [x1, x2, x3] ∧ Keep h h' [] ∧ Ds = Ds') := by
  refine ctr_of (Ls := #[.val (.ref a), .val (.int (1 : Int32)), .val (.int (4 : Int32)), .unset, .unset]) (plainFor_of_name pn0) (fun m => by first | (simp [entryFrame, mkF, argsToLocals, Value.category]; done) | rfl) ?_
  intro C hl hret hnm R
  subst hl
  have S_0 := S_a
  obtain ⟨e1, e2, e3, e4, t, kt, e5, e6⟩ := S_a
  have e7 : Arv Z h t kt .byte (4 : Int32) [(.int x0.toInt8.toInt32), (.int x1.toInt8.toInt32), (.int x2.toInt8.toInt32), (.int x3.toInt8.toInt32)] (.int 0) := e6
  have hok := e3
  have V_t := e7
  replace R := R.aloadN (pc' := 1) (v := (.ref a)) d10_0 rfl rfl rfl
  replace R := own_pure (R.callV (pc' := 4) (y := (⟨"java/lang/String", "length", "()I"⟩ : MethodName)) (z := (⟨"java/lang/String", "length", "()I"⟩ : MethodName)) (argsL := []) (rest := []) (W := 0) (w55 hw) (w56 hw) (fun s' hZ' => notFace_of_selects (args := #[]) (mvT hZ' (w58 hw))) (w58 hw) (w57 hw) (w7 hw) (w59 hw) (by decide) e1 (rm_length C.l Z a0 hw a h n0 Ds own_cs S_0) rfl (lenOf pd6 rfl) rfl rfl d10_1 (by decide) (by decide) (by decide) (by decide) rfl)
  replace R := (((R.istoreN (pc' := 5) (l' := #[.val (.ref a), .val (.int (1 : Int32)), .val (.int (4 : Int32)), .val (.int (4 : Int32)), .unset]) d10_4 rfl rfl).iloadN (pc' := 6) d10_5 rfl rfl).iloadN (pc' := 7) d10_6 rfl rfl).iloadN (pc' := 8) d10_7 rfl rfl
  replace R := own_pure0 (R.callS (pc' := 11) (argsL := [(.int (1 : Int32)), (.int (4 : Int32)), (.int (4 : Int32))]) (rest := []) (W := 0) (w65 hw) (w66 hw) (w7 hw) (w67 hw) (by decide) (rm_be1_4 C.l Z a0 hw h n0 Ds own_si) rfl (lenOf pd7 rfl) rfl rfl d10_8 (by decide) (by decide) (by decide) (by decide) rfl)
  replace R := (((((R.iloadN (pc' := 12) d10_11 rfl rfl).ifY (pc' := 22) d10_12 (feq (by decide : ¬ ((1 : Int32) = (0 : Int32)))).2 (by decide) rfl).iloadN (pc' := 23) d10_22 rfl rfl).iloadN (pc' := 24) d10_23 rfl rfl).isub (pc' := 25) d10_24 rfl).stk (S' := [(.int (3 : Int32))]) rfl
  replace R := (R.istore (pc' := 27) (l' := #[.val (.ref a), .val (.int (1 : Int32)), .val (.int (4 : Int32)), .val (.int (4 : Int32)), .val (.int (3 : Int32))]) d10_25 rfl rfl).aloadN (pc' := 28) (v := (.ref a)) d10_27 rfl rfl rfl
  replace R := own_pure (R.callV (pc' := 31) (y := (⟨"java/lang/String", "isLatin1", "()Z"⟩ : MethodName)) (z := (⟨"java/lang/String", "isLatin1", "()Z"⟩ : MethodName)) (argsL := []) (rest := []) (W := 0) (w73 hw) (w74 hw) (fun s' hZ' => notFace_of_selects (args := #[]) (mvT hZ' (w76 hw))) (w76 hw) (w75 hw) (w7 hw) (w77 hw) (by decide) e1 (rm_isLatin1 C.l Z a0 hw a h n0 Ds own_cs e2) rfl (lenOf pd3 rfl) rfl rfl d10_28 (by decide) (by decide) (by decide) (by decide) rfl)
  replace R := ((((R.ifN (pc' := 34) d10_31 (feq (by decide : ¬ ((1 : Int32) = (0 : Int32)))).1 rfl).aloadN (pc' := 35) (v := (.ref a)) d10_34 rfl rfl rfl).getF (pc' := 38) (host := "") (Or.inl (w32 hw)) Via.refl e5 d10_35 rfl).iloadN (pc' := 39) d10_38 rfl rfl).iload (pc' := 41) d10_39 rfl rfl
  obtain ⟨_, h1, _, ⟨r1, rfl, S1, K1, rfl⟩, R⟩ := R.callS (pc' := 44) (argsL := [(.ref t), (.int (1 : Int32)), (.int (3 : Int32))]) (rest := []) (W := 0) (w78 hw) (w79 hw) (w80 hw) (w81 hw) (by decide) (rm_ns1_4 C.l Z a0 hw h n0 Ds hok e7) rfl (lenOf pd8 rfl) rfl rfl d10_41 (by decide) (by decide) (by decide) (by decide) rfl
  replace R := ((R.mono (ce' := 2) (sl' := 7) (by decide) (by decide)).stk (S' := [(.ref r1)]) rfl).goto (pc' := 57) d10_44 (by decide) rfl
  have hK : Keep h h1 [] := ((Keep.refl h []).trans K1 all0)
  exact R.retA (Ds' := Ds) hret rfl rfl rfl d10_57 (by decide) (by decide) (fun _ q => q) ⟨r1, rfl, S1, hK, rfl⟩
theorem rm_ft2_2 (l : Launch) (Z : State) (a0 : Array Value) (hw : HW a0 Z) (fm : Value) (h : Heap) (n0 : Nat) (Ds : List Addr) (hfm : fm.isRef = true) :
    Ctr l Z (⟨"jdk/internal/util/Preconditions", "checkFromToIndex", "(IIILjava/util/function/BiFunction;)I"⟩ : MethodName) jdk_41_method_12_code 4 (some .int) [] (rmo 0 0 0 0) #[.int (2 : Int32), .int (2 : Int32), .int (4 : Int32), fm] h n0 Ds (fun v h' Ds' => v = some (.int (2 : Int32)) ∧ h = h' ∧ Ds = Ds') := by
  refine ctr_of (Ls := #[.val (.int (2 : Int32)), .val (.int (2 : Int32)), .val (.int (4 : Int32)), .val fm]) (plainFor_of_name pn1) (fun mm => by rcases ref_cases hfm with rfl | ⟨_, rfl⟩ <;> first | (simp [entryFrame, mkF, argsToLocals, Value.category]; done) | rfl) ?_
  intro C hl hret hnm R
  subst hl
  replace R := (((((R.iloadN (pc' := 1) d14_0 rfl rfl).ifN (pc' := 4) d14_1 (flt (by decide : ¬ ((2 : Int32) < (0 : Int32)))).1 rfl).iloadN (pc' := 5) d14_4 rfl rfl).iloadN (pc' := 6) d14_5 rfl rfl).icmpN (pc' := 9) d14_6 (flt (by decide : ¬ ((2 : Int32) < (2 : Int32)))).2.2.1 rfl).iloadN (pc' := 10) d14_9 rfl rfl
  replace R := ((R.iloadN (pc' := 11) d14_10 rfl rfl).icmpY (pc' := 22) d14_11 (flt (by decide : ¬ ((4 : Int32) < (2 : Int32)))).2.2.2 (by decide) rfl).iloadN (pc' := 23) d14_22 rfl rfl
  exact R.retI (Ds' := Ds) hret d14_23 (by decide) (by decide) (fun _ q => q) ⟨rfl, rfl, rfl⟩
theorem rm_be2_2 (l : Launch) (Z : State) (a0 : Array Value) (hw : HW a0 Z) (h : Heap) (n0 : Nat) (Ds : List Addr) (own_si : SiooOk Z) :
    Ctr l Z (⟨"java/lang/String", "checkBoundsBeginEnd", "(III)V"⟩ : MethodName) jdk_42_method_158_code 3 none [] (rmo 1 0 0 15) #[.int (2 : Int32), .int (2 : Int32), .int (4 : Int32)] h n0 Ds (fun v h' Ds' => v = none ∧ h = h' ∧ Ds = Ds') := by
  refine ctr_of (Ls := #[.val (.int (2 : Int32)), .val (.int (2 : Int32)), .val (.int (4 : Int32))]) (plainFor_of_name pn0) (fun m => by first | (simp [entryFrame, mkF, argsToLocals, Value.category]; done) | rfl) ?_
  intro C hl hret hnm R
  subst hl
  obtain ⟨fm, S_fm, hfm⟩ := id own_si
  replace R := (((R.iloadN (pc' := 1) d13_0 rfl rfl).iloadN (pc' := 2) d13_1 rfl rfl).iloadN (pc' := 3) d13_2 rfl rfl).getS (pc' := 6) (host := "") (Or.inl (w68 hw)) Via.refl S_fm d13_3 rfl
  replace R := own_pure (R.callS (pc' := 9) (argsL := [(.int (2 : Int32)), (.int (2 : Int32)), (.int (4 : Int32)), fm]) (rest := []) (W := 0) (w70 hw) (w71 hw) (w69 hw) (w72 hw) (by decide) (rm_ft2_2 C.l Z a0 hw fm h n0 Ds hfm) rfl (lenOf pd5 rfl) rfl rfl d13_6 (by decide) (by decide) (by decide) (by decide) rfl)
  replace R := R.pop (pc' := 10) d13_9 rfl rfl
  exact R.retV (Ds' := Ds) hret d13_10 (by decide) (by decide) (fun _ q => q) ⟨rfl, rfl, rfl⟩
theorem rm_ns2_2 (l : Launch) (Z : State) (a0 : Array Value) (hw : HW a0 Z) (h : Heap) (n0 : Nat) (Ds : List Addr) {x0 x1 x2 x3 : Int32} (hok : ∀ c ∈ ([x0, x1, x2, x3] : List Int32), ¬ c < 0 ∧ ¬ (255 : Int32) < c) {t : Addr} {kt : ClassId} (V_t : Arv Z h t kt .byte (4 : Int32) [(.int x0.toInt8.toInt32), (.int x1.toInt8.toInt32), (.int x2.toInt8.toInt32), (.int x3.toInt8.toInt32)] (.int 0)) :
    Ctr l Z (⟨"java/lang/StringLatin1", "newString", "([BII)Ljava/lang/String;"⟩ : MethodName) jdk_43_method_47_code 3 (some (.object "java/lang/String")) [] (rmo 0 2 4 0) #[.ref t, .int (2 : Int32), .int (0 : Int32)] h n0 Ds (fun v h' Ds' => ∃ r : Addr, v = some (.ref r) ∧ IsStr Z h' r [] ∧ Keep h h' [] ∧ Ds = Ds') := by
  refine ctr_of (Ls := #[.val (.ref t), .val (.int (2 : Int32)), .val (.int (0 : Int32))]) (plainFor_of_name pn2) (fun m => by first | (simp [entryFrame, mkF, argsToLocals, Value.category]; done) | rfl) ?_
  intro C hl hret hnm R
  subst hl
  replace R := (R.iloadN (pc' := 1) d16_0 rfl rfl).ifN (pc' := 4) d16_1 (teq (by decide : (0 : Int32) = (0 : Int32))).2 rfl
  obtain ⟨h1, a1, E1, S1, N1, R⟩ := R.ldcS (pc' := 6) (n := 0) (cs := []) (by decide) (w82 hw) (by decide +kernel) (by decide +kernel) (by decide) d16_4 (by decide +kernel) (by decide) (by decide) (by decide) rfl
  have hK := ((Keep.refl h []).trans ((Keep.refl h []).ext E1) all0)
  exact R.retA (Ds' := Ds) hret rfl rfl rfl d16_6 (by decide) (by decide) (fun _ q => q) ⟨a1, rfl, S1, hK, rfl⟩
theorem rm_su2_2 (l : Launch) (Z : State) (a0 : Array Value) (hw : HW a0 Z) (a : Addr) (h : Heap) (n0 : Nat) (Ds : List Addr) (own_cs : CompactOn Z) (own_si : SiooOk Z) {x0 x1 x2 x3 : Int32} (S_a : IsStr Z h a [x0, x1, x2, x3]) :
    Ctr l Z (⟨"java/lang/String", "substring", "(II)Ljava/lang/String;"⟩ : MethodName) jdk_42_method_92_code 5 (some (.object "java/lang/String")) [] (rmo 4 2 7 126) #[.ref a, .int (2 : Int32), .int (2 : Int32)] h n0 Ds (fun v h' Ds' => ∃ r : Addr, v = some (.ref r) ∧ IsStr Z h' r [] ∧ Keep h h' [] ∧ Ds = Ds') := by
  refine ctr_of (Ls := #[.val (.ref a), .val (.int (2 : Int32)), .val (.int (2 : Int32)), .unset, .unset]) (plainFor_of_name pn0) (fun m => by first | (simp [entryFrame, mkF, argsToLocals, Value.category]; done) | rfl) ?_
  intro C hl hret hnm R
  subst hl
  have S_0 := S_a
  obtain ⟨e1, e2, e3, e4, t, kt, e5, e6⟩ := S_a
  have e7 : Arv Z h t kt .byte (4 : Int32) [(.int x0.toInt8.toInt32), (.int x1.toInt8.toInt32), (.int x2.toInt8.toInt32), (.int x3.toInt8.toInt32)] (.int 0) := e6
  have hok := e3
  have V_t := e7
  replace R := R.aloadN (pc' := 1) (v := (.ref a)) d10_0 rfl rfl rfl
  replace R := own_pure (R.callV (pc' := 4) (y := (⟨"java/lang/String", "length", "()I"⟩ : MethodName)) (z := (⟨"java/lang/String", "length", "()I"⟩ : MethodName)) (argsL := []) (rest := []) (W := 0) (w55 hw) (w56 hw) (fun s' hZ' => notFace_of_selects (args := #[]) (mvT hZ' (w58 hw))) (w58 hw) (w57 hw) (w7 hw) (w59 hw) (by decide) e1 (rm_length C.l Z a0 hw a h n0 Ds own_cs S_0) rfl (lenOf pd6 rfl) rfl rfl d10_1 (by decide) (by decide) (by decide) (by decide) rfl)
  replace R := (((R.istoreN (pc' := 5) (l' := #[.val (.ref a), .val (.int (2 : Int32)), .val (.int (2 : Int32)), .val (.int (4 : Int32)), .unset]) d10_4 rfl rfl).iloadN (pc' := 6) d10_5 rfl rfl).iloadN (pc' := 7) d10_6 rfl rfl).iloadN (pc' := 8) d10_7 rfl rfl
  replace R := own_pure0 (R.callS (pc' := 11) (argsL := [(.int (2 : Int32)), (.int (2 : Int32)), (.int (4 : Int32))]) (rest := []) (W := 0) (w65 hw) (w66 hw) (w7 hw) (w67 hw) (by decide) (rm_be2_2 C.l Z a0 hw h n0 Ds own_si) rfl (lenOf pd7 rfl) rfl rfl d10_8 (by decide) (by decide) (by decide) (by decide) rfl)
  replace R := (((((R.iloadN (pc' := 12) d10_11 rfl rfl).ifY (pc' := 22) d10_12 (feq (by decide : ¬ ((2 : Int32) = (0 : Int32)))).2 (by decide) rfl).iloadN (pc' := 23) d10_22 rfl rfl).iloadN (pc' := 24) d10_23 rfl rfl).isub (pc' := 25) d10_24 rfl).stk (S' := [(.int (0 : Int32))]) rfl
  replace R := (R.istore (pc' := 27) (l' := #[.val (.ref a), .val (.int (2 : Int32)), .val (.int (2 : Int32)), .val (.int (4 : Int32)), .val (.int (0 : Int32))]) d10_25 rfl rfl).aloadN (pc' := 28) (v := (.ref a)) d10_27 rfl rfl rfl
  replace R := own_pure (R.callV (pc' := 31) (y := (⟨"java/lang/String", "isLatin1", "()Z"⟩ : MethodName)) (z := (⟨"java/lang/String", "isLatin1", "()Z"⟩ : MethodName)) (argsL := []) (rest := []) (W := 0) (w73 hw) (w74 hw) (fun s' hZ' => notFace_of_selects (args := #[]) (mvT hZ' (w76 hw))) (w76 hw) (w75 hw) (w7 hw) (w77 hw) (by decide) e1 (rm_isLatin1 C.l Z a0 hw a h n0 Ds own_cs e2) rfl (lenOf pd3 rfl) rfl rfl d10_28 (by decide) (by decide) (by decide) (by decide) rfl)
  replace R := ((((R.ifN (pc' := 34) d10_31 (feq (by decide : ¬ ((1 : Int32) = (0 : Int32)))).1 rfl).aloadN (pc' := 35) (v := (.ref a)) d10_34 rfl rfl rfl).getF (pc' := 38) (host := "") (Or.inl (w32 hw)) Via.refl e5 d10_35 rfl).iloadN (pc' := 39) d10_38 rfl rfl).iload (pc' := 41) d10_39 rfl rfl
  obtain ⟨_, h1, _, ⟨r1, rfl, S1, K1, rfl⟩, R⟩ := R.callS (pc' := 44) (argsL := [(.ref t), (.int (2 : Int32)), (.int (0 : Int32))]) (rest := []) (W := 0) (w78 hw) (w79 hw) (w80 hw) (w81 hw) (by decide) (rm_ns2_2 C.l Z a0 hw h n0 Ds hok e7) rfl (lenOf pd8 rfl) rfl rfl d10_41 (by decide) (by decide) (by decide) (by decide) rfl
  replace R := ((R.mono (ce' := 2) (sl' := 4) (by decide) (by decide)).stk (S' := [(.ref r1)]) rfl).goto (pc' := 57) d10_44 (by decide) rfl
  have hK : Keep h h1 [] := ((Keep.refl h []).trans K1 all0)
  exact R.retA (Ds' := Ds) hret rfl rfl rfl d10_57 (by decide) (by decide) (fun _ q => q) ⟨r1, rfl, S1, hK, rfl⟩
theorem rm_ft2_3 (l : Launch) (Z : State) (a0 : Array Value) (hw : HW a0 Z) (fm : Value) (h : Heap) (n0 : Nat) (Ds : List Addr) (hfm : fm.isRef = true) :
    Ctr l Z (⟨"jdk/internal/util/Preconditions", "checkFromToIndex", "(IIILjava/util/function/BiFunction;)I"⟩ : MethodName) jdk_41_method_12_code 4 (some .int) [] (rmo 0 0 0 0) #[.int (2 : Int32), .int (3 : Int32), .int (4 : Int32), fm] h n0 Ds (fun v h' Ds' => v = some (.int (2 : Int32)) ∧ h = h' ∧ Ds = Ds') := by
  refine ctr_of (Ls := #[.val (.int (2 : Int32)), .val (.int (3 : Int32)), .val (.int (4 : Int32)), .val fm]) (plainFor_of_name pn1) (fun mm => by rcases ref_cases hfm with rfl | ⟨_, rfl⟩ <;> first | (simp [entryFrame, mkF, argsToLocals, Value.category]; done) | rfl) ?_
  intro C hl hret hnm R
  subst hl
  replace R := (((((R.iloadN (pc' := 1) d14_0 rfl rfl).ifN (pc' := 4) d14_1 (flt (by decide : ¬ ((2 : Int32) < (0 : Int32)))).1 rfl).iloadN (pc' := 5) d14_4 rfl rfl).iloadN (pc' := 6) d14_5 rfl rfl).icmpN (pc' := 9) d14_6 (flt (by decide : ¬ ((3 : Int32) < (2 : Int32)))).2.2.1 rfl).iloadN (pc' := 10) d14_9 rfl rfl
  replace R := ((R.iloadN (pc' := 11) d14_10 rfl rfl).icmpY (pc' := 22) d14_11 (flt (by decide : ¬ ((4 : Int32) < (3 : Int32)))).2.2.2 (by decide) rfl).iloadN (pc' := 23) d14_22 rfl rfl
  exact R.retI (Ds' := Ds) hret d14_23 (by decide) (by decide) (fun _ q => q) ⟨rfl, rfl, rfl⟩
theorem rm_be2_3 (l : Launch) (Z : State) (a0 : Array Value) (hw : HW a0 Z) (h : Heap) (n0 : Nat) (Ds : List Addr) (own_si : SiooOk Z) :
    Ctr l Z (⟨"java/lang/String", "checkBoundsBeginEnd", "(III)V"⟩ : MethodName) jdk_42_method_158_code 3 none [] (rmo 1 0 0 15) #[.int (2 : Int32), .int (3 : Int32), .int (4 : Int32)] h n0 Ds (fun v h' Ds' => v = none ∧ h = h' ∧ Ds = Ds') := by
  refine ctr_of (Ls := #[.val (.int (2 : Int32)), .val (.int (3 : Int32)), .val (.int (4 : Int32))]) (plainFor_of_name pn0) (fun m => by first | (simp [entryFrame, mkF, argsToLocals, Value.category]; done) | rfl) ?_
  intro C hl hret hnm R
  subst hl
  obtain ⟨fm, S_fm, hfm⟩ := id own_si
  replace R := (((R.iloadN (pc' := 1) d13_0 rfl rfl).iloadN (pc' := 2) d13_1 rfl rfl).iloadN (pc' := 3) d13_2 rfl rfl).getS (pc' := 6) (host := "") (Or.inl (w68 hw)) Via.refl S_fm d13_3 rfl
  replace R := own_pure (R.callS (pc' := 9) (argsL := [(.int (2 : Int32)), (.int (3 : Int32)), (.int (4 : Int32)), fm]) (rest := []) (W := 0) (w70 hw) (w71 hw) (w69 hw) (w72 hw) (by decide) (rm_ft2_3 C.l Z a0 hw fm h n0 Ds hfm) rfl (lenOf pd5 rfl) rfl rfl d13_6 (by decide) (by decide) (by decide) (by decide) rfl)
  replace R := R.pop (pc' := 10) d13_9 rfl rfl
  exact R.retV (Ds' := Ds) hret d13_10 (by decide) (by decide) (fun _ q => q) ⟨rfl, rfl, rfl⟩
theorem rm_min2_1 (l : Launch) (Z : State) (a0 : Array Value) (hw : HW a0 Z) (h : Heap) (n0 : Nat) (Ds : List Addr) :
    Ctr l Z (⟨"java/lang/Math", "min", "(II)I"⟩ : MethodName) jdk_29_method_69_code 2 (some .int) [] (rmo 0 0 0 0) #[.int (2 : Int32), .int (1 : Int32)] h n0 Ds (fun v h' Ds' => v = some (.int (1 : Int32)) ∧ h = h' ∧ Ds = Ds') := by
  refine ctr_of (Ls := #[.val (.int (2 : Int32)), .val (.int (1 : Int32))]) (Jvm.Free.JP.mathPlain rfl (by decide +kernel)) (fun m => by first | (simp [entryFrame, mkF, argsToLocals, Value.category]; done) | rfl) ?_
  intro C hl hret hnm R
  subst hl
  replace R := (((R.iloadN (pc' := 1) d27_0 rfl rfl).iloadN (pc' := 2) d27_1 rfl rfl).icmpY (pc' := 9) d27_2 (tlt (by decide : (1 : Int32) < (2 : Int32))).2.2.1 (by decide) rfl).iloadN (pc' := 10) d27_9 rfl rfl
  exact R.retI (Ds' := Ds) hret d27_10 (by decide) (by decide) (fun _ q => q) ⟨rfl, rfl, rfl⟩
theorem rm_cl2_3 (l : Launch) (Z : State) (a0 : Array Value) (hw : HW a0 Z) (h : Heap) (n0 : Nat) (Ds : List Addr) :
    Ctr l Z (⟨"java/util/Arrays", "checkLength", "(II)V"⟩ : MethodName) jdk_65_method_131_code 2 none [] (rmo 0 0 0 0) #[.int (2 : Int32), .int (3 : Int32)] h n0 Ds (fun v h' Ds' => v = none ∧ h = h' ∧ Ds = Ds') := by
  refine ctr_of (Ls := #[.val (.int (2 : Int32)), .val (.int (3 : Int32))]) (plainFor_of_name pn3) (fun m => by first | (simp [entryFrame, mkF, argsToLocals, Value.category]; done) | rfl) ?_
  intro C hl hret hnm R
  subst hl
  replace R := ((R.iloadN (pc' := 1) d26_0 rfl rfl).iloadN (pc' := 2) d26_1 rfl rfl).icmpY (pc' := 37) d26_2 (flt (by decide : ¬ ((3 : Int32) < (2 : Int32)))).2.1 (by decide) rfl
  exact R.retV (Ds' := Ds) hret d26_37 (by decide) (by decide) (fun _ q => q) ⟨rfl, rfl, rfl⟩
theorem rm_crb2_3 (l : Launch) (Z : State) (a0 : Array Value) (hw : HW a0 Z) (h : Heap) (n0 : Nat) (Ds : List Addr) {x0 x1 x2 x3 : Int32} {t : Addr} {kt : ClassId} (V_t : Arv Z h t kt .byte (4 : Int32) [(.int x0.toInt8.toInt32), (.int x1.toInt8.toInt32), (.int x2.toInt8.toInt32), (.int x3.toInt8.toInt32)] (.int 0)) :
    Ctr l Z (⟨"java/util/Arrays", "copyOfRangeByte", "([BII)[B"⟩ : MethodName) jdk_65_method_133_code 5 (some (.array .byte)) [] (rmo 1 1 1 80) #[.ref t, .int (2 : Int32), .int (3 : Int32)] h n0 Ds (fun v h' Ds' => ∃ (r : Addr) (kr : ClassId), v = some (.ref r) ∧ Keep h h' [] ∧ Arv Z h' r kr .byte (1 : Int32) [(.int x2.toInt8.toInt32)] (.int 0) ∧ Ds = Ds') := by
  refine ctr_of (Ls := #[.val (.ref t), .val (.int (2 : Int32)), .val (.int (3 : Int32)), .unset, .unset]) (plainFor_of_name pn3) (fun m => by first | (simp [entryFrame, mkF, argsToLocals, Value.category]; done) | rfl) ?_
  intro C hl hret hnm R
  subst hl
  have hvl : t < h.size := V_t.lt
  replace R := (R.iloadN (pc' := 1) d25_0 rfl rfl).iloadN (pc' := 2) d25_1 rfl rfl
  replace R := own_pure0 (R.callS (pc' := 5) (argsL := [(.int (2 : Int32)), (.int (3 : Int32))]) (rest := []) (W := 0) (w120 hw) (w121 hw) (w115 hw) (w122 hw) (by decide) (rm_cl2_3 C.l Z a0 hw h n0 Ds) rfl (lenOf pd2 rfl) rfl rfl d25_2 (by decide) (by decide) (by decide) (by decide) rfl)
  replace R := (((((R.iloadN (pc' := 6) d25_5 rfl rfl).iloadN (pc' := 7) d25_6 rfl rfl).isub (pc' := 8) d25_7 rfl).stk (S' := [(.int (1 : Int32))]) rfl).istoreN (pc' := 9) (l' := #[.val (.ref t), .val (.int (2 : Int32)), .val (.int (3 : Int32)), .val (.int (1 : Int32)), .unset]) d25_8 rfl rfl).iloadN (pc' := 10) d25_9 rfl rfl
  obtain ⟨h1, b1, k1, g1, E1, V1, R⟩ := R.newP (pc' := 12) (aty := .byte) (cap := 1) (w23 hw) d25_10 (by decide) (by decide) (by decide) (by decide) (by decide) rfl
  have V1p : Arv Z h1 b1 k1 .byte (1 : Int32) [(.int (0 : Int32))] (.int (0 : Int32)) := V1.pad (pad_rep [] (.int (0 : Int32)) 1)
  replace R := (((((R.astore (pc' := 14) (l' := #[.val (.ref t), .val (.int (2 : Int32)), .val (.int (3 : Int32)), .val (.int (1 : Int32)), .val (.ref b1)]) d25_12 rfl rfl rfl).aloadN (pc' := 15) (v := (.ref t)) d25_14 rfl rfl rfl).iloadN (pc' := 16) d25_15 rfl rfl).aload (pc' := 18) (v := (.ref b1)) d25_16 rfl rfl rfl).iconst (pc' := 19) (z := (0 : Int32)) d25_18 rfl rfl).aloadN (pc' := 20) (v := (.ref t)) d25_19 rfl rfl rfl
  have K2 := ((Keep.refl h []).trans ((Keep.refl h []).ext E1) all0)
  have F3 := V_t.keep K2 nin0
  replace R := ((((R.arraylength (pc' := 21) F3 d25_20 rfl).iloadN (pc' := 22) d25_21 rfl rfl).isub (pc' := 23) d25_22 rfl).stk (S' := [(.int (2 : Int32)), (.int (0 : Int32)), (.ref b1), (.int (2 : Int32)), (.ref t)]) rfl).iloadN (pc' := 24) d25_23 rfl rfl
  replace R := own_pure (R.callS (pc' := 27) (argsL := [(.int (2 : Int32)), (.int (1 : Int32))]) (rest := [(.int (0 : Int32)), (.ref b1), (.int (2 : Int32)), (.ref t)]) (W := 4) (w123 hw) (w124 hw) (w125 hw) (w126 hw) (by decide) (rm_min2_1 C.l Z a0 hw h1 n0 (b1 :: Ds)) rfl (lenOf pd9 rfl) rfl rfl d25_24 (by decide) (by decide) (by decide) (by decide) rfl)
  have nvb : t ≠ b1 := fun e => by rw [e, g1] at hvl; exact Nat.lt_irrefl _ hvl
  obtain ⟨h4, K4, V4, R⟩ := R.copyB (pc' := 30) (W := 0) (nn := (1 : Int32)) (us := [(.int x2.toInt8.toInt32)]) (w127 hw) (w130 hw) (w128 hw) (w129 hw) F3 V1p rfl (by decide) (by decide) (by decide) (by decide) (by decide) rfl (Nat.le_of_ble_eq_true rfl) (List.mem_of_getElem? (i := 0) rfl) rfl d25_27 (by decide) rfl (by decide) rfl
  have V4p : Arv Z h4 b1 k1 .byte (1 : Int32) [(.int x2.toInt8.toInt32)] (.int (0 : Int32)) := V4
  replace R := R.aload (pc' := 32) (v := (.ref b1)) d25_30 rfl rfl rfl
  have hK := (((Keep.refl h []).trans ((Keep.refl h []).ext E1) all0).trans K4 (allS (Or.inr (by rw [g1]; exact (Nat.le_refl _))) all0))
  exact R.retA (Ds' := Ds) hret rfl rfl rfl d25_32 (by decide) (by decide) (fun _ q => (fun q => (List.mem_cons_of_mem _ q)) q) ⟨b1, _, rfl, hK, V4p, rfl⟩
theorem rm_cr2_3 (l : Launch) (Z : State) (a0 : Array Value) (hw : HW a0 Z) (h : Heap) (n0 : Nat) (Ds : List Addr) {x0 x1 x2 x3 : Int32} {t : Addr} {kt : ClassId} (V_t : Arv Z h t kt .byte (4 : Int32) [(.int x0.toInt8.toInt32), (.int x1.toInt8.toInt32), (.int x2.toInt8.toInt32), (.int x3.toInt8.toInt32)] (.int 0)) :
    Ctr l Z (⟨"java/util/Arrays", "copyOfRange", "([BII)[B"⟩ : MethodName) jdk_65_method_132_code 3 (some (.array .byte)) [] (rmo 2 1 1 96) #[.ref t, .int (2 : Int32), .int (3 : Int32)] h n0 Ds (fun v h' Ds' => ∃ (r : Addr) (kr : ClassId), v = some (.ref r) ∧ Keep h h' [] ∧ Arv Z h' r kr .byte (1 : Int32) [(.int x2.toInt8.toInt32)] (.int 0) ∧ Ds = Ds') := by
  refine ctr_of (Ls := #[.val (.ref t), .val (.int (2 : Int32)), .val (.int (3 : Int32))]) (plainFor_of_name pn3) (fun m => by first | (simp [entryFrame, mkF, argsToLocals, Value.category]; done) | rfl) ?_
  intro C hl hret hnm R
  subst hl
  have hvl : t < h.size := V_t.lt
  replace R := ((((R.iloadN (pc' := 1) d24_0 rfl rfl).ifY (pc' := 10) d24_1 (feq (by decide : ¬ ((2 : Int32) = (0 : Int32)))).2 (by decide) rfl).aloadN (pc' := 11) (v := (.ref t)) d24_10 rfl rfl rfl).iloadN (pc' := 12) d24_11 rfl rfl).iloadN (pc' := 13) d24_12 rfl rfl
  obtain ⟨_, h1, _, ⟨r1, k1, rfl, K1, V1, rfl⟩, R⟩ := R.callS (pc' := 16) (argsL := [(.ref t), (.int (2 : Int32)), (.int (3 : Int32))]) (rest := []) (W := 0) (w117 hw) (w118 hw) (w115 hw) (w119 hw) (by decide) (rm_crb2_3 C.l Z a0 hw h n0 Ds V_t) rfl (lenOf pd10 rfl) rfl rfl d24_13 (by decide) (by decide) (by decide) (by decide) rfl
  replace R := (R.mono (ce' := 1) (sl' := 1) (by decide) (by decide)).stk (S' := [(.ref r1)]) rfl
  have hK := ((Keep.refl h []).trans K1 all0)
  exact R.retA (Ds' := Ds) hret rfl rfl rfl d24_16 (by decide) (by decide) (fun _ q => q) ⟨r1, _, rfl, hK, V1, rfl⟩
theorem rm_ns2_3 (l : Launch) (Z : State) (a0 : Array Value) (hw : HW a0 Z) (h : Heap) (n0 : Nat) (Ds : List Addr) {x0 x1 x2 x3 : Int32} (hok : ∀ c ∈ ([x0, x1, x2, x3] : List Int32), ¬ c < 0 ∧ ¬ (255 : Int32) < c) {t : Addr} {kt : ClassId} (V_t : Arv Z h t kt .byte (4 : Int32) [(.int x0.toInt8.toInt32), (.int x1.toInt8.toInt32), (.int x2.toInt8.toInt32), (.int x3.toInt8.toInt32)] (.int 0)) :
    Ctr l Z (⟨"java/lang/StringLatin1", "newString", "([BII)Ljava/lang/String;"⟩ : MethodName) jdk_43_method_47_code 3 (some (.object "java/lang/String")) [] (rmo 3 2 5 112) #[.ref t, .int (2 : Int32), .int (1 : Int32)] h n0 Ds (fun v h' Ds' => ∃ r : Addr, v = some (.ref r) ∧ IsStr Z h' r [x2] ∧ Keep h h' [] ∧ Ds = Ds') := by
  refine ctr_of (Ls := #[.val (.ref t), .val (.int (2 : Int32)), .val (.int (1 : Int32))]) (plainFor_of_name pn2) (fun m => by first | (simp [entryFrame, mkF, argsToLocals, Value.category]; done) | rfl) ?_
  intro C hl hret hnm R
  subst hl
  replace R := (R.iloadN (pc' := 1) d16_0 rfl rfl).ifY (pc' := 7) d16_1 (feq (by decide : ¬ ((1 : Int32) = (0 : Int32)))).2 (by decide) rfl
  obtain ⟨h1, b1, g1, E1, X1, D1, R⟩ := R.newO (pc' := 10) (w112 hw) (w6 hw) (w7 hw) d16_7 (by decide) (by decide) rfl
  have F1_coder : Fld Z h1 b1 "java/lang/String" "coder" "B" (.int (0 : Int32)) := D1 (Or.inr (w31 hw)) (ty := .byte) (by decide)
  have F1_value : Fld Z h1 b1 "java/lang/String" "value" "[B" .null := D1 (Or.inr (w33 hw)) (ty := (.array .byte)) (by decide)
  replace R := (((((R.dup (pc' := 11) d16_10 rfl rfl).aloadN (pc' := 12) (v := (.ref t)) d16_11 rfl rfl rfl).iloadN (pc' := 13) d16_12 rfl rfl).iloadN (pc' := 14) d16_13 rfl rfl).iloadN (pc' := 15) d16_14 rfl rfl).iadd (pc' := 16) d16_15 rfl
  replace R := R.stk (S' := [(.int (3 : Int32)), (.int (2 : Int32)), (.ref t), (.ref b1), (.ref b1)]) rfl
  have K3 := ((Keep.refl h []).trans ((Keep.refl h []).ext E1) all0)
  have F4 := V_t.keep K3 nin0
  obtain ⟨_, h2, _, ⟨r2, k2, rfl, K2, V2, rfl⟩, R⟩ := R.callS (pc' := 19) (argsL := [(.ref t), (.int (2 : Int32)), (.int (3 : Int32))]) (rest := [(.ref b1), (.ref b1)]) (W := 2) (w113 hw) (w114 hw) (w115 hw) (w116 hw) (by decide) (rm_cr2_3 C.l Z a0 hw h1 n0 (b1 :: Ds) F4) rfl (lenOf pd10 rfl) rfl rfl d16_16 (by decide) (by decide) (by decide) (by decide) rfl
  replace R := ((R.mono (ce' := 2) (sl' := 5) (by decide) (by decide)).stk (S' := [(.ref r2), (.ref b1), (.ref b1)]) rfl).iconst (pc' := 20) (z := (0 : Int32)) d16_19 rfl rfl
  have K6 := ((Keep.refl h1 []).trans K2 all0)
  have F7 := X1.keep K6
  have nab : b1 ≠ r2 := Exa.neArv F7 V2 (w6 hw)
  have K8 := ((Keep.refl h1 []).trans K2 all0)
  have F9 := F1_value.keep K8 nin0
  have K10 := ((Keep.refl h1 []).trans K2 all0)
  have F11 := F1_coder.keep K10 nin0
  obtain ⟨_, h5, _, ⟨rfl, K5, X5, F5_v, F5_c, rfl⟩, R⟩ := R.callI (pc' := 23) (a := b1) (argsL := [(.ref r2), (.int (0 : Int32))]) (rest := [(.ref b1)]) (W := 1) rfl (w131 hw) (w132 hw) (w7 hw) (w133 hw) (by decide) (rm_bb C.l Z a0 hw b1 r2 h2 n0 (b1 :: Ds) (List.mem_of_getElem? (i := 0) rfl) F7 F9 F11) rfl (lenOf pd11 rfl) rfl rfl d16_20 (by decide) (by decide) (by decide) (by decide) rfl
  replace R := (R.mono (ce' := 2) (sl' := 5) (by decide) (by decide)).stk (S' := [(.ref b1)]) rfl
  have hK := ((((Keep.refl h []).trans ((Keep.refl h []).ext E1) all0).trans K2 all0).trans K5 (allS (Or.inr (by rw [g1]; exact (Nat.le_refl _))) all0))
  have K12 := ((Keep.refl h2 [b1]).trans K5 (allS (Or.inl (List.mem_of_getElem? (i := 0) rfl)) all0))
  have F13 := V2.keep K12 (ninS (Ne.symm nab) nin0)
  exact R.retA (Ds' := Ds) hret rfl rfl rfl d16_23 (by decide) (by decide) (fun _ q => (fun q => (List.mem_cons_of_mem _ q)) q) ⟨b1, rfl, ⟨X5, F5_c, (chS (hok x2 (List.mem_of_getElem? (i := 2) rfl)) ch0), Nat.le_of_ble_eq_true rfl, r2, _, F5_v, F13⟩, hK, rfl⟩
theorem rm_su2_3 (l : Launch) (Z : State) (a0 : Array Value) (hw : HW a0 Z) (a : Addr) (h : Heap) (n0 : Nat) (Ds : List Addr) (own_cs : CompactOn Z) (own_si : SiooOk Z) {x0 x1 x2 x3 : Int32} (S_a : IsStr Z h a [x0, x1, x2, x3]) :
    Ctr l Z (⟨"java/lang/String", "substring", "(II)Ljava/lang/String;"⟩ : MethodName) jdk_42_method_92_code 5 (some (.object "java/lang/String")) [] (rmo 4 2 7 126) #[.ref a, .int (2 : Int32), .int (3 : Int32)] h n0 Ds (fun v h' Ds' => ∃ r : Addr, v = some (.ref r) ∧ IsStr Z h' r [x2] ∧ Keep h h' [] ∧ Ds = Ds') := by
  refine ctr_of (Ls := #[.val (.ref a), .val (.int (2 : Int32)), .val (.int (3 : Int32)), .unset, .unset]) (plainFor_of_name pn0) (fun m => by first | (simp [entryFrame, mkF, argsToLocals, Value.category]; done) | rfl) ?_
  intro C hl hret hnm R
  subst hl
  have S_0 := S_a
  obtain ⟨e1, e2, e3, e4, t, kt, e5, e6⟩ := S_a
  have e7 : Arv Z h t kt .byte (4 : Int32) [(.int x0.toInt8.toInt32), (.int x1.toInt8.toInt32), (.int x2.toInt8.toInt32), (.int x3.toInt8.toInt32)] (.int 0) := e6
  have hok := e3
  have V_t := e7
  replace R := R.aloadN (pc' := 1) (v := (.ref a)) d10_0 rfl rfl rfl
  replace R := own_pure (R.callV (pc' := 4) (y := (⟨"java/lang/String", "length", "()I"⟩ : MethodName)) (z := (⟨"java/lang/String", "length", "()I"⟩ : MethodName)) (argsL := []) (rest := []) (W := 0) (w55 hw) (w56 hw) (fun s' hZ' => notFace_of_selects (args := #[]) (mvT hZ' (w58 hw))) (w58 hw) (w57 hw) (w7 hw) (w59 hw) (by decide) e1 (rm_length C.l Z a0 hw a h n0 Ds own_cs S_0) rfl (lenOf pd6 rfl) rfl rfl d10_1 (by decide) (by decide) (by decide) (by decide) rfl)
  replace R := (((R.istoreN (pc' := 5) (l' := #[.val (.ref a), .val (.int (2 : Int32)), .val (.int (3 : Int32)), .val (.int (4 : Int32)), .unset]) d10_4 rfl rfl).iloadN (pc' := 6) d10_5 rfl rfl).iloadN (pc' := 7) d10_6 rfl rfl).iloadN (pc' := 8) d10_7 rfl rfl
  replace R := own_pure0 (R.callS (pc' := 11) (argsL := [(.int (2 : Int32)), (.int (3 : Int32)), (.int (4 : Int32))]) (rest := []) (W := 0) (w65 hw) (w66 hw) (w7 hw) (w67 hw) (by decide) (rm_be2_3 C.l Z a0 hw h n0 Ds own_si) rfl (lenOf pd7 rfl) rfl rfl d10_8 (by decide) (by decide) (by decide) (by decide) rfl)
  replace R := (((((R.iloadN (pc' := 12) d10_11 rfl rfl).ifY (pc' := 22) d10_12 (feq (by decide : ¬ ((2 : Int32) = (0 : Int32)))).2 (by decide) rfl).iloadN (pc' := 23) d10_22 rfl rfl).iloadN (pc' := 24) d10_23 rfl rfl).isub (pc' := 25) d10_24 rfl).stk (S' := [(.int (1 : Int32))]) rfl
  replace R := (R.istore (pc' := 27) (l' := #[.val (.ref a), .val (.int (2 : Int32)), .val (.int (3 : Int32)), .val (.int (4 : Int32)), .val (.int (1 : Int32))]) d10_25 rfl rfl).aloadN (pc' := 28) (v := (.ref a)) d10_27 rfl rfl rfl
  replace R := own_pure (R.callV (pc' := 31) (y := (⟨"java/lang/String", "isLatin1", "()Z"⟩ : MethodName)) (z := (⟨"java/lang/String", "isLatin1", "()Z"⟩ : MethodName)) (argsL := []) (rest := []) (W := 0) (w73 hw) (w74 hw) (fun s' hZ' => notFace_of_selects (args := #[]) (mvT hZ' (w76 hw))) (w76 hw) (w75 hw) (w7 hw) (w77 hw) (by decide) e1 (rm_isLatin1 C.l Z a0 hw a h n0 Ds own_cs e2) rfl (lenOf pd3 rfl) rfl rfl d10_28 (by decide) (by decide) (by decide) (by decide) rfl)
  replace R := ((((R.ifN (pc' := 34) d10_31 (feq (by decide : ¬ ((1 : Int32) = (0 : Int32)))).1 rfl).aloadN (pc' := 35) (v := (.ref a)) d10_34 rfl rfl rfl).getF (pc' := 38) (host := "") (Or.inl (w32 hw)) Via.refl e5 d10_35 rfl).iloadN (pc' := 39) d10_38 rfl rfl).iload (pc' := 41) d10_39 rfl rfl
  obtain ⟨_, h1, _, ⟨r1, rfl, S1, K1, rfl⟩, R⟩ := R.callS (pc' := 44) (argsL := [(.ref t), (.int (2 : Int32)), (.int (1 : Int32))]) (rest := []) (W := 0) (w78 hw) (w79 hw) (w80 hw) (w81 hw) (by decide) (rm_ns2_3 C.l Z a0 hw h n0 Ds hok e7) rfl (lenOf pd8 rfl) rfl rfl d10_41 (by decide) (by decide) (by decide) (by decide) rfl
  replace R := ((R.mono (ce' := 2) (sl' := 5) (by decide) (by decide)).stk (S' := [(.ref r1)]) rfl).goto (pc' := 57) d10_44 (by decide) rfl
  have hK : Keep h h1 [] := ((Keep.refl h []).trans K1 all0)
  exact R.retA (Ds' := Ds) hret rfl rfl rfl d10_57 (by decide) (by decide) (fun _ q => q) ⟨r1, rfl, S1, hK, rfl⟩
theorem rm_ft2_4 (l : Launch) (Z : State) (a0 : Array Value) (hw : HW a0 Z) (fm : Value) (h : Heap) (n0 : Nat) (Ds : List Addr) (hfm : fm.isRef = true) :
    Ctr l Z (⟨"jdk/internal/util/Preconditions", "checkFromToIndex", "(IIILjava/util/function/BiFunction;)I"⟩ : MethodName) jdk_41_method_12_code 4 (some .int) [] (rmo 0 0 0 0) #[.int (2 : Int32), .int (4 : Int32), .int (4 : Int32), fm] h n0 Ds (fun v h' Ds' => v = some (.int (2 : Int32)) ∧ h = h' ∧ Ds = Ds') := by
  refine ctr_of (Ls := #[.val (.int (2 : Int32)), .val (.int (4 : Int32)), .val (.int (4 : Int32)), .val fm]) (plainFor_of_name pn1) (fun mm => by rcases ref_cases hfm with rfl | ⟨_, rfl⟩ <;> first | (simp [entryFrame, mkF, argsToLocals, Value.category]; done) | rfl) ?_
  intro C hl hret hnm R
  subst hl
  replace R := (((((R.iloadN (pc' := 1) d14_0 rfl rfl).ifN (pc' := 4) d14_1 (flt (by decide : ¬ ((2 : Int32) < (0 : Int32)))).1 rfl).iloadN (pc' := 5) d14_4 rfl rfl).iloadN (pc' := 6) d14_5 rfl rfl).icmpN (pc' := 9) d14_6 (flt (by decide : ¬ ((4 : Int32) < (2 : Int32)))).2.2.1 rfl).iloadN (pc' := 10) d14_9 rfl rfl
  replace R := ((R.iloadN (pc' := 11) d14_10 rfl rfl).icmpY (pc' := 22) d14_11 (flt (by decide : ¬ ((4 : Int32) < (4 : Int32)))).2.2.2 (by decide) rfl).iloadN (pc' := 23) d14_22 rfl rfl
  exact R.retI (Ds' := Ds) hret d14_23 (by decide) (by decide) (fun _ q => q) ⟨rfl, rfl, rfl⟩
theorem rm_be2_4 (l : Launch) (Z : State) (a0 : Array Value) (hw : HW a0 Z) (h : Heap) (n0 : Nat) (Ds : List Addr) (own_si : SiooOk Z) :
    Ctr l Z (⟨"java/lang/String", "checkBoundsBeginEnd", "(III)V"⟩ : MethodName) jdk_42_method_158_code 3 none [] (rmo 1 0 0 15) #[.int (2 : Int32), .int (4 : Int32), .int (4 : Int32)] h n0 Ds (fun v h' Ds' => v = none ∧ h = h' ∧ Ds = Ds') := by
  refine ctr_of (Ls := #[.val (.int (2 : Int32)), .val (.int (4 : Int32)), .val (.int (4 : Int32))]) (plainFor_of_name pn0) (fun m => by first | (simp [entryFrame, mkF, argsToLocals, Value.category]; done) | rfl) ?_
  intro C hl hret hnm R
  subst hl
  obtain ⟨fm, S_fm, hfm⟩ := id own_si
  replace R := (((R.iloadN (pc' := 1) d13_0 rfl rfl).iloadN (pc' := 2) d13_1 rfl rfl).iloadN (pc' := 3) d13_2 rfl rfl).getS (pc' := 6) (host := "") (Or.inl (w68 hw)) Via.refl S_fm d13_3 rfl
  replace R := own_pure (R.callS (pc' := 9) (argsL := [(.int (2 : Int32)), (.int (4 : Int32)), (.int (4 : Int32)), fm]) (rest := []) (W := 0) (w70 hw) (w71 hw) (w69 hw) (w72 hw) (by decide) (rm_ft2_4 C.l Z a0 hw fm h n0 Ds hfm) rfl (lenOf pd5 rfl) rfl rfl d13_6 (by decide) (by decide) (by decide) (by decide) rfl)
  replace R := R.pop (pc' := 10) d13_9 rfl rfl
  exact R.retV (Ds' := Ds) hret d13_10 (by decide) (by decide) (fun _ q => q) ⟨rfl, rfl, rfl⟩
theorem rm_min2_2 (l : Launch) (Z : State) (a0 : Array Value) (hw : HW a0 Z) (h : Heap) (n0 : Nat) (Ds : List Addr) :
    Ctr l Z (⟨"java/lang/Math", "min", "(II)I"⟩ : MethodName) jdk_29_method_69_code 2 (some .int) [] (rmo 0 0 0 0) #[.int (2 : Int32), .int (2 : Int32)] h n0 Ds (fun v h' Ds' => v = some (.int (2 : Int32)) ∧ h = h' ∧ Ds = Ds') := by
  refine ctr_of (Ls := #[.val (.int (2 : Int32)), .val (.int (2 : Int32))]) (Jvm.Free.JP.mathPlain rfl (by decide +kernel)) (fun m => by first | (simp [entryFrame, mkF, argsToLocals, Value.category]; done) | rfl) ?_
  intro C hl hret hnm R
  subst hl
  replace R := ((((R.iloadN (pc' := 1) d27_0 rfl rfl).iloadN (pc' := 2) d27_1 rfl rfl).icmpN (pc' := 5) d27_2 (flt (by decide : ¬ ((2 : Int32) < (2 : Int32)))).2.2.1 rfl).iloadN (pc' := 6) d27_5 rfl rfl).goto (pc' := 10) d27_6 (by decide) rfl
  exact R.retI (Ds' := Ds) hret d27_10 (by decide) (by decide) (fun _ q => q) ⟨rfl, rfl, rfl⟩
theorem rm_cl2_4 (l : Launch) (Z : State) (a0 : Array Value) (hw : HW a0 Z) (h : Heap) (n0 : Nat) (Ds : List Addr) :
    Ctr l Z (⟨"java/util/Arrays", "checkLength", "(II)V"⟩ : MethodName) jdk_65_method_131_code 2 none [] (rmo 0 0 0 0) #[.int (2 : Int32), .int (4 : Int32)] h n0 Ds (fun v h' Ds' => v = none ∧ h = h' ∧ Ds = Ds') := by
  refine ctr_of (Ls := #[.val (.int (2 : Int32)), .val (.int (4 : Int32))]) (plainFor_of_name pn3) (fun m => by first | (simp [entryFrame, mkF, argsToLocals, Value.category]; done) | rfl) ?_
  intro C hl hret hnm R
  subst hl
  replace R := ((R.iloadN (pc' := 1) d26_0 rfl rfl).iloadN (pc' := 2) d26_1 rfl rfl).icmpY (pc' := 37) d26_2 (flt (by decide : ¬ ((4 : Int32) < (2 : Int32)))).2.1 (by decide) rfl
  exact R.retV (Ds' := Ds) hret d26_37 (by decide) (by decide) (fun _ q => q) ⟨rfl, rfl, rfl⟩
theorem rm_crb2_4 (l : Launch) (Z : State) (a0 : Array Value) (hw : HW a0 Z) (h : Heap) (n0 : Nat) (Ds : List Addr) {x0 x1 x2 x3 : Int32} {t : Addr} {kt : ClassId} (V_t : Arv Z h t kt .byte (4 : Int32) [(.int x0.toInt8.toInt32), (.int x1.toInt8.toInt32), (.int x2.toInt8.toInt32), (.int x3.toInt8.toInt32)] (.int 0)) :
    Ctr l Z (⟨"java/util/Arrays", "copyOfRangeByte", "([BII)[B"⟩ : MethodName) jdk_65_method_133_code 5 (some (.array .byte)) [] (rmo 1 1 2 80) #[.ref t, .int (2 : Int32), .int (4 : Int32)] h n0 Ds (fun v h' Ds' => ∃ (r : Addr) (kr : ClassId), v = some (.ref r) ∧ Keep h h' [] ∧ Arv Z h' r kr .byte (2 : Int32) [(.int x2.toInt8.toInt32), (.int x3.toInt8.toInt32)] (.int 0) ∧ Ds = Ds') := by
  refine ctr_of (Ls := #[.val (.ref t), .val (.int (2 : Int32)), .val (.int (4 : Int32)), .unset, .unset]) (plainFor_of_name pn3) (fun m => by first | (simp [entryFrame, mkF, argsToLocals, Value.category]; done) | rfl) ?_
  intro C hl hret hnm R
  subst hl
  have hvl : t < h.size := V_t.lt
  replace R := (R.iloadN (pc' := 1) d25_0 rfl rfl).iloadN (pc' := 2) d25_1 rfl rfl
  replace R := own_pure0 (R.callS (pc' := 5) (argsL := [(.int (2 : Int32)), (.int (4 : Int32))]) (rest := []) (W := 0) (w120 hw) (w121 hw) (w115 hw) (w122 hw) (by decide) (rm_cl2_4 C.l Z a0 hw h n0 Ds) rfl (lenOf pd2 rfl) rfl rfl d25_2 (by decide) (by decide) (by decide) (by decide) rfl)
  replace R := (((((R.iloadN (pc' := 6) d25_5 rfl rfl).iloadN (pc' := 7) d25_6 rfl rfl).isub (pc' := 8) d25_7 rfl).stk (S' := [(.int (2 : Int32))]) rfl).istoreN (pc' := 9) (l' := #[.val (.ref t), .val (.int (2 : Int32)), .val (.int (4 : Int32)), .val (.int (2 : Int32)), .unset]) d25_8 rfl rfl).iloadN (pc' := 10) d25_9 rfl rfl
  obtain ⟨h1, b1, k1, g1, E1, V1, R⟩ := R.newP (pc' := 12) (aty := .byte) (cap := 2) (w23 hw) d25_10 (by decide) (by decide) (by decide) (by decide) (by decide) rfl
  have V1p : Arv Z h1 b1 k1 .byte (2 : Int32) [(.int (0 : Int32)), (.int (0 : Int32))] (.int (0 : Int32)) := V1.pad (pad_rep [] (.int (0 : Int32)) 2)
  replace R := (((((R.astore (pc' := 14) (l' := #[.val (.ref t), .val (.int (2 : Int32)), .val (.int (4 : Int32)), .val (.int (2 : Int32)), .val (.ref b1)]) d25_12 rfl rfl rfl).aloadN (pc' := 15) (v := (.ref t)) d25_14 rfl rfl rfl).iloadN (pc' := 16) d25_15 rfl rfl).aload (pc' := 18) (v := (.ref b1)) d25_16 rfl rfl rfl).iconst (pc' := 19) (z := (0 : Int32)) d25_18 rfl rfl).aloadN (pc' := 20) (v := (.ref t)) d25_19 rfl rfl rfl
  have K2 := ((Keep.refl h []).trans ((Keep.refl h []).ext E1) all0)
  have F3 := V_t.keep K2 nin0
  replace R := ((((R.arraylength (pc' := 21) F3 d25_20 rfl).iloadN (pc' := 22) d25_21 rfl rfl).isub (pc' := 23) d25_22 rfl).stk (S' := [(.int (2 : Int32)), (.int (0 : Int32)), (.ref b1), (.int (2 : Int32)), (.ref t)]) rfl).iloadN (pc' := 24) d25_23 rfl rfl
  replace R := own_pure (R.callS (pc' := 27) (argsL := [(.int (2 : Int32)), (.int (2 : Int32))]) (rest := [(.int (0 : Int32)), (.ref b1), (.int (2 : Int32)), (.ref t)]) (W := 4) (w123 hw) (w124 hw) (w125 hw) (w126 hw) (by decide) (rm_min2_2 C.l Z a0 hw h1 n0 (b1 :: Ds)) rfl (lenOf pd9 rfl) rfl rfl d25_24 (by decide) (by decide) (by decide) (by decide) rfl)
  have nvb : t ≠ b1 := fun e => by rw [e, g1] at hvl; exact Nat.lt_irrefl _ hvl
  obtain ⟨h4, K4, V4, R⟩ := R.copyB (pc' := 30) (W := 0) (nn := (2 : Int32)) (us := [(.int x2.toInt8.toInt32), (.int x3.toInt8.toInt32)]) (w127 hw) (w130 hw) (w128 hw) (w129 hw) F3 V1p rfl (by decide) (by decide) (by decide) (by decide) (by decide) rfl (Nat.le_of_ble_eq_true rfl) (List.mem_of_getElem? (i := 0) rfl) rfl d25_27 (by decide) rfl (by decide) rfl
  have V4p : Arv Z h4 b1 k1 .byte (2 : Int32) [(.int x2.toInt8.toInt32), (.int x3.toInt8.toInt32)] (.int (0 : Int32)) := V4
  replace R := R.aload (pc' := 32) (v := (.ref b1)) d25_30 rfl rfl rfl
  have hK := (((Keep.refl h []).trans ((Keep.refl h []).ext E1) all0).trans K4 (allS (Or.inr (by rw [g1]; exact (Nat.le_refl _))) all0))
  exact R.retA (Ds' := Ds) hret rfl rfl rfl d25_32 (by decide) (by decide) (fun _ q => (fun q => (List.mem_cons_of_mem _ q)) q) ⟨b1, _, rfl, hK, V4p, rfl⟩
theorem rm_cr2_4 (l : Launch) (Z : State) (a0 : Array Value) (hw : HW a0 Z) (h : Heap) (n0 : Nat) (Ds : List Addr) {x0 x1 x2 x3 : Int32} {t : Addr} {kt : ClassId} (V_t : Arv Z h t kt .byte (4 : Int32) [(.int x0.toInt8.toInt32), (.int x1.toInt8.toInt32), (.int x2.toInt8.toInt32), (.int x3.toInt8.toInt32)] (.int 0)) :
    Ctr l Z (⟨"java/util/Arrays", "copyOfRange", "([BII)[B"⟩ : MethodName) jdk_65_method_132_code 3 (some (.array .byte)) [] (rmo 2 1 2 96) #[.ref t, .int (2 : Int32), .int (4 : Int32)] h n0 Ds (fun v h' Ds' => ∃ (r : Addr) (kr : ClassId), v = some (.ref r) ∧ Keep h h' [] ∧ Arv Z h' r kr .byte (2 : Int32) [(.int x2.toInt8.toInt32), (.int x3.toInt8.toInt32)] (.int 0) ∧ Ds = Ds') := by
  refine ctr_of (Ls := #[.val (.ref t), .val (.int (2 : Int32)), .val (.int (4 : Int32))]) (plainFor_of_name pn3) (fun m => by first | (simp [entryFrame, mkF, argsToLocals, Value.category]; done) | rfl) ?_
  intro C hl hret hnm R
  subst hl
  have hvl : t < h.size := V_t.lt
  replace R := ((((R.iloadN (pc' := 1) d24_0 rfl rfl).ifY (pc' := 10) d24_1 (feq (by decide : ¬ ((2 : Int32) = (0 : Int32)))).2 (by decide) rfl).aloadN (pc' := 11) (v := (.ref t)) d24_10 rfl rfl rfl).iloadN (pc' := 12) d24_11 rfl rfl).iloadN (pc' := 13) d24_12 rfl rfl
  obtain ⟨_, h1, _, ⟨r1, k1, rfl, K1, V1, rfl⟩, R⟩ := R.callS (pc' := 16) (argsL := [(.ref t), (.int (2 : Int32)), (.int (4 : Int32))]) (rest := []) (W := 0) (w117 hw) (w118 hw) (w115 hw) (w119 hw) (by decide) (rm_crb2_4 C.l Z a0 hw h n0 Ds V_t) rfl (lenOf pd10 rfl) rfl rfl d24_13 (by decide) (by decide) (by decide) (by decide) rfl
  replace R := (R.mono (ce' := 1) (sl' := 2) (by decide) (by decide)).stk (S' := [(.ref r1)]) rfl
  have hK := ((Keep.refl h []).trans K1 all0)
  exact R.retA (Ds' := Ds) hret rfl rfl rfl d24_16 (by decide) (by decide) (fun _ q => q) ⟨r1, _, rfl, hK, V1, rfl⟩
theorem rm_ns2_4 (l : Launch) (Z : State) (a0 : Array Value) (hw : HW a0 Z) (h : Heap) (n0 : Nat) (Ds : List Addr) {x0 x1 x2 x3 : Int32} (hok : ∀ c ∈ ([x0, x1, x2, x3] : List Int32), ¬ c < 0 ∧ ¬ (255 : Int32) < c) {t : Addr} {kt : ClassId} (V_t : Arv Z h t kt .byte (4 : Int32) [(.int x0.toInt8.toInt32), (.int x1.toInt8.toInt32), (.int x2.toInt8.toInt32), (.int x3.toInt8.toInt32)] (.int 0)) :
    Ctr l Z (⟨"java/lang/StringLatin1", "newString", "([BII)Ljava/lang/String;"⟩ : MethodName) jdk_43_method_47_code 3 (some (.object "java/lang/String")) [] (rmo 3 2 6 112) #[.ref t, .int (2 : Int32), .int (2 : Int32)] h n0 Ds (fun v h' Ds' => ∃ r : Addr, v = some (.ref r) ∧ IsStr Z h' r [x2, x3] ∧ Keep h h' [] ∧ Ds = Ds') := by
  refine ctr_of (Ls := #[.val (.ref t), .val (.int (2 : Int32)), .val (.int (2 : Int32))]) (plainFor_of_name pn2) (fun m => by first | (simp [entryFrame, mkF, argsToLocals, Value.category]; done) | rfl) ?_
  intro C hl hret hnm R
  subst hl
  replace R := (R.iloadN (pc' := 1) d16_0 rfl rfl).ifY (pc' := 7) d16_1 (feq (by decide : ¬ ((2 : Int32) = (0 : Int32)))).2 (by decide) rfl
  obtain ⟨h1, b1, g1, E1, X1, D1, R⟩ := R.newO (pc' := 10) (w112 hw) (w6 hw) (w7 hw) d16_7 (by decide) (by decide) rfl
  have F1_coder : Fld Z h1 b1 "java/lang/String" "coder" "B" (.int (0 : Int32)) := D1 (Or.inr (w31 hw)) (ty := .byte) (by decide)
  have F1_value : Fld Z h1 b1 "java/lang/String" "value" "[B" .null := D1 (Or.inr (w33 hw)) (ty := (.array .byte)) (by decide)
  replace R := (((((R.dup (pc' := 11) d16_10 rfl rfl).aloadN (pc' := 12) (v := (.ref t)) d16_11 rfl rfl rfl).iloadN (pc' := 13) d16_12 rfl rfl).iloadN (pc' := 14) d16_13 rfl rfl).iloadN (pc' := 15) d16_14 rfl rfl).iadd (pc' := 16) d16_15 rfl
  replace R := R.stk (S' := [(.int (4 : Int32)), (.int (2 : Int32)), (.ref t), (.ref b1), (.ref b1)]) rfl
  have K3 := ((Keep.refl h []).trans ((Keep.refl h []).ext E1) all0)
  have F4 := V_t.keep K3 nin0
  obtain ⟨_, h2, _, ⟨r2, k2, rfl, K2, V2, rfl⟩, R⟩ := R.callS (pc' := 19) (argsL := [(.ref t), (.int (2 : Int32)), (.int (4 : Int32))]) (rest := [(.ref b1), (.ref b1)]) (W := 2) (w113 hw) (w114 hw) (w115 hw) (w116 hw) (by decide) (rm_cr2_4 C.l Z a0 hw h1 n0 (b1 :: Ds) F4) rfl (lenOf pd10 rfl) rfl rfl d16_16 (by decide) (by decide) (by decide) (by decide) rfl
  replace R := ((R.mono (ce' := 2) (sl' := 6) (by decide) (by decide)).stk (S' := [(.ref r2), (.ref b1), (.ref b1)]) rfl).iconst (pc' := 20) (z := (0 : Int32)) d16_19 rfl rfl
  have K6 := ((Keep.refl h1 []).trans K2 all0)
  have F7 := X1.keep K6
  have nab : b1 ≠ r2 := Exa.neArv F7 V2 (w6 hw)
  have K8 := ((Keep.refl h1 []).trans K2 all0)
  have F9 := F1_value.keep K8 nin0
  have K10 := ((Keep.refl h1 []).trans K2 all0)
  have F11 := F1_coder.keep K10 nin0
  obtain ⟨_, h5, _, ⟨rfl, K5, X5, F5_v, F5_c, rfl⟩, R⟩ := R.callI (pc' := 23) (a := b1) (argsL := [(.ref r2), (.int (0 : Int32))]) (rest := [(.ref b1)]) (W := 1) rfl (w131 hw) (w132 hw) (w7 hw) (w133 hw) (by decide) (rm_bb C.l Z a0 hw b1 r2 h2 n0 (b1 :: Ds) (List.mem_of_getElem? (i := 0) rfl) F7 F9 F11) rfl (lenOf pd11 rfl) rfl rfl d16_20 (by decide) (by decide) (by decide) (by decide) rfl
  replace R := (R.mono (ce' := 2) (sl' := 6) (by decide) (by decide)).stk (S' := [(.ref b1)]) rfl
  have hK := ((((Keep.refl h []).trans ((Keep.refl h []).ext E1) all0).trans K2 all0).trans K5 (allS (Or.inr (by rw [g1]; exact (Nat.le_refl _))) all0))
  have K12 := ((Keep.refl h2 [b1]).trans K5 (allS (Or.inl (List.mem_of_getElem? (i := 0) rfl)) all0))
  have F13 := V2.keep K12 (ninS (Ne.symm nab) nin0)
  exact R.retA (Ds' := Ds) hret rfl rfl rfl d16_23 (by decide) (by decide) (fun _ q => (fun q => (List.mem_cons_of_mem _ q)) q) ⟨b1, rfl, ⟨X5, F5_c, (chS (hok x2 (List.mem_of_getElem? (i := 2) rfl)) (chS (hok x3 (List.mem_of_getElem? (i := 3) rfl)) ch0)), Nat.le_of_ble_eq_true rfl, r2, _, F5_v, F13⟩, hK, rfl⟩
theorem rm_su2_4 (l : Launch) (Z : State) (a0 : Array Value) (hw : HW a0 Z) (a : Addr) (h : Heap) (n0 : Nat) (Ds : List Addr) (own_cs : CompactOn Z) (own_si : SiooOk Z) {x0 x1 x2 x3 : Int32} (S_a : IsStr Z h a [x0, x1, x2, x3]) :
    Ctr l Z (⟨"java/lang/String", "substring", "(II)Ljava/lang/String;"⟩ : MethodName) jdk_42_method_92_code 5 (some (.object "java/lang/String")) [] (rmo 4 2 7 126) #[.ref a, .int (2 : Int32), .int (4 : Int32)] h n0 Ds (fun v h' Ds' => ∃ r : Addr, v = some (.ref r) ∧ IsStr Z h' r [x2, x3] ∧ Keep h h' [] ∧ Ds = Ds') := by
  refine ctr_of (Ls := #[.val (.ref a), .val (.int (2 : Int32)), .val (.int (4 : Int32)), .unset, .unset]) (plainFor_of_name pn0) (fun m => by first | (simp [entryFrame, mkF, argsToLocals, Value.category]; done) | rfl) ?_
  intro C hl hret hnm R
  subst hl
  have S_0 := S_a
  obtain ⟨e1, e2, e3, e4, t, kt, e5, e6⟩ := S_a
  have e7 : Arv Z h t kt .byte (4 : Int32) [(.int x0.toInt8.toInt32), (.int x1.toInt8.toInt32), (.int x2.toInt8.toInt32), (.int x3.toInt8.toInt32)] (.int 0) := e6
  have hok := e3
  have V_t := e7
  replace R := R.aloadN (pc' := 1) (v := (.ref a)) d10_0 rfl rfl rfl
  replace R := own_pure (R.callV (pc' := 4) (y := (⟨"java/lang/String", "length", "()I"⟩ : MethodName)) (z := (⟨"java/lang/String", "length", "()I"⟩ : MethodName)) (argsL := []) (rest := []) (W := 0) (w55 hw) (w56 hw) (fun s' hZ' => notFace_of_selects (args := #[]) (mvT hZ' (w58 hw))) (w58 hw) (w57 hw) (w7 hw) (w59 hw) (by decide) e1 (rm_length C.l Z a0 hw a h n0 Ds own_cs S_0) rfl (lenOf pd6 rfl) rfl rfl d10_1 (by decide) (by decide) (by decide) (by decide) rfl)
  replace R := (((R.istoreN (pc' := 5) (l' := #[.val (.ref a), .val (.int (2 : Int32)), .val (.int (4 : Int32)), .val (.int (4 : Int32)), .unset]) d10_4 rfl rfl).iloadN (pc' := 6) d10_5 rfl rfl).iloadN (pc' := 7) d10_6 rfl rfl).iloadN (pc' := 8) d10_7 rfl rfl
  replace R := own_pure0 (R.callS (pc' := 11) (argsL := [(.int (2 : Int32)), (.int (4 : Int32)), (.int (4 : Int32))]) (rest := []) (W := 0) (w65 hw) (w66 hw) (w7 hw) (w67 hw) (by decide) (rm_be2_4 C.l Z a0 hw h n0 Ds own_si) rfl (lenOf pd7 rfl) rfl rfl d10_8 (by decide) (by decide) (by decide) (by decide) rfl)
  replace R := (((((R.iloadN (pc' := 12) d10_11 rfl rfl).ifY (pc' := 22) d10_12 (feq (by decide : ¬ ((2 : Int32) = (0 : Int32)))).2 (by decide) rfl).iloadN (pc' := 23) d10_22 rfl rfl).iloadN (pc' := 24) d10_23 rfl rfl).isub (pc' := 25) d10_24 rfl).stk (S' := [(.int (2 : Int32))]) rfl
  replace R := (R.istore (pc' := 27) (l' := #[.val (.ref a), .val (.int (2 : Int32)), .val (.int (4 : Int32)), .val (.int (4 : Int32)), .val (.int (2 : Int32))]) d10_25 rfl rfl).aloadN (pc' := 28) (v := (.ref a)) d10_27 rfl rfl rfl
  replace R := own_pure (R.callV (pc' := 31) (y := (⟨"java/lang/String", "isLatin1", "()Z"⟩ : MethodName)) (z := (⟨"java/lang/String", "isLatin1", "()Z"⟩ : MethodName)) (argsL := []) (rest := []) (W := 0) (w73 hw) (w74 hw) (fun s' hZ' => notFace_of_selects (args := #[]) (mvT hZ' (w76 hw))) (w76 hw) (w75 hw) (w7 hw) (w77 hw) (by decide) e1 (rm_isLatin1 C.l Z a0 hw a h n0 Ds own_cs e2) rfl (lenOf pd3 rfl) rfl rfl d10_28 (by decide) (by decide) (by decide) (by decide) rfl)
  replace R := ((((R.ifN (pc' := 34) d10_31 (feq (by decide : ¬ ((1 : Int32) = (0 : Int32)))).1 rfl).aloadN (pc' := 35) (v := (.ref a)) d10_34 rfl rfl rfl).getF (pc' := 38) (host := "") (Or.inl (w32 hw)) Via.refl e5 d10_35 rfl).iloadN (pc' := 39) d10_38 rfl rfl).iload (pc' := 41) d10_39 rfl rfl
  obtain ⟨_, h1, _, ⟨r1, rfl, S1, K1, rfl⟩, R⟩ := R.callS (pc' := 44) (argsL := [(.ref t), (.int (2 : Int32)), (.int (2 : Int32))]) (rest := []) (W := 0) (w78 hw) (w79 hw) (w80 hw) (w81 hw) (by decide) (rm_ns2_4 C.l Z a0 hw h n0 Ds hok e7) rfl (lenOf pd8 rfl) rfl rfl d10_41 (by decide) (by decide) (by decide) (by decide) rfl
  replace R := ((R.mono (ce' := 2) (sl' := 6) (by decide) (by decide)).stk (S' := [(.ref r1)]) rfl).goto (pc' := 57) d10_44 (by decide) rfl
  have hK : Keep h h1 [] := ((Keep.refl h []).trans K1 all0)
  exact R.retA (Ds' := Ds) hret rfl rfl rfl d10_57 (by decide) (by decide) (fun _ q => q) ⟨r1, rfl, S1, hK, rfl⟩
theorem rm_ft3_3 (l : Launch) (Z : State) (a0 : Array Value) (hw : HW a0 Z) (fm : Value) (h : Heap) (n0 : Nat) (Ds : List Addr) (hfm : fm.isRef = true) :
    Ctr l Z (⟨"jdk/internal/util/Preconditions", "checkFromToIndex", "(IIILjava/util/function/BiFunction;)I"⟩ : MethodName) jdk_41_method_12_code 4 (some .int) [] (rmo 0 0 0 0) #[.int (3 : Int32), .int (3 : Int32), .int (4 : Int32), fm] h n0 Ds (fun v h' Ds' => v = some (.int (3 : Int32)) ∧ h = h' ∧ Ds = Ds') := by
  refine ctr_of (Ls := #[.val (.int (3 : Int32)), .val (.int (3 : Int32)), .val (.int (4 : Int32)), .val fm]) (plainFor_of_name pn1) (fun mm => by rcases ref_cases hfm with rfl | ⟨_, rfl⟩ <;> first | (simp [entryFrame, mkF, argsToLocals, Value.category]; done) | rfl) ?_
  intro C hl hret hnm R
  subst hl
  replace R := (((((R.iloadN (pc' := 1) d14_0 rfl rfl).ifN (pc' := 4) d14_1 (flt (by decide : ¬ ((3 : Int32) < (0 : Int32)))).1 rfl).iloadN (pc' := 5) d14_4 rfl rfl).iloadN (pc' := 6) d14_5 rfl rfl).icmpN (pc' := 9) d14_6 (flt (by decide : ¬ ((3 : Int32) < (3 : Int32)))).2.2.1 rfl).iloadN (pc' := 10) d14_9 rfl rfl
  replace R := ((R.iloadN (pc' := 11) d14_10 rfl rfl).icmpY (pc' := 22) d14_11 (flt (by decide : ¬ ((4 : Int32) < (3 : Int32)))).2.2.2 (by decide) rfl).iloadN (pc' := 23) d14_22 rfl rfl
  exact R.retI (Ds' := Ds) hret d14_23 (by decide) (by decide) (fun _ q => q) ⟨rfl, rfl, rfl⟩
theorem rm_be3_3 (l : Launch) (Z : State) (a0 : Array Value) (hw : HW a0 Z) (h : Heap) (n0 : Nat) (Ds : List Addr) (own_si : SiooOk Z) :
    Ctr l Z (⟨"java/lang/String", "checkBoundsBeginEnd", "(III)V"⟩ : MethodName) jdk_42_method_158_code 3 none [] (rmo 1 0 0 15) #[.int (3 : Int32), .int (3 : Int32), .int (4 : Int32)] h n0 Ds (fun v h' Ds' => v = none ∧ h = h' ∧ Ds = Ds') := by
  refine ctr_of (Ls := #[.val (.int (3 : Int32)), .val (.int (3 : Int32)), .val (.int (4 : Int32))]) (plainFor_of_name pn0) (fun m => by first | (simp [entryFrame, mkF, argsToLocals, Value.category]; done) | rfl) ?_
  intro C hl hret hnm R
  subst hl
  obtain ⟨fm, S_fm, hfm⟩ := id own_si
  replace R := (((R.iloadN (pc' := 1) d13_0 rfl rfl).iloadN (pc' := 2) d13_1 rfl rfl).iloadN (pc' := 3) d13_2 rfl rfl).getS (pc' := 6) (host := "") (Or.inl (w68 hw)) Via.refl S_fm d13_3 rfl
  replace R := own_pure (R.callS (pc' := 9) (argsL := [(.int (3 : Int32)), (.int (3 : Int32)), (.int (4 : Int32)), fm]) (rest := []) (W := 0) (w70 hw) (w71 hw) (w69 hw) (w72 hw) (by decide) (rm_ft3_3 C.l Z a0 hw fm h n0 Ds hfm) rfl (lenOf pd5 rfl) rfl rfl d13_6 (by decide) (by decide) (by decide) (by decide) rfl)
  replace R := R.pop (pc' := 10) d13_9 rfl rfl
  exact R.retV (Ds' := Ds) hret d13_10 (by decide) (by decide) (fun _ q => q) ⟨rfl, rfl, rfl⟩
theorem rm_ns3_3 (l : Launch) (Z : State) (a0 : Array Value) (hw : HW a0 Z) (h : Heap) (n0 : Nat) (Ds : List Addr) {x0 x1 x2 x3 : Int32} (hok : ∀ c ∈ ([x0, x1, x2, x3] : List Int32), ¬ c < 0 ∧ ¬ (255 : Int32) < c) {t : Addr} {kt : ClassId} (V_t : Arv Z h t kt .byte (4 : Int32) [(.int x0.toInt8.toInt32), (.int x1.toInt8.toInt32), (.int x2.toInt8.toInt32), (.int x3.toInt8.toInt32)] (.int 0)) :
    Ctr l Z (⟨"java/lang/StringLatin1", "newString", "([BII)Ljava/lang/String;"⟩ : MethodName) jdk_43_method_47_code 3 (some (.object "java/lang/String")) [] (rmo 0 2 4 0) #[.ref t, .int (3 : Int32), .int (0 : Int32)] h n0 Ds (fun v h' Ds' => ∃ r : Addr, v = some (.ref r) ∧ IsStr Z h' r [] ∧ Keep h h' [] ∧ Ds = Ds') := by
  refine ctr_of (Ls := #[.val (.ref t), .val (.int (3 : Int32)), .val (.int (0 : Int32))]) (plainFor_of_name pn2) (fun m => by first | (simp [entryFrame, mkF, argsToLocals, Value.category]; done) | rfl) ?_
  intro C hl hret hnm R
  subst hl
  replace R := (R.iloadN (pc' := 1) d16_0 rfl rfl).ifN (pc' := 4) d16_1 (teq (by decide : (0 : Int32) = (0 : Int32))).2 rfl
  obtain ⟨h1, a1, E1, S1, N1, R⟩ := R.ldcS (pc' := 6) (n := 0) (cs := []) (by decide) (w82 hw) (by decide +kernel) (by decide +kernel) (by decide) d16_4 (by decide +kernel) (by decide) (by decide) (by decide) rfl
  have hK := ((Keep.refl h []).trans ((Keep.refl h []).ext E1) all0)
  exact R.retA (Ds' := Ds) hret rfl rfl rfl d16_6 (by decide) (by decide) (fun _ q => q) ⟨a1, rfl, S1, hK, rfl⟩
theorem rm_su3_3 (l : Launch) (Z : State) (a0 : Array Value) (hw : HW a0 Z) (a : Addr) (h : Heap) (n0 : Nat) (Ds : List Addr) (own_cs : CompactOn Z) (own_si : SiooOk Z) {x0 x1 x2 x3 : Int32} (S_a : IsStr Z h a [x0, x1, x2, x3]) :
    Ctr l Z (⟨"java/lang/String", "substring", "(II)Ljava/lang/String;"⟩ : MethodName) jdk_42_method_92_code 5 (some (.object "java/lang/String")) [] (rmo 4 2 7 126) #[.ref a, .int (3 : Int32), .int (3 : Int32)] h n0 Ds (fun v h' Ds' => ∃ r : Addr, v = some (.ref r) ∧ IsStr Z h' r [] ∧ Keep h h' [] ∧ Ds = Ds') := by
  refine ctr_of (Ls := #[.val (.ref a), .val (.int (3 : Int32)), .val (.int (3 : Int32)), .unset, .unset]) (plainFor_of_name pn0) (fun m => by first | (simp [entryFrame, mkF, argsToLocals, Value.category]; done) | rfl) ?_
  intro C hl hret hnm R
  subst hl
  have S_0 := S_a
  obtain ⟨e1, e2, e3, e4, t, kt, e5, e6⟩ := S_a
  have e7 : Arv Z h t kt .byte (4 : Int32) [(.int x0.toInt8.toInt32), (.int x1.toInt8.toInt32), (.int x2.toInt8.toInt32), (.int x3.toInt8.toInt32)] (.int 0) := e6
  have hok := e3
  have V_t := e7
  replace R := R.aloadN (pc' := 1) (v := (.ref a)) d10_0 rfl rfl rfl
  replace R := own_pure (R.callV (pc' := 4) (y := (⟨"java/lang/String", "length", "()I"⟩ : MethodName)) (z := (⟨"java/lang/String", "length", "()I"⟩ : MethodName)) (argsL := []) (rest := []) (W := 0) (w55 hw) (w56 hw) (fun s' hZ' => notFace_of_selects (args := #[]) (mvT hZ' (w58 hw))) (w58 hw) (w57 hw) (w7 hw) (w59 hw) (by decide) e1 (rm_length C.l Z a0 hw a h n0 Ds own_cs S_0) rfl (lenOf pd6 rfl) rfl rfl d10_1 (by decide) (by decide) (by decide) (by decide) rfl)
  replace R := (((R.istoreN (pc' := 5) (l' := #[.val (.ref a), .val (.int (3 : Int32)), .val (.int (3 : Int32)), .val (.int (4 : Int32)), .unset]) d10_4 rfl rfl).iloadN (pc' := 6) d10_5 rfl rfl).iloadN (pc' := 7) d10_6 rfl rfl).iloadN (pc' := 8) d10_7 rfl rfl
  replace R := own_pure0 (R.callS (pc' := 11) (argsL := [(.int (3 : Int32)), (.int (3 : Int32)), (.int (4 : Int32))]) (rest := []) (W := 0) (w65 hw) (w66 hw) (w7 hw) (w67 hw) (by decide) (rm_be3_3 C.l Z a0 hw h n0 Ds own_si) rfl (lenOf pd7 rfl) rfl rfl d10_8 (by decide) (by decide) (by decide) (by decide) rfl)
  replace R := (((((R.iloadN (pc' := 12) d10_11 rfl rfl).ifY (pc' := 22) d10_12 (feq (by decide : ¬ ((3 : Int32) = (0 : Int32)))).2 (by decide) rfl).iloadN (pc' := 23) d10_22 rfl rfl).iloadN (pc' := 24) d10_23 rfl rfl).isub (pc' := 25) d10_24 rfl).stk (S' := [(.int (0 : Int32))]) rfl
  replace R := (R.istore (pc' := 27) (l' := #[.val (.ref a), .val (.int (3 : Int32)), .val (.int (3 : Int32)), .val (.int (4 : Int32)), .val (.int (0 : Int32))]) d10_25 rfl rfl).aloadN (pc' := 28) (v := (.ref a)) d10_27 rfl rfl rfl
  replace R := own_pure (R.callV (pc' := 31) (y := (⟨"java/lang/String", "isLatin1", "()Z"⟩ : MethodName)) (z := (⟨"java/lang/String", "isLatin1", "()Z"⟩ : MethodName)) (argsL := []) (rest := []) (W := 0) (w73 hw) (w74 hw) (fun s' hZ' => notFace_of_selects (args := #[]) (mvT hZ' (w76 hw))) (w76 hw) (w75 hw) (w7 hw) (w77 hw) (by decide) e1 (rm_isLatin1 C.l Z a0 hw a h n0 Ds own_cs e2) rfl (lenOf pd3 rfl) rfl rfl d10_28 (by decide) (by decide) (by decide) (by decide) rfl)
  replace R := ((((R.ifN (pc' := 34) d10_31 (feq (by decide : ¬ ((1 : Int32) = (0 : Int32)))).1 rfl).aloadN (pc' := 35) (v := (.ref a)) d10_34 rfl rfl rfl).getF (pc' := 38) (host := "") (Or.inl (w32 hw)) Via.refl e5 d10_35 rfl).iloadN (pc' := 39) d10_38 rfl rfl).iload (pc' := 41) d10_39 rfl rfl
  obtain ⟨_, h1, _, ⟨r1, rfl, S1, K1, rfl⟩, R⟩ := R.callS (pc' := 44) (argsL := [(.ref t), (.int (3 : Int32)), (.int (0 : Int32))]) (rest := []) (W := 0) (w78 hw) (w79 hw) (w80 hw) (w81 hw) (by decide) (rm_ns3_3 C.l Z a0 hw h n0 Ds hok e7) rfl (lenOf pd8 rfl) rfl rfl d10_41 (by decide) (by decide) (by decide) (by decide) rfl
  replace R := ((R.mono (ce' := 2) (sl' := 4) (by decide) (by decide)).stk (S' := [(.ref r1)]) rfl).goto (pc' := 57) d10_44 (by decide) rfl
  have hK : Keep h h1 [] := ((Keep.refl h []).trans K1 all0)
  exact R.retA (Ds' := Ds) hret rfl rfl rfl d10_57 (by decide) (by decide) (fun _ q => q) ⟨r1, rfl, S1, hK, rfl⟩
theorem rm_ft3_4 (l : Launch) (Z : State) (a0 : Array Value) (hw : HW a0 Z) (fm : Value) (h : Heap) (n0 : Nat) (Ds : List Addr) (hfm : fm.isRef = true) :
    Ctr l Z (⟨"jdk/internal/util/Preconditions", "checkFromToIndex", "(IIILjava/util/function/BiFunction;)I"⟩ : MethodName) jdk_41_method_12_code 4 (some .int) [] (rmo 0 0 0 0) #[.int (3 : Int32), .int (4 : Int32), .int (4 : Int32), fm] h n0 Ds (fun v h' Ds' => v = some (.int (3 : Int32)) ∧ h = h' ∧ Ds = Ds') := by
  refine ctr_of (Ls := #[.val (.int (3 : Int32)), .val (.int (4 : Int32)), .val (.int (4 : Int32)), .val fm]) (plainFor_of_name pn1) (fun mm => by rcases ref_cases hfm with rfl | ⟨_, rfl⟩ <;> first | (simp [entryFrame, mkF, argsToLocals, Value.category]; done) | rfl) ?_
  intro C hl hret hnm R
  subst hl
  replace R := (((((R.iloadN (pc' := 1) d14_0 rfl rfl).ifN (pc' := 4) d14_1 (flt (by decide : ¬ ((3 : Int32) < (0 : Int32)))).1 rfl).iloadN (pc' := 5) d14_4 rfl rfl).iloadN (pc' := 6) d14_5 rfl rfl).icmpN (pc' := 9) d14_6 (flt (by decide : ¬ ((4 : Int32) < (3 : Int32)))).2.2.1 rfl).iloadN (pc' := 10) d14_9 rfl rfl
  replace R := ((R.iloadN (pc' := 11) d14_10 rfl rfl).icmpY (pc' := 22) d14_11 (flt (by decide : ¬ ((4 : Int32) < (4 : Int32)))).2.2.2 (by decide) rfl).iloadN (pc' := 23) d14_22 rfl rfl
  exact R.retI (Ds' := Ds) hret d14_23 (by decide) (by decide) (fun _ q => q) ⟨rfl, rfl, rfl⟩
theorem rm_be3_4 (l : Launch) (Z : State) (a0 : Array Value) (hw : HW a0 Z) (h : Heap) (n0 : Nat) (Ds : List Addr) (own_si : SiooOk Z) :
    Ctr l Z (⟨"java/lang/String", "checkBoundsBeginEnd", "(III)V"⟩ : MethodName) jdk_42_method_158_code 3 none [] (rmo 1 0 0 15) #[.int (3 : Int32), .int (4 : Int32), .int (4 : Int32)] h n0 Ds (fun v h' Ds' => v = none ∧ h = h' ∧ Ds = Ds') := by
  refine ctr_of (Ls := #[.val (.int (3 : Int32)), .val (.int (4 : Int32)), .val (.int (4 : Int32))]) (plainFor_of_name pn0) (fun m => by first | (simp [entryFrame, mkF, argsToLocals, Value.category]; done) | rfl) ?_
  intro C hl hret hnm R
  subst hl
  obtain ⟨fm, S_fm, hfm⟩ := id own_si
  replace R := (((R.iloadN (pc' := 1) d13_0 rfl rfl).iloadN (pc' := 2) d13_1 rfl rfl).iloadN (pc' := 3) d13_2 rfl rfl).getS (pc' := 6) (host := "") (Or.inl (w68 hw)) Via.refl S_fm d13_3 rfl
  replace R := own_pure (R.callS (pc' := 9) (argsL := [(.int (3 : Int32)), (.int (4 : Int32)), (.int (4 : Int32)), fm]) (rest := []) (W := 0) (w70 hw) (w71 hw) (w69 hw) (w72 hw) (by decide) (rm_ft3_4 C.l Z a0 hw fm h n0 Ds hfm) rfl (lenOf pd5 rfl) rfl rfl d13_6 (by decide) (by decide) (by decide) (by decide) rfl)
  replace R := R.pop (pc' := 10) d13_9 rfl rfl
  exact R.retV (Ds' := Ds) hret d13_10 (by decide) (by decide) (fun _ q => q) ⟨rfl, rfl, rfl⟩
theorem rm_min1_1 (l : Launch) (Z : State) (a0 : Array Value) (hw : HW a0 Z) (h : Heap) (n0 : Nat) (Ds : List Addr) :
    Ctr l Z (⟨"java/lang/Math", "min", "(II)I"⟩ : MethodName) jdk_29_method_69_code 2 (some .int) [] (rmo 0 0 0 0) #[.int (1 : Int32), .int (1 : Int32)] h n0 Ds (fun v h' Ds' => v = some (.int (1 : Int32)) ∧ h = h' ∧ Ds = Ds') := by
  refine ctr_of (Ls := #[.val (.int (1 : Int32)), .val (.int (1 : Int32))]) (Jvm.Free.JP.mathPlain rfl (by decide +kernel)) (fun m => by first | (simp [entryFrame, mkF, argsToLocals, Value.category]; done) | rfl) ?_
  intro C hl hret hnm R
  subst hl
  replace R := ((((R.iloadN (pc' := 1) d27_0 rfl rfl).iloadN (pc' := 2) d27_1 rfl rfl).icmpN (pc' := 5) d27_2 (flt (by decide : ¬ ((1 : Int32) < (1 : Int32)))).2.2.1 rfl).iloadN (pc' := 6) d27_5 rfl rfl).goto (pc' := 10) d27_6 (by decide) rfl
  exact R.retI (Ds' := Ds) hret d27_10 (by decide) (by decide) (fun _ q => q) ⟨rfl, rfl, rfl⟩
theorem rm_cl3_4 (l : Launch) (Z : State) (a0 : Array Value) (hw : HW a0 Z) (h : Heap) (n0 : Nat) (Ds : List Addr) :
    Ctr l Z (⟨"java/util/Arrays", "checkLength", "(II)V"⟩ : MethodName) jdk_65_method_131_code 2 none [] (rmo 0 0 0 0) #[.int (3 : Int32), .int (4 : Int32)] h n0 Ds (fun v h' Ds' => v = none ∧ h = h' ∧ Ds = Ds') := by
  refine ctr_of (Ls := #[.val (.int (3 : Int32)), .val (.int (4 : Int32))]) (plainFor_of_name pn3) (fun m => by first | (simp [entryFrame, mkF, argsToLocals, Value.category]; done) | rfl) ?_
  intro C hl hret hnm R
  subst hl
  replace R := ((R.iloadN (pc' := 1) d26_0 rfl rfl).iloadN (pc' := 2) d26_1 rfl rfl).icmpY (pc' := 37) d26_2 (flt (by decide : ¬ ((4 : Int32) < (3 : Int32)))).2.1 (by decide) rfl
  exact R.retV (Ds' := Ds) hret d26_37 (by decide) (by decide) (fun _ q => q) ⟨rfl, rfl, rfl⟩
theorem rm_crb3_4 (l : Launch) (Z : State) (a0 : Array Value) (hw : HW a0 Z) (h : Heap) (n0 : Nat) (Ds : List Addr) {x0 x1 x2 x3 : Int32} {t : Addr} {kt : ClassId} (V_t : Arv Z h t kt .byte (4 : Int32) [(.int x0.toInt8.toInt32), (.int x1.toInt8.toInt32), (.int x2.toInt8.toInt32), (.int x3.toInt8.toInt32)] (.int 0)) :
    Ctr l Z (⟨"java/util/Arrays", "copyOfRangeByte", "([BII)[B"⟩ : MethodName) jdk_65_method_133_code 5 (some (.array .byte)) [] (rmo 1 1 1 80) #[.ref t, .int (3 : Int32), .int (4 : Int32)] h n0 Ds (fun v h' Ds' => ∃ (r : Addr) (kr : ClassId), v = some (.ref r) ∧ Keep h h' [] ∧ Arv Z h' r kr .byte (1 : Int32) [(.int x3.toInt8.toInt32)] (.int 0) ∧ Ds = Ds') := by
  refine ctr_of (Ls := #[.val (.ref t), .val (.int (3 : Int32)), .val (.int (4 : Int32)), .unset, .unset]) (plainFor_of_name pn3) (fun m => by first | (simp [entryFrame, mkF, argsToLocals, Value.category]; done) | rfl) ?_
  intro C hl hret hnm R
  subst hl
  have hvl : t < h.size := V_t.lt
  replace R := (R.iloadN (pc' := 1) d25_0 rfl rfl).iloadN (pc' := 2) d25_1 rfl rfl
  replace R := own_pure0 (R.callS (pc' := 5) (argsL := [(.int (3 : Int32)), (.int (4 : Int32))]) (rest := []) (W := 0) (w120 hw) (w121 hw) (w115 hw) (w122 hw) (by decide) (rm_cl3_4 C.l Z a0 hw h n0 Ds) rfl (lenOf pd2 rfl) rfl rfl d25_2 (by decide) (by decide) (by decide) (by decide) rfl)
  replace R := (((((R.iloadN (pc' := 6) d25_5 rfl rfl).iloadN (pc' := 7) d25_6 rfl rfl).isub (pc' := 8) d25_7 rfl).stk (S' := [(.int (1 : Int32))]) rfl).istoreN (pc' := 9) (l' := #[.val (.ref t), .val (.int (3 : Int32)), .val (.int (4 : Int32)), .val (.int (1 : Int32)), .unset]) d25_8 rfl rfl).iloadN (pc' := 10) d25_9 rfl rfl
  obtain ⟨h1, b1, k1, g1, E1, V1, R⟩ := R.newP (pc' := 12) (aty := .byte) (cap := 1) (w23 hw) d25_10 (by decide) (by decide) (by decide) (by decide) (by decide) rfl
  have V1p : Arv Z h1 b1 k1 .byte (1 : Int32) [(.int (0 : Int32))] (.int (0 : Int32)) := V1.pad (pad_rep [] (.int (0 : Int32)) 1)
  replace R := (((((R.astore (pc' := 14) (l' := #[.val (.ref t), .val (.int (3 : Int32)), .val (.int (4 : Int32)), .val (.int (1 : Int32)), .val (.ref b1)]) d25_12 rfl rfl rfl).aloadN (pc' := 15) (v := (.ref t)) d25_14 rfl rfl rfl).iloadN (pc' := 16) d25_15 rfl rfl).aload (pc' := 18) (v := (.ref b1)) d25_16 rfl rfl rfl).iconst (pc' := 19) (z := (0 : Int32)) d25_18 rfl rfl).aloadN (pc' := 20) (v := (.ref t)) d25_19 rfl rfl rfl
  have K2 := ((Keep.refl h []).trans ((Keep.refl h []).ext E1) all0)
  have F3 := V_t.keep K2 nin0
  replace R := ((((R.arraylength (pc' := 21) F3 d25_20 rfl).iloadN (pc' := 22) d25_21 rfl rfl).isub (pc' := 23) d25_22 rfl).stk (S' := [(.int (1 : Int32)), (.int (0 : Int32)), (.ref b1), (.int (3 : Int32)), (.ref t)]) rfl).iloadN (pc' := 24) d25_23 rfl rfl
  replace R := own_pure (R.callS (pc' := 27) (argsL := [(.int (1 : Int32)), (.int (1 : Int32))]) (rest := [(.int (0 : Int32)), (.ref b1), (.int (3 : Int32)), (.ref t)]) (W := 4) (w123 hw) (w124 hw) (w125 hw) (w126 hw) (by decide) (rm_min1_1 C.l Z a0 hw h1 n0 (b1 :: Ds)) rfl (lenOf pd9 rfl) rfl rfl d25_24 (by decide) (by decide) (by decide) (by decide) rfl)
  have nvb : t ≠ b1 := fun e => by rw [e, g1] at hvl; exact Nat.lt_irrefl _ hvl
  obtain ⟨h4, K4, V4, R⟩ := R.copyB (pc' := 30) (W := 0) (nn := (1 : Int32)) (us := [(.int x3.toInt8.toInt32)]) (w127 hw) (w130 hw) (w128 hw) (w129 hw) F3 V1p rfl (by decide) (by decide) (by decide) (by decide) (by decide) rfl (Nat.le_of_ble_eq_true rfl) (List.mem_of_getElem? (i := 0) rfl) rfl d25_27 (by decide) rfl (by decide) rfl
  have V4p : Arv Z h4 b1 k1 .byte (1 : Int32) [(.int x3.toInt8.toInt32)] (.int (0 : Int32)) := V4
  replace R := R.aload (pc' := 32) (v := (.ref b1)) d25_30 rfl rfl rfl
  have hK := (((Keep.refl h []).trans ((Keep.refl h []).ext E1) all0).trans K4 (allS (Or.inr (by rw [g1]; exact (Nat.le_refl _))) all0))
  exact R.retA (Ds' := Ds) hret rfl rfl rfl d25_32 (by decide) (by decide) (fun _ q => (fun q => (List.mem_cons_of_mem _ q)) q) ⟨b1, _, rfl, hK, V4p, rfl⟩
theorem rm_cr3_4 (l : Launch) (Z : State) (a0 : Array Value) (hw : HW a0 Z) (h : Heap) (n0 : Nat) (Ds : List Addr) {x0 x1 x2 x3 : Int32} {t : Addr} {kt : ClassId} (V_t : Arv Z h t kt .byte (4 : Int32) [(.int x0.toInt8.toInt32), (.int x1.toInt8.toInt32), (.int x2.toInt8.toInt32), (.int x3.toInt8.toInt32)] (.int 0)) :
    Ctr l Z (⟨"java/util/Arrays", "copyOfRange", "([BII)[B"⟩ : MethodName) jdk_65_method_132_code 3 (some (.array .byte)) [] (rmo 2 1 1 96) #[.ref t, .int (3 : Int32), .int (4 : Int32)] h n0 Ds (fun v h' Ds' => ∃ (r : Addr) (kr : ClassId), v = some (.ref r) ∧ Keep h h' [] ∧ Arv Z h' r kr .byte (1 : Int32) [(.int x3.toInt8.toInt32)] (.int 0) ∧ Ds = Ds') := by
  refine ctr_of (Ls := #[.val (.ref t), .val (.int (3 : Int32)), .val (.int (4 : Int32))]) (plainFor_of_name pn3) (fun m => by first | (simp [entryFrame, mkF, argsToLocals, Value.category]; done) | rfl) ?_
  intro C hl hret hnm R
  subst hl
  have hvl : t < h.size := V_t.lt
  replace R := ((((R.iloadN (pc' := 1) d24_0 rfl rfl).ifY (pc' := 10) d24_1 (feq (by decide : ¬ ((3 : Int32) = (0 : Int32)))).2 (by decide) rfl).aloadN (pc' := 11) (v := (.ref t)) d24_10 rfl rfl rfl).iloadN (pc' := 12) d24_11 rfl rfl).iloadN (pc' := 13) d24_12 rfl rfl
  obtain ⟨_, h1, _, ⟨r1, k1, rfl, K1, V1, rfl⟩, R⟩ := R.callS (pc' := 16) (argsL := [(.ref t), (.int (3 : Int32)), (.int (4 : Int32))]) (rest := []) (W := 0) (w117 hw) (w118 hw) (w115 hw) (w119 hw) (by decide) (rm_crb3_4 C.l Z a0 hw h n0 Ds V_t) rfl (lenOf pd10 rfl) rfl rfl d24_13 (by decide) (by decide) (by decide) (by decide) rfl
  replace R := (R.mono (ce' := 1) (sl' := 1) (by decide) (by decide)).stk (S' := [(.ref r1)]) rfl
  have hK := ((Keep.refl h []).trans K1 all0)
  exact R.retA (Ds' := Ds) hret rfl rfl rfl d24_16 (by decide) (by decide) (fun _ q => q) ⟨r1, _, rfl, hK, V1, rfl⟩
theorem rm_ns3_4 (l : Launch) (Z : State) (a0 : Array Value) (hw : HW a0 Z) (h : Heap) (n0 : Nat) (Ds : List Addr) {x0 x1 x2 x3 : Int32} (hok : ∀ c ∈ ([x0, x1, x2, x3] : List Int32), ¬ c < 0 ∧ ¬ (255 : Int32) < c) {t : Addr} {kt : ClassId} (V_t : Arv Z h t kt .byte (4 : Int32) [(.int x0.toInt8.toInt32), (.int x1.toInt8.toInt32), (.int x2.toInt8.toInt32), (.int x3.toInt8.toInt32)] (.int 0)) :
    Ctr l Z (⟨"java/lang/StringLatin1", "newString", "([BII)Ljava/lang/String;"⟩ : MethodName) jdk_43_method_47_code 3 (some (.object "java/lang/String")) [] (rmo 3 2 5 112) #[.ref t, .int (3 : Int32), .int (1 : Int32)] h n0 Ds (fun v h' Ds' => ∃ r : Addr, v = some (.ref r) ∧ IsStr Z h' r [x3] ∧ Keep h h' [] ∧ Ds = Ds') := by
  refine ctr_of (Ls := #[.val (.ref t), .val (.int (3 : Int32)), .val (.int (1 : Int32))]) (plainFor_of_name pn2) (fun m => by first | (simp [entryFrame, mkF, argsToLocals, Value.category]; done) | rfl) ?_
  intro C hl hret hnm R
  subst hl
  replace R := (R.iloadN (pc' := 1) d16_0 rfl rfl).ifY (pc' := 7) d16_1 (feq (by decide : ¬ ((1 : Int32) = (0 : Int32)))).2 (by decide) rfl
  obtain ⟨h1, b1, g1, E1, X1, D1, R⟩ := R.newO (pc' := 10) (w112 hw) (w6 hw) (w7 hw) d16_7 (by decide) (by decide) rfl
  have F1_coder : Fld Z h1 b1 "java/lang/String" "coder" "B" (.int (0 : Int32)) := D1 (Or.inr (w31 hw)) (ty := .byte) (by decide)
  have F1_value : Fld Z h1 b1 "java/lang/String" "value" "[B" .null := D1 (Or.inr (w33 hw)) (ty := (.array .byte)) (by decide)
  replace R := (((((R.dup (pc' := 11) d16_10 rfl rfl).aloadN (pc' := 12) (v := (.ref t)) d16_11 rfl rfl rfl).iloadN (pc' := 13) d16_12 rfl rfl).iloadN (pc' := 14) d16_13 rfl rfl).iloadN (pc' := 15) d16_14 rfl rfl).iadd (pc' := 16) d16_15 rfl
  replace R := R.stk (S' := [(.int (4 : Int32)), (.int (3 : Int32)), (.ref t), (.ref b1), (.ref b1)]) rfl
  have K3 := ((Keep.refl h []).trans ((Keep.refl h []).ext E1) all0)
  have F4 := V_t.keep K3 nin0
  obtain ⟨_, h2, _, ⟨r2, k2, rfl, K2, V2, rfl⟩, R⟩ := R.callS (pc' := 19) (argsL := [(.ref t), (.int (3 : Int32)), (.int (4 : Int32))]) (rest := [(.ref b1), (.ref b1)]) (W := 2) (w113 hw) (w114 hw) (w115 hw) (w116 hw) (by decide) (rm_cr3_4 C.l Z a0 hw h1 n0 (b1 :: Ds) F4) rfl (lenOf pd10 rfl) rfl rfl d16_16 (by decide) (by decide) (by decide) (by decide) rfl
  replace R := ((R.mono (ce' := 2) (sl' := 5) (by decide) (by decide)).stk (S' := [(.ref r2), (.ref b1), (.ref b1)]) rfl).iconst (pc' := 20) (z := (0 : Int32)) d16_19 rfl rfl
  have K6 := ((Keep.refl h1 []).trans K2 all0)
  have F7 := X1.keep K6
  have nab : b1 ≠ r2 := Exa.neArv F7 V2 (w6 hw)
  have K8 := ((Keep.refl h1 []).trans K2 all0)
  have F9 := F1_value.keep K8 nin0
  have K10 := ((Keep.refl h1 []).trans K2 all0)
  have F11 := F1_coder.keep K10 nin0
  obtain ⟨_, h5, _, ⟨rfl, K5, X5, F5_v, F5_c, rfl⟩, R⟩ := R.callI (pc' := 23) (a := b1) (argsL := [(.ref r2), (.int (0 : Int32))]) (rest := [(.ref b1)]) (W := 1) rfl (w131 hw) (w132 hw) (w7 hw) (w133 hw) (by decide) (rm_bb C.l Z a0 hw b1 r2 h2 n0 (b1 :: Ds) (List.mem_of_getElem? (i := 0) rfl) F7 F9 F11) rfl (lenOf pd11 rfl) rfl rfl d16_20 (by decide) (by decide) (by decide) (by decide) rfl
  replace R := (R.mono (ce' := 2) (sl' := 5) (by decide) (by decide)).stk (S' := [(.ref b1)]) rfl
  have hK := ((((Keep.refl h []).trans ((Keep.refl h []).ext E1) all0).trans K2 all0).trans K5 (allS (Or.inr (by rw [g1]; exact (Nat.le_refl _))) all0))
  have K12 := ((Keep.refl h2 [b1]).trans K5 (allS (Or.inl (List.mem_of_getElem? (i := 0) rfl)) all0))
  have F13 := V2.keep K12 (ninS (Ne.symm nab) nin0)
  exact R.retA (Ds' := Ds) hret rfl rfl rfl d16_23 (by decide) (by decide) (fun _ q => (fun q => (List.mem_cons_of_mem _ q)) q) ⟨b1, rfl, ⟨X5, F5_c, (chS (hok x3 (List.mem_of_getElem? (i := 3) rfl)) ch0), Nat.le_of_ble_eq_true rfl, r2, _, F5_v, F13⟩, hK, rfl⟩
theorem rm_su3_4 (l : Launch) (Z : State) (a0 : Array Value) (hw : HW a0 Z) (a : Addr) (h : Heap) (n0 : Nat) (Ds : List Addr) (own_cs : CompactOn Z) (own_si : SiooOk Z) {x0 x1 x2 x3 : Int32} (S_a : IsStr Z h a [x0, x1, x2, x3]) :
    Ctr l Z (⟨"java/lang/String", "substring", "(II)Ljava/lang/String;"⟩ : MethodName) jdk_42_method_92_code 5 (some (.object "java/lang/String")) [] (rmo 4 2 7 126) #[.ref a, .int (3 : Int32), .int (4 : Int32)] h n0 Ds (fun v h' Ds' => ∃ r : Addr, v = some (.ref r) ∧ IsStr Z h' r [x3] ∧ Keep h h' [] ∧ Ds = Ds') := by
  refine ctr_of (Ls := #[.val (.ref a), .val (.int (3 : Int32)), .val (.int (4 : Int32)), .unset, .unset]) (plainFor_of_name pn0) (fun m => by first | (simp [entryFrame, mkF, argsToLocals, Value.category]; done) | rfl) ?_
  intro C hl hret hnm R
  subst hl
  have S_0 := S_a
  obtain ⟨e1, e2, e3, e4, t, kt, e5, e6⟩ := S_a
  have e7 : Arv Z h t kt .byte (4 : Int32) [(.int x0.toInt8.toInt32), (.int x1.toInt8.toInt32), (.int x2.toInt8.toInt32), (.int x3.toInt8.toInt32)] (.int 0) := e6
  have hok := e3
  have V_t := e7
  replace R := R.aloadN (pc' := 1) (v := (.ref a)) d10_0 rfl rfl rfl
  replace R := own_pure (R.callV (pc' := 4) (y := (⟨"java/lang/String", "length", "()I"⟩ : MethodName)) (z := (⟨"java/lang/String", "length", "()I"⟩ : MethodName)) (argsL := []) (rest := []) (W := 0) (w55 hw) (w56 hw) (fun s' hZ' => notFace_of_selects (args := #[]) (mvT hZ' (w58 hw))) (w58 hw) (w57 hw) (w7 hw) (w59 hw) (by decide) e1 (rm_length C.l Z a0 hw a h n0 Ds own_cs S_0) rfl (lenOf pd6 rfl) rfl rfl d10_1 (by decide) (by decide) (by decide) (by decide) rfl)
  replace R := (((R.istoreN (pc' := 5) (l' := #[.val (.ref a), .val (.int (3 : Int32)), .val (.int (4 : Int32)), .val (.int (4 : Int32)), .unset]) d10_4 rfl rfl).iloadN (pc' := 6) d10_5 rfl rfl).iloadN (pc' := 7) d10_6 rfl rfl).iloadN (pc' := 8) d10_7 rfl rfl
  replace R := own_pure0 (R.callS (pc' := 11) (argsL := [(.int (3 : Int32)), (.int (4 : Int32)), (.int (4 : Int32))]) (rest := []) (W := 0) (w65 hw) (w66 hw) (w7 hw) (w67 hw) (by decide) (rm_be3_4 C.l Z a0 hw h n0 Ds own_si) rfl (lenOf pd7 rfl) rfl rfl d10_8 (by decide) (by decide) (by decide) (by decide) rfl)
  replace R := (((((R.iloadN (pc' := 12) d10_11 rfl rfl).ifY (pc' := 22) d10_12 (feq (by decide : ¬ ((3 : Int32) = (0 : Int32)))).2 (by decide) rfl).iloadN (pc' := 23) d10_22 rfl rfl).iloadN (pc' := 24) d10_23 rfl rfl).isub (pc' := 25) d10_24 rfl).stk (S' := [(.int (1 : Int32))]) rfl
  replace R := (R.istore (pc' := 27) (l' := #[.val (.ref a), .val (.int (3 : Int32)), .val (.int (4 : Int32)), .val (.int (4 : Int32)), .val (.int (1 : Int32))]) d10_25 rfl rfl).aloadN (pc' := 28) (v := (.ref a)) d10_27 rfl rfl rfl
  replace R := own_pure (R.callV (pc' := 31) (y := (⟨"java/lang/String", "isLatin1", "()Z"⟩ : MethodName)) (z := (⟨"java/lang/String", "isLatin1", "()Z"⟩ : MethodName)) (argsL := []) (rest := []) (W := 0) (w73 hw) (w74 hw) (fun s' hZ' => notFace_of_selects (args := #[]) (mvT hZ' (w76 hw))) (w76 hw) (w75 hw) (w7 hw) (w77 hw) (by decide) e1 (rm_isLatin1 C.l Z a0 hw a h n0 Ds own_cs e2) rfl (lenOf pd3 rfl) rfl rfl d10_28 (by decide) (by decide) (by decide) (by decide) rfl)
  replace R := ((((R.ifN (pc' := 34) d10_31 (feq (by decide : ¬ ((1 : Int32) = (0 : Int32)))).1 rfl).aloadN (pc' := 35) (v := (.ref a)) d10_34 rfl rfl rfl).getF (pc' := 38) (host := "") (Or.inl (w32 hw)) Via.refl e5 d10_35 rfl).iloadN (pc' := 39) d10_38 rfl rfl).iload (pc' := 41) d10_39 rfl rfl
  obtain ⟨_, h1, _, ⟨r1, rfl, S1, K1, rfl⟩, R⟩ := R.callS (pc' := 44) (argsL := [(.ref t), (.int (3 : Int32)), (.int (1 : Int32))]) (rest := []) (W := 0) (w78 hw) (w79 hw) (w80 hw) (w81 hw) (by decide) (rm_ns3_4 C.l Z a0 hw h n0 Ds hok e7) rfl (lenOf pd8 rfl) rfl rfl d10_41 (by decide) (by decide) (by decide) (by decide) rfl
  replace R := ((R.mono (ce' := 2) (sl' := 5) (by decide) (by decide)).stk (S' := [(.ref r1)]) rfl).goto (pc' := 57) d10_44 (by decide) rfl
  have hK : Keep h h1 [] := ((Keep.refl h []).trans K1 all0)
  exact R.retA (Ds' := Ds) hret rfl rfl rfl d10_57 (by decide) (by decide) (fun _ q => q) ⟨r1, rfl, S1, hK, rfl⟩
theorem rm_ft4_4 (l : Launch) (Z : State) (a0 : Array Value) (hw : HW a0 Z) (fm : Value) (h : Heap) (n0 : Nat) (Ds : List Addr) (hfm : fm.isRef = true) :
    Ctr l Z (⟨"jdk/internal/util/Preconditions", "checkFromToIndex", "(IIILjava/util/function/BiFunction;)I"⟩ : MethodName) jdk_41_method_12_code 4 (some .int) [] (rmo 0 0 0 0) #[.int (4 : Int32), .int (4 : Int32), .int (4 : Int32), fm] h n0 Ds (fun v h' Ds' => v = some (.int (4 : Int32)) ∧ h = h' ∧ Ds = Ds') := by
  refine ctr_of (Ls := #[.val (.int (4 : Int32)), .val (.int (4 : Int32)), .val (.int (4 : Int32)), .val fm]) (plainFor_of_name pn1) (fun mm => by rcases ref_cases hfm with rfl | ⟨_, rfl⟩ <;> first | (simp [entryFrame, mkF, argsToLocals, Value.category]; done) | rfl) ?_
  intro C hl hret hnm R
  subst hl
  replace R := (((((R.iloadN (pc' := 1) d14_0 rfl rfl).ifN (pc' := 4) d14_1 (flt (by decide : ¬ ((4 : Int32) < (0 : Int32)))).1 rfl).iloadN (pc' := 5) d14_4 rfl rfl).iloadN (pc' := 6) d14_5 rfl rfl).icmpN (pc' := 9) d14_6 (flt (by decide : ¬ ((4 : Int32) < (4 : Int32)))).2.2.1 rfl).iloadN (pc' := 10) d14_9 rfl rfl
  replace R := ((R.iloadN (pc' := 11) d14_10 rfl rfl).icmpY (pc' := 22) d14_11 (flt (by decide : ¬ ((4 : Int32) < (4 : Int32)))).2.2.2 (by decide) rfl).iloadN (pc' := 23) d14_22 rfl rfl
  exact R.retI (Ds' := Ds) hret d14_23 (by decide) (by decide) (fun _ q => q) ⟨rfl, rfl, rfl⟩
theorem rm_be4_4 (l : Launch) (Z : State) (a0 : Array Value) (hw : HW a0 Z) (h : Heap) (n0 : Nat) (Ds : List Addr) (own_si : SiooOk Z) :
    Ctr l Z (⟨"java/lang/String", "checkBoundsBeginEnd", "(III)V"⟩ : MethodName) jdk_42_method_158_code 3 none [] (rmo 1 0 0 15) #[.int (4 : Int32), .int (4 : Int32), .int (4 : Int32)] h n0 Ds (fun v h' Ds' => v = none ∧ h = h' ∧ Ds = Ds') := by
  refine ctr_of (Ls := #[.val (.int (4 : Int32)), .val (.int (4 : Int32)), .val (.int (4 : Int32))]) (plainFor_of_name pn0) (fun m => by first | (simp [entryFrame, mkF, argsToLocals, Value.category]; done) | rfl) ?_
  intro C hl hret hnm R
  subst hl
  obtain ⟨fm, S_fm, hfm⟩ := id own_si
  replace R := (((R.iloadN (pc' := 1) d13_0 rfl rfl).iloadN (pc' := 2) d13_1 rfl rfl).iloadN (pc' := 3) d13_2 rfl rfl).getS (pc' := 6) (host := "") (Or.inl (w68 hw)) Via.refl S_fm d13_3 rfl
  replace R := own_pure (R.callS (pc' := 9) (argsL := [(.int (4 : Int32)), (.int (4 : Int32)), (.int (4 : Int32)), fm]) (rest := []) (W := 0) (w70 hw) (w71 hw) (w69 hw) (w72 hw) (by decide) (rm_ft4_4 C.l Z a0 hw fm h n0 Ds hfm) rfl (lenOf pd5 rfl) rfl rfl d13_6 (by decide) (by decide) (by decide) (by decide) rfl)
  replace R := R.pop (pc' := 10) d13_9 rfl rfl
  exact R.retV (Ds' := Ds) hret d13_10 (by decide) (by decide) (fun _ q => q) ⟨rfl, rfl, rfl⟩
theorem rm_ns4_4 (l : Launch) (Z : State) (a0 : Array Value) (hw : HW a0 Z) (h : Heap) (n0 : Nat) (Ds : List Addr) {x0 x1 x2 x3 : Int32} (hok : ∀ c ∈ ([x0, x1, x2, x3] : List Int32), ¬ c < 0 ∧ ¬ (255 : Int32) < c) {t : Addr} {kt : ClassId} (V_t : Arv Z h t kt .byte (4 : Int32) [(.int x0.toInt8.toInt32), (.int x1.toInt8.toInt32), (.int x2.toInt8.toInt32), (.int x3.toInt8.toInt32)] (.int 0)) :
    Ctr l Z (⟨"java/lang/StringLatin1", "newString", "([BII)Ljava/lang/String;"⟩ : MethodName) jdk_43_method_47_code 3 (some (.object "java/lang/String")) [] (rmo 0 2 4 0) #[.ref t, .int (4 : Int32), .int (0 : Int32)] h n0 Ds (fun v h' Ds' => ∃ r : Addr, v = some (.ref r) ∧ IsStr Z h' r [] ∧ Keep h h' [] ∧ Ds = Ds') := by
  refine ctr_of (Ls := #[.val (.ref t), .val (.int (4 : Int32)), .val (.int (0 : Int32))]) (plainFor_of_name pn2) (fun m => by first | (simp [entryFrame, mkF, argsToLocals, Value.category]; done) | rfl) ?_
  intro C hl hret hnm R
  subst hl
  replace R := (R.iloadN (pc' := 1) d16_0 rfl rfl).ifN (pc' := 4) d16_1 (teq (by decide : (0 : Int32) = (0 : Int32))).2 rfl
  obtain ⟨h1, a1, E1, S1, N1, R⟩ := R.ldcS (pc' := 6) (n := 0) (cs := []) (by decide) (w82 hw) (by decide +kernel) (by decide +kernel) (by decide) d16_4 (by decide +kernel) (by decide) (by decide) (by decide) rfl
  have hK := ((Keep.refl h []).trans ((Keep.refl h []).ext E1) all0)
  exact R.retA (Ds' := Ds) hret rfl rfl rfl d16_6 (by decide) (by decide) (fun _ q => q) ⟨a1, rfl, S1, hK, rfl⟩
theorem rm_su4_4 (l : Launch) (Z : State) (a0 : Array Value) (hw : HW a0 Z) (a : Addr) (h : Heap) (n0 : Nat) (Ds : List Addr) (own_cs : CompactOn Z) (own_si : SiooOk Z) {x0 x1 x2 x3 : Int32} (S_a : IsStr Z h a [x0, x1, x2, x3]) :
    Ctr l Z (⟨"java/lang/String", "substring", "(II)Ljava/lang/String;"⟩ : MethodName) jdk_42_method_92_code 5 (some (.object "java/lang/String")) [] (rmo 4 2 7 126) #[.ref a, .int (4 : Int32), .int (4 : Int32)] h n0 Ds (fun v h' Ds' => ∃ r : Addr, v = some (.ref r) ∧ IsStr Z h' r [] ∧ Keep h h' [] ∧ Ds = Ds') := by
  refine ctr_of (Ls := #[.val (.ref a), .val (.int (4 : Int32)), .val (.int (4 : Int32)), .unset, .unset]) (plainFor_of_name pn0) (fun m => by first | (simp [entryFrame, mkF, argsToLocals, Value.category]; done) | rfl) ?_
  intro C hl hret hnm R
  subst hl
  have S_0 := S_a
  obtain ⟨e1, e2, e3, e4, t, kt, e5, e6⟩ := S_a
  have e7 : Arv Z h t kt .byte (4 : Int32) [(.int x0.toInt8.toInt32), (.int x1.toInt8.toInt32), (.int x2.toInt8.toInt32), (.int x3.toInt8.toInt32)] (.int 0) := e6
  have hok := e3
  have V_t := e7
  replace R := R.aloadN (pc' := 1) (v := (.ref a)) d10_0 rfl rfl rfl
  replace R := own_pure (R.callV (pc' := 4) (y := (⟨"java/lang/String", "length", "()I"⟩ : MethodName)) (z := (⟨"java/lang/String", "length", "()I"⟩ : MethodName)) (argsL := []) (rest := []) (W := 0) (w55 hw) (w56 hw) (fun s' hZ' => notFace_of_selects (args := #[]) (mvT hZ' (w58 hw))) (w58 hw) (w57 hw) (w7 hw) (w59 hw) (by decide) e1 (rm_length C.l Z a0 hw a h n0 Ds own_cs S_0) rfl (lenOf pd6 rfl) rfl rfl d10_1 (by decide) (by decide) (by decide) (by decide) rfl)
  replace R := (((R.istoreN (pc' := 5) (l' := #[.val (.ref a), .val (.int (4 : Int32)), .val (.int (4 : Int32)), .val (.int (4 : Int32)), .unset]) d10_4 rfl rfl).iloadN (pc' := 6) d10_5 rfl rfl).iloadN (pc' := 7) d10_6 rfl rfl).iloadN (pc' := 8) d10_7 rfl rfl
  replace R := own_pure0 (R.callS (pc' := 11) (argsL := [(.int (4 : Int32)), (.int (4 : Int32)), (.int (4 : Int32))]) (rest := []) (W := 0) (w65 hw) (w66 hw) (w7 hw) (w67 hw) (by decide) (rm_be4_4 C.l Z a0 hw h n0 Ds own_si) rfl (lenOf pd7 rfl) rfl rfl d10_8 (by decide) (by decide) (by decide) (by decide) rfl)
  replace R := (((((R.iloadN (pc' := 12) d10_11 rfl rfl).ifY (pc' := 22) d10_12 (feq (by decide : ¬ ((4 : Int32) = (0 : Int32)))).2 (by decide) rfl).iloadN (pc' := 23) d10_22 rfl rfl).iloadN (pc' := 24) d10_23 rfl rfl).isub (pc' := 25) d10_24 rfl).stk (S' := [(.int (0 : Int32))]) rfl
  replace R := (R.istore (pc' := 27) (l' := #[.val (.ref a), .val (.int (4 : Int32)), .val (.int (4 : Int32)), .val (.int (4 : Int32)), .val (.int (0 : Int32))]) d10_25 rfl rfl).aloadN (pc' := 28) (v := (.ref a)) d10_27 rfl rfl rfl
  replace R := own_pure (R.callV (pc' := 31) (y := (⟨"java/lang/String", "isLatin1", "()Z"⟩ : MethodName)) (z := (⟨"java/lang/String", "isLatin1", "()Z"⟩ : MethodName)) (argsL := []) (rest := []) (W := 0) (w73 hw) (w74 hw) (fun s' hZ' => notFace_of_selects (args := #[]) (mvT hZ' (w76 hw))) (w76 hw) (w75 hw) (w7 hw) (w77 hw) (by decide) e1 (rm_isLatin1 C.l Z a0 hw a h n0 Ds own_cs e2) rfl (lenOf pd3 rfl) rfl rfl d10_28 (by decide) (by decide) (by decide) (by decide) rfl)
  replace R := ((((R.ifN (pc' := 34) d10_31 (feq (by decide : ¬ ((1 : Int32) = (0 : Int32)))).1 rfl).aloadN (pc' := 35) (v := (.ref a)) d10_34 rfl rfl rfl).getF (pc' := 38) (host := "") (Or.inl (w32 hw)) Via.refl e5 d10_35 rfl).iloadN (pc' := 39) d10_38 rfl rfl).iload (pc' := 41) d10_39 rfl rfl
  obtain ⟨_, h1, _, ⟨r1, rfl, S1, K1, rfl⟩, R⟩ := R.callS (pc' := 44) (argsL := [(.ref t), (.int (4 : Int32)), (.int (0 : Int32))]) (rest := []) (W := 0) (w78 hw) (w79 hw) (w80 hw) (w81 hw) (by decide) (rm_ns4_4 C.l Z a0 hw h n0 Ds hok e7) rfl (lenOf pd8 rfl) rfl rfl d10_41 (by decide) (by decide) (by decide) (by decide) rfl
  replace R := ((R.mono (ce' := 2) (sl' := 4) (by decide) (by decide)).stk (S' := [(.ref r1)]) rfl).goto (pc' := 57) d10_44 (by decide) rfl
  have hK : Keep h h1 [] := ((Keep.refl h []).trans K1 all0)
  exact R.retA (Ds' := Ds) hret rfl rfl rfl d10_57 (by decide) (by decide) (fun _ q => q) ⟨r1, rfl, S1, hK, rfl⟩
theorem rm_rme0_0 (l : Launch) (Z : State) (a0 : Array Value) (hw : HW a0 Z) (a b : Addr) (h : Heap) (n0 : Nat) (Ds : List Addr) (own_cs : CompactOn Z) {x0 x1 x2 x3 : Int32} (S_a : IsStr Z h a [x0, x1, x2, x3]) (S_b : IsStr Z h b []) :
    Ctr l Z (⟨"java/lang/String", "regionMatches", "(ILjava/lang/String;II)Z"⟩ : MethodName) jdk_42_method_73_code 8 (some .boolean) [] (rmo 2 0 0 27) #[.ref a, .int (0 : Int32), .ref b, .int (0 : Int32), .int (0 : Int32)] h n0 Ds (fun v h' Ds' => v = some (.int (1 : Int32)) ∧ h = h' ∧ Ds = Ds') := by
  refine ctr_of (Ls := #[.val (.ref a), .val (.int (0 : Int32)), .val (.ref b), .val (.int (0 : Int32)), .val (.int (0 : Int32)), .unset, .unset, .unset]) (plainFor_of_name pn0) (fun m => by first | (simp [entryFrame, mkF, argsToLocals, Value.category]; done) | rfl) ?_
  intro C hl hret hnm R
  subst hl
  have S_0 := S_a
  have S_1 := S_b
  obtain ⟨e1, e2, e3, e4, t, kt, e5, e6⟩ := S_a
  have e7 : Arv Z h t kt .byte (4 : Int32) [(.int x0.toInt8.toInt32), (.int x1.toInt8.toInt32), (.int x2.toInt8.toInt32), (.int x3.toInt8.toInt32)] (.int 0) := e6
  have hok := e3
  obtain ⟨e1_b, e2_b, e3_b, e4_b, t_b, kt_b, e5_b, e6_b⟩ := S_b
  have e7_b : Arv Z h t_b kt_b .byte (0 : Int32) [] (.int 0) := e6_b
  have hoy := e3_b
  replace R := (((((R.iloadN (pc' := 1) d17_0 rfl rfl).ifN (pc' := 4) d17_1 (flt (by decide : ¬ ((0 : Int32) < (0 : Int32)))).1 rfl).iloadN (pc' := 5) d17_4 rfl rfl).ifN (pc' := 8) d17_5 (flt (by decide : ¬ ((0 : Int32) < (0 : Int32)))).1 rfl).iloadN (pc' := 9) d17_8 rfl rfl).i2l (pc' := 10) d17_9 rfl
  replace R := (R.stk (S' := [(.long (0 : Int64))]) rfl).aloadN (pc' := 11) (v := (.ref a)) d17_10 rfl rfl rfl
  replace R := own_pure (R.callV (pc' := 14) (y := (⟨"java/lang/String", "length", "()I"⟩ : MethodName)) (z := (⟨"java/lang/String", "length", "()I"⟩ : MethodName)) (argsL := []) (rest := [(.long (0 : Int64))]) (W := 2) (w55 hw) (w56 hw) (fun s' hZ' => notFace_of_selects (args := #[]) (mvT hZ' (w58 hw))) (w58 hw) (w57 hw) (w7 hw) (w59 hw) (by decide) e1 (rm_length C.l Z a0 hw a h n0 Ds own_cs S_0) rfl (lenOf pd6 rfl) rfl rfl d17_11 (by decide) (by decide) (by decide) (by decide) rfl)
  replace R := (((((R.i2l (pc' := 15) d17_14 rfl).stk (S' := [(.long (4 : Int64)), (.long (0 : Int64))]) rfl).iload (pc' := 17) d17_15 rfl rfl).i2l (pc' := 18) d17_17 rfl).stk (S' := [(.long (0 : Int64)), (.long (4 : Int64)), (.long (0 : Int64))]) rfl).lsub (pc' := 19) d17_18 rfl
  replace R := (((((R.stk (S' := [(.long (4 : Int64)), (.long (0 : Int64))]) rfl).lcmp (pc' := 20) d17_19 rfl).stk (S' := [(.int (-1 : Int32))]) rfl).ifN (pc' := 23) d17_20 (flt (by decide : ¬ ((0 : Int32) < (-1 : Int32)))).2.2.1 rfl).iloadN (pc' := 24) d17_23 rfl rfl).i2l (pc' := 25) d17_24 rfl
  replace R := (R.stk (S' := [(.long (0 : Int64))]) rfl).aloadN (pc' := 26) (v := (.ref b)) d17_25 rfl rfl rfl
  replace R := own_pure (R.callV (pc' := 29) (y := (⟨"java/lang/String", "length", "()I"⟩ : MethodName)) (z := (⟨"java/lang/String", "length", "()I"⟩ : MethodName)) (argsL := []) (rest := [(.long (0 : Int64))]) (W := 2) (w55 hw) (w56 hw) (fun s' hZ' => notFace_of_selects (args := #[]) (mvT hZ' (w58 hw))) (w58 hw) (w57 hw) (w7 hw) (w59 hw) (by decide) e1_b (rm_length C.l Z a0 hw b h n0 Ds own_cs S_1) rfl (lenOf pd6 rfl) rfl rfl d17_26 (by decide) (by decide) (by decide) (by decide) rfl)
  replace R := (((((R.i2l (pc' := 30) d17_29 rfl).stk (S' := [(.long (0 : Int64)), (.long (0 : Int64))]) rfl).iload (pc' := 32) d17_30 rfl rfl).i2l (pc' := 33) d17_32 rfl).stk (S' := [(.long (0 : Int64)), (.long (0 : Int64)), (.long (0 : Int64))]) rfl).lsub (pc' := 34) d17_33 rfl
  replace R := (((((R.stk (S' := [(.long (0 : Int64)), (.long (0 : Int64))]) rfl).lcmp (pc' := 35) d17_34 rfl).stk (S' := [(.int (0 : Int32))]) rfl).ifY (pc' := 40) d17_35 (flt (by decide : ¬ ((0 : Int32) < (0 : Int32)))).2.2.2 (by decide) rfl).iload (pc' := 42) d17_40 rfl rfl).ifN (pc' := 45) d17_42 (flt (by decide : ¬ ((0 : Int32) < (0 : Int32)))).2.2.1 rfl
  replace R := R.iconst (pc' := 46) (z := (1 : Int32)) d17_45 rfl rfl
  exact R.retN (Ds' := Ds) hret (by simp) (show nar .boolean (1 : Int32) = (1 : Int32) from rfl) d17_46 (by decide) (by decide) (fun _ q => q) ⟨rfl, rfl, rfl⟩
theorem rm_mme0_1 (l : Launch) (Z : State) (a0 : Array Value) (hw : HW a0 Z) (h : Heap) (n0 : Nat) (Ds : List Addr) {x0 x1 x2 x3 : Int32} (hok : ∀ c ∈ ([x0, x1, x2, x3] : List Int32), ¬ c < 0 ∧ ¬ (255 : Int32) < c) (hoy : ∀ c ∈ ([x0] : List Int32), ¬ c < 0 ∧ ¬ (255 : Int32) < c) {t : Addr} {kt : ClassId} (V_t : Arv Z h t kt .byte (4 : Int32) [(.int x0.toInt8.toInt32), (.int x1.toInt8.toInt32), (.int x2.toInt8.toInt32), (.int x3.toInt8.toInt32)] (.int 0)) {u : Addr} {ku : ClassId} (V_u : Arv Z h u ku .byte (1 : Int32) [(.int x0.toInt8.toInt32)] (.int 0)) :
    Ctr l Z (⟨"jdk/internal/util/ArraysSupport", "mismatch", "([BI[BII)I"⟩ : MethodName) jdk_48_method_14_code 8 (some .int) [] (rmo 0 0 0 0) #[.ref t, .int (0 : Int32), .ref u, .int (0 : Int32), .int (1 : Int32)] h n0 Ds (fun v h' Ds' => v = some (.int (-1 : Int32)) ∧ h = h' ∧ Ds = Ds') := by
  refine ctr_of (Ls := #[.val (.ref t), .val (.int (0 : Int32)), .val (.ref u), .val (.int (0 : Int32)), .val (.int (1 : Int32)), .unset, .unset, .unset]) (plainFor_of_name pn4) (fun m => by first | (simp [entryFrame, mkF, argsToLocals, Value.category]; done) | rfl) ?_
  intro C hl hret hnm R
  subst hl
  replace R := (((((R.iconst (pc' := 1) (z := (0 : Int32)) d29_0 rfl rfl).istore (pc' := 3) (l' := #[.val (.ref t), .val (.int (0 : Int32)), .val (.ref u), .val (.int (0 : Int32)), .val (.int (1 : Int32)), .val (.int (0 : Int32)), .unset, .unset]) d29_1 rfl rfl).iload (pc' := 5) d29_3 rfl rfl).bipush (pc' := 7) (z := (7 : Int32)) d29_5 rfl rfl).icmpY (pc' := 70) d29_7 (flt (by decide : ¬ ((7 : Int32) < (1 : Int32)))).2.2.2 (by decide) rfl).iload (pc' := 72) d29_70 rfl rfl
  replace R := (((((R.iload (pc' := 74) d29_72 rfl rfl).icmpN (pc' := 77) d29_74 (tlt (by decide : (0 : Int32) < (1 : Int32))).2.1 rfl).aloadN (pc' := 78) (v := (.ref t)) d29_77 rfl rfl rfl).iloadN (pc' := 79) d29_78 rfl rfl).iload (pc' := 81) d29_79 rfl rfl).iadd (pc' := 82) d29_81 rfl
  replace R := (((((R.stk (S' := [(.int (0 : Int32)), (.ref t)]) rfl).baload (pc' := 83) (v := (.int x0.toInt8.toInt32)) V_t ⟨by decide, by decide⟩ rfl d29_82 rfl).aloadN (pc' := 84) (v := (.ref u)) d29_83 rfl rfl rfl).iloadN (pc' := 85) d29_84 rfl rfl).iload (pc' := 87) d29_85 rfl rfl).iadd (pc' := 88) d29_87 rfl
  replace R := (((((R.stk (S' := [(.int (0 : Int32)), (.ref u), (.int x0.toInt8.toInt32)]) rfl).baload (pc' := 89) (v := (.int x0.toInt8.toInt32)) V_u ⟨by decide, by decide⟩ rfl d29_88 rfl).icmpY (pc' := 95) d29_89 (teq (rfl : x0.toInt8.toInt32 = x0.toInt8.toInt32)).1 (by decide) rfl).iinc (pc' := 98) (l' := #[.val (.ref t), .val (.int (0 : Int32)), .val (.ref u), .val (.int (0 : Int32)), .val (.int (1 : Int32)), .val (.int (1 : Int32)), .unset, .unset]) d29_95 rfl rfl rfl).goto (pc' := 70) d29_98 (by decide) rfl).iload (pc' := 72) d29_70 rfl rfl
  replace R := ((R.iload (pc' := 74) d29_72 rfl rfl).icmpY (pc' := 101) d29_74 (flt (by decide : ¬ ((1 : Int32) < (1 : Int32)))).2.1 (by decide) rfl).iconst (pc' := 102) (z := (-1 : Int32)) d29_101 rfl rfl
  exact R.retI (Ds' := Ds) hret d29_102 (by decide) (by decide) (fun _ q => q) ⟨rfl, rfl, rfl⟩
theorem rm_rme0_1 (l : Launch) (Z : State) (a0 : Array Value) (hw : HW a0 Z) (a b : Addr) (h : Heap) (n0 : Nat) (Ds : List Addr) (own_cs : CompactOn Z) {x0 x1 x2 x3 : Int32} (S_a : IsStr Z h a [x0, x1, x2, x3]) (S_b : IsStr Z h b [x0]) :
    Ctr l Z (⟨"java/lang/String", "regionMatches", "(ILjava/lang/String;II)Z"⟩ : MethodName) jdk_42_method_73_code 8 (some .boolean) [] (rmo 2 0 0 27) #[.ref a, .int (0 : Int32), .ref b, .int (0 : Int32), .int (1 : Int32)] h n0 Ds (fun v h' Ds' => v = some (.int (1 : Int32)) ∧ h = h' ∧ Ds = Ds') := by
  refine ctr_of (Ls := #[.val (.ref a), .val (.int (0 : Int32)), .val (.ref b), .val (.int (0 : Int32)), .val (.int (1 : Int32)), .unset, .unset, .unset]) (plainFor_of_name pn0) (fun m => by first | (simp [entryFrame, mkF, argsToLocals, Value.category]; done) | rfl) ?_
  intro C hl hret hnm R
  subst hl
  have S_0 := S_a
  have S_1 := S_b
  obtain ⟨e1, e2, e3, e4, t, kt, e5, e6⟩ := S_a
  have e7 : Arv Z h t kt .byte (4 : Int32) [(.int x0.toInt8.toInt32), (.int x1.toInt8.toInt32), (.int x2.toInt8.toInt32), (.int x3.toInt8.toInt32)] (.int 0) := e6
  have hok := e3
  obtain ⟨e1_b, e2_b, e3_b, e4_b, t_b, kt_b, e5_b, e6_b⟩ := S_b
  have e7_b : Arv Z h t_b kt_b .byte (1 : Int32) [(.int x0.toInt8.toInt32)] (.int 0) := e6_b
  have hoy := e3_b
  replace R := (((((R.iloadN (pc' := 1) d17_0 rfl rfl).ifN (pc' := 4) d17_1 (flt (by decide : ¬ ((0 : Int32) < (0 : Int32)))).1 rfl).iloadN (pc' := 5) d17_4 rfl rfl).ifN (pc' := 8) d17_5 (flt (by decide : ¬ ((0 : Int32) < (0 : Int32)))).1 rfl).iloadN (pc' := 9) d17_8 rfl rfl).i2l (pc' := 10) d17_9 rfl
  replace R := (R.stk (S' := [(.long (0 : Int64))]) rfl).aloadN (pc' := 11) (v := (.ref a)) d17_10 rfl rfl rfl
  replace R := own_pure (R.callV (pc' := 14) (y := (⟨"java/lang/String", "length", "()I"⟩ : MethodName)) (z := (⟨"java/lang/String", "length", "()I"⟩ : MethodName)) (argsL := []) (rest := [(.long (0 : Int64))]) (W := 2) (w55 hw) (w56 hw) (fun s' hZ' => notFace_of_selects (args := #[]) (mvT hZ' (w58 hw))) (w58 hw) (w57 hw) (w7 hw) (w59 hw) (by decide) e1 (rm_length C.l Z a0 hw a h n0 Ds own_cs S_0) rfl (lenOf pd6 rfl) rfl rfl d17_11 (by decide) (by decide) (by decide) (by decide) rfl)
  replace R := (((((R.i2l (pc' := 15) d17_14 rfl).stk (S' := [(.long (4 : Int64)), (.long (0 : Int64))]) rfl).iload (pc' := 17) d17_15 rfl rfl).i2l (pc' := 18) d17_17 rfl).stk (S' := [(.long (1 : Int64)), (.long (4 : Int64)), (.long (0 : Int64))]) rfl).lsub (pc' := 19) d17_18 rfl
  replace R := (((((R.stk (S' := [(.long (3 : Int64)), (.long (0 : Int64))]) rfl).lcmp (pc' := 20) d17_19 rfl).stk (S' := [(.int (-1 : Int32))]) rfl).ifN (pc' := 23) d17_20 (flt (by decide : ¬ ((0 : Int32) < (-1 : Int32)))).2.2.1 rfl).iloadN (pc' := 24) d17_23 rfl rfl).i2l (pc' := 25) d17_24 rfl
  replace R := (R.stk (S' := [(.long (0 : Int64))]) rfl).aloadN (pc' := 26) (v := (.ref b)) d17_25 rfl rfl rfl
  replace R := own_pure (R.callV (pc' := 29) (y := (⟨"java/lang/String", "length", "()I"⟩ : MethodName)) (z := (⟨"java/lang/String", "length", "()I"⟩ : MethodName)) (argsL := []) (rest := [(.long (0 : Int64))]) (W := 2) (w55 hw) (w56 hw) (fun s' hZ' => notFace_of_selects (args := #[]) (mvT hZ' (w58 hw))) (w58 hw) (w57 hw) (w7 hw) (w59 hw) (by decide) e1_b (rm_length C.l Z a0 hw b h n0 Ds own_cs S_1) rfl (lenOf pd6 rfl) rfl rfl d17_26 (by decide) (by decide) (by decide) (by decide) rfl)
  replace R := (((((R.i2l (pc' := 30) d17_29 rfl).stk (S' := [(.long (1 : Int64)), (.long (0 : Int64))]) rfl).iload (pc' := 32) d17_30 rfl rfl).i2l (pc' := 33) d17_32 rfl).stk (S' := [(.long (1 : Int64)), (.long (1 : Int64)), (.long (0 : Int64))]) rfl).lsub (pc' := 34) d17_33 rfl
  replace R := (((((R.stk (S' := [(.long (0 : Int64)), (.long (0 : Int64))]) rfl).lcmp (pc' := 35) d17_34 rfl).stk (S' := [(.int (0 : Int32))]) rfl).ifY (pc' := 40) d17_35 (flt (by decide : ¬ ((0 : Int32) < (0 : Int32)))).2.2.2 (by decide) rfl).iload (pc' := 42) d17_40 rfl rfl).ifY (pc' := 47) d17_42 (tlt (by decide : (0 : Int32) < (1 : Int32))).2.2.1 (by decide) rfl
  replace R := (((((R.aloadN (pc' := 48) (v := (.ref a)) d17_47 rfl rfl rfl).getF (pc' := 51) (host := "") (Or.inl (w32 hw)) Via.refl e5 d17_48 rfl).astore (pc' := 53) (l' := #[.val (.ref a), .val (.int (0 : Int32)), .val (.ref b), .val (.int (0 : Int32)), .val (.int (1 : Int32)), .val (.ref t), .unset, .unset]) d17_51 rfl rfl rfl).aloadN (pc' := 54) (v := (.ref b)) d17_53 rfl rfl rfl).getF (pc' := 57) (host := "") (Or.inl (w32 hw)) Via.refl e5_b d17_54 rfl).astore (pc' := 59) (l' := #[.val (.ref a), .val (.int (0 : Int32)), .val (.ref b), .val (.int (0 : Int32)), .val (.int (1 : Int32)), .val (.ref t), .val (.ref t_b), .unset]) d17_57 rfl rfl rfl
  replace R := R.aloadN (pc' := 60) (v := (.ref a)) d17_59 rfl rfl rfl
  replace R := own_pure (R.callV (pc' := 63) (y := (⟨"java/lang/String", "coder", "()B"⟩ : MethodName)) (z := (⟨"java/lang/String", "coder", "()B"⟩ : MethodName)) (argsL := []) (rest := []) (W := 0) (w60 hw) (w61 hw) (fun s' hZ' => notFace_of_selects (args := #[]) (mvT hZ' (w63 hw))) (w63 hw) (w62 hw) (w7 hw) (w64 hw) (by decide) e1 (rm_coder C.l Z a0 hw a h n0 Ds own_cs e2) rfl (lenOf pd0 rfl) rfl rfl d17_60 (by decide) (by decide) (by decide) (by decide) rfl)
  replace R := ((R.istore (pc' := 65) (l' := #[.val (.ref a), .val (.int (0 : Int32)), .val (.ref b), .val (.int (0 : Int32)), .val (.int (1 : Int32)), .val (.ref t), .val (.ref t_b), .val (.int (0 : Int32))]) d17_63 rfl rfl).iload (pc' := 67) d17_65 rfl rfl).aloadN (pc' := 68) (v := (.ref b)) d17_67 rfl rfl rfl
  replace R := own_pure (R.callV (pc' := 71) (y := (⟨"java/lang/String", "coder", "()B"⟩ : MethodName)) (z := (⟨"java/lang/String", "coder", "()B"⟩ : MethodName)) (argsL := []) (rest := [(.int (0 : Int32))]) (W := 1) (w60 hw) (w61 hw) (fun s' hZ' => notFace_of_selects (args := #[]) (mvT hZ' (w63 hw))) (w63 hw) (w62 hw) (w7 hw) (w64 hw) (by decide) e1_b (rm_coder C.l Z a0 hw b h n0 Ds own_cs e2_b) rfl (lenOf pd0 rfl) rfl rfl d17_68 (by decide) (by decide) (by decide) (by decide) rfl)
  replace R := (((((R.icmpN (pc' := 74) d17_71 (teq (by decide : (0 : Int32) = (0 : Int32))).2 rfl).iload (pc' := 76) d17_74 rfl rfl).iconst (pc' := 77) (z := (1 : Int32)) d17_76 rfl rfl).icmpY (pc' := 94) d17_77 (feq (by decide : ¬ ((0 : Int32) = (1 : Int32)))).2 (by decide) rfl).aload (pc' := 96) (v := (.ref t)) d17_94 rfl rfl rfl).iloadN (pc' := 97) d17_96 rfl rfl
  replace R := ((R.aload (pc' := 99) (v := (.ref t_b)) d17_97 rfl rfl rfl).iloadN (pc' := 100) d17_99 rfl rfl).iload (pc' := 102) d17_100 rfl rfl
  replace R := own_pure (R.callS (pc' := 105) (argsL := [(.ref t), (.int (0 : Int32)), (.ref t_b), (.int (0 : Int32)), (.int (1 : Int32))]) (rest := []) (W := 0) (w135 hw) (w136 hw) (w137 hw) (w138 hw) (by decide) (rm_mme0_1 C.l Z a0 hw h n0 Ds hok hoy e7 e7_b) rfl (lenOf pd12 rfl) rfl rfl d17_102 (by decide) (by decide) (by decide) (by decide) rfl)
  replace R := ((R.ifN (pc' := 108) d17_105 (tlt (by decide : (-1 : Int32) < (0 : Int32))).2.1 rfl).iconst (pc' := 109) (z := (1 : Int32)) d17_108 rfl rfl).goto (pc' := 113) d17_109 (by decide) rfl
  exact R.retN (Ds' := Ds) hret (by simp) (show nar .boolean (1 : Int32) = (1 : Int32) from rfl) d17_113 (by decide) (by decide) (fun _ q => q) ⟨rfl, rfl, rfl⟩
theorem rm_mmn0_1 (l : Launch) (Z : State) (a0 : Array Value) (hw : HW a0 Z) (h : Heap) (n0 : Nat) (Ds : List Addr) {x0 x1 x2 x3 : Int32} {y0 : Int32} (hok : ∀ c ∈ ([x0, x1, x2, x3] : List Int32), ¬ c < 0 ∧ ¬ (255 : Int32) < c) (hoy : ∀ c ∈ ([y0] : List Int32), ¬ c < 0 ∧ ¬ (255 : Int32) < c) {t : Addr} {kt : ClassId} (V_t : Arv Z h t kt .byte (4 : Int32) [(.int x0.toInt8.toInt32), (.int x1.toInt8.toInt32), (.int x2.toInt8.toInt32), (.int x3.toInt8.toInt32)] (.int 0)) {u : Addr} {ku : ClassId} (V_u : Arv Z h u ku .byte (1 : Int32) [(.int y0.toInt8.toInt32)] (.int 0)) (hne : ¬ ([x0] : List Int32) = [y0]) :
    Ctr l Z (⟨"jdk/internal/util/ArraysSupport", "mismatch", "([BI[BII)I"⟩ : MethodName) jdk_48_method_14_code 8 (some .int) [] (rmo 0 0 0 0) #[.ref t, .int (0 : Int32), .ref u, .int (0 : Int32), .int (1 : Int32)] h n0 Ds (fun v h' Ds' => ∃ z : Int32, v = some (.int z) ∧ ¬ z < 0 ∧ h = h' ∧ Ds = Ds') := by
  refine ctr_of (Ls := #[.val (.ref t), .val (.int (0 : Int32)), .val (.ref u), .val (.int (0 : Int32)), .val (.int (1 : Int32)), .unset, .unset, .unset]) (plainFor_of_name pn4) (fun m => by first | (simp [entryFrame, mkF, argsToLocals, Value.category]; done) | rfl) ?_
  intro C hl hret hnm R
  subst hl
  replace R := (((((R.iconst (pc' := 1) (z := (0 : Int32)) d29_0 rfl rfl).istore (pc' := 3) (l' := #[.val (.ref t), .val (.int (0 : Int32)), .val (.ref u), .val (.int (0 : Int32)), .val (.int (1 : Int32)), .val (.int (0 : Int32)), .unset, .unset]) d29_1 rfl rfl).iload (pc' := 5) d29_3 rfl rfl).bipush (pc' := 7) (z := (7 : Int32)) d29_5 rfl rfl).icmpY (pc' := 70) d29_7 (flt (by decide : ¬ ((7 : Int32) < (1 : Int32)))).2.2.2 (by decide) rfl).iload (pc' := 72) d29_70 rfl rfl
  replace R := (((((R.iload (pc' := 74) d29_72 rfl rfl).icmpN (pc' := 77) d29_74 (tlt (by decide : (0 : Int32) < (1 : Int32))).2.1 rfl).aloadN (pc' := 78) (v := (.ref t)) d29_77 rfl rfl rfl).iloadN (pc' := 79) d29_78 rfl rfl).iload (pc' := 81) d29_79 rfl rfl).iadd (pc' := 82) d29_81 rfl
  replace R := (((((R.stk (S' := [(.int (0 : Int32)), (.ref t)]) rfl).baload (pc' := 83) (v := (.int x0.toInt8.toInt32)) V_t ⟨by decide, by decide⟩ rfl d29_82 rfl).aloadN (pc' := 84) (v := (.ref u)) d29_83 rfl rfl rfl).iloadN (pc' := 85) d29_84 rfl rfl).iload (pc' := 87) d29_85 rfl rfl).iadd (pc' := 88) d29_87 rfl
  replace R := (R.stk (S' := [(.int (0 : Int32)), (.ref u), (.int x0.toInt8.toInt32)]) rfl).baload (pc' := 89) (v := (.int y0.toInt8.toInt32)) V_u ⟨by decide, by decide⟩ rfl d29_88 rfl
  by_cases hc1 : x0.toInt8.toInt32 = y0.toInt8.toInt32
  · replace R := R.icmpY (pc' := 95) d29_89 (teq hc1).1 (by decide) rfl
    replace R := (((((R.iinc (pc' := 98) (l' := #[.val (.ref t), .val (.int (0 : Int32)), .val (.ref u), .val (.int (0 : Int32)), .val (.int (1 : Int32)), .val (.int (1 : Int32)), .unset, .unset]) d29_95 rfl rfl rfl).goto (pc' := 70) d29_98 (by decide) rfl).iload (pc' := 72) d29_70 rfl rfl).iload (pc' := 74) d29_72 rfl rfl).icmpY (pc' := 101) d29_74 (flt (by decide : ¬ ((1 : Int32) < (1 : Int32)))).2.1 (by decide) rfl).iconst (pc' := 102) (z := (-1 : Int32)) d29_101 rfl rfl
    exact absurd (show ([x0] : List Int32) = [y0] by rw [sbyte (hok x0 (List.mem_of_getElem? (i := 0) rfl)) (hoy y0 (List.mem_of_getElem? (i := 0) rfl)) hc1]) hne
  · replace R := R.icmpN (pc' := 92) d29_89 (feq hc1).1 rfl
    replace R := R.iload (pc' := 94) d29_92 rfl rfl
    exact R.retI (Ds' := Ds) hret d29_94 (by decide) (by decide) (fun _ q => q) ⟨_, rfl, by decide, rfl, rfl⟩
theorem rm_rmn0_1 (l : Launch) (Z : State) (a0 : Array Value) (hw : HW a0 Z) (a b : Addr) (h : Heap) (n0 : Nat) (Ds : List Addr) (own_cs : CompactOn Z) {x0 x1 x2 x3 : Int32} {y0 : Int32} (S_a : IsStr Z h a [x0, x1, x2, x3]) (S_b : IsStr Z h b [y0]) (hne : ¬ ([x0] : List Int32) = [y0]) :
    Ctr l Z (⟨"java/lang/String", "regionMatches", "(ILjava/lang/String;II)Z"⟩ : MethodName) jdk_42_method_73_code 8 (some .boolean) [] (rmo 2 0 0 27) #[.ref a, .int (0 : Int32), .ref b, .int (0 : Int32), .int (1 : Int32)] h n0 Ds (fun v h' Ds' => v = some (.int (0 : Int32)) ∧ h = h' ∧ Ds = Ds') := by
  refine ctr_of (Ls := #[.val (.ref a), .val (.int (0 : Int32)), .val (.ref b), .val (.int (0 : Int32)), .val (.int (1 : Int32)), .unset, .unset, .unset]) (plainFor_of_name pn0) (fun m => by first | (simp [entryFrame, mkF, argsToLocals, Value.category]; done) | rfl) ?_
  intro C hl hret hnm R
  subst hl
  have S_0 := S_a
  have S_1 := S_b
  obtain ⟨e1, e2, e3, e4, t, kt, e5, e6⟩ := S_a
  have e7 : Arv Z h t kt .byte (4 : Int32) [(.int x0.toInt8.toInt32), (.int x1.toInt8.toInt32), (.int x2.toInt8.toInt32), (.int x3.toInt8.toInt32)] (.int 0) := e6
  have hok := e3
  obtain ⟨e1_b, e2_b, e3_b, e4_b, t_b, kt_b, e5_b, e6_b⟩ := S_b
  have e7_b : Arv Z h t_b kt_b .byte (1 : Int32) [(.int y0.toInt8.toInt32)] (.int 0) := e6_b
  have hoy := e3_b
  replace R := (((((R.iloadN (pc' := 1) d17_0 rfl rfl).ifN (pc' := 4) d17_1 (flt (by decide : ¬ ((0 : Int32) < (0 : Int32)))).1 rfl).iloadN (pc' := 5) d17_4 rfl rfl).ifN (pc' := 8) d17_5 (flt (by decide : ¬ ((0 : Int32) < (0 : Int32)))).1 rfl).iloadN (pc' := 9) d17_8 rfl rfl).i2l (pc' := 10) d17_9 rfl
  replace R := (R.stk (S' := [(.long (0 : Int64))]) rfl).aloadN (pc' := 11) (v := (.ref a)) d17_10 rfl rfl rfl
  replace R := own_pure (R.callV (pc' := 14) (y := (⟨"java/lang/String", "length", "()I"⟩ : MethodName)) (z := (⟨"java/lang/String", "length", "()I"⟩ : MethodName)) (argsL := []) (rest := [(.long (0 : Int64))]) (W := 2) (w55 hw) (w56 hw) (fun s' hZ' => notFace_of_selects (args := #[]) (mvT hZ' (w58 hw))) (w58 hw) (w57 hw) (w7 hw) (w59 hw) (by decide) e1 (rm_length C.l Z a0 hw a h n0 Ds own_cs S_0) rfl (lenOf pd6 rfl) rfl rfl d17_11 (by decide) (by decide) (by decide) (by decide) rfl)
  replace R := (((((R.i2l (pc' := 15) d17_14 rfl).stk (S' := [(.long (4 : Int64)), (.long (0 : Int64))]) rfl).iload (pc' := 17) d17_15 rfl rfl).i2l (pc' := 18) d17_17 rfl).stk (S' := [(.long (1 : Int64)), (.long (4 : Int64)), (.long (0 : Int64))]) rfl).lsub (pc' := 19) d17_18 rfl
  replace R := (((((R.stk (S' := [(.long (3 : Int64)), (.long (0 : Int64))]) rfl).lcmp (pc' := 20) d17_19 rfl).stk (S' := [(.int (-1 : Int32))]) rfl).ifN (pc' := 23) d17_20 (flt (by decide : ¬ ((0 : Int32) < (-1 : Int32)))).2.2.1 rfl).iloadN (pc' := 24) d17_23 rfl rfl).i2l (pc' := 25) d17_24 rfl
  replace R := (R.stk (S' := [(.long (0 : Int64))]) rfl).aloadN (pc' := 26) (v := (.ref b)) d17_25 rfl rfl rfl
  replace R := own_pure (R.callV (pc' := 29) (y := (⟨"java/lang/String", "length", "()I"⟩ : MethodName)) (z := (⟨"java/lang/String", "length", "()I"⟩ : MethodName)) (argsL := []) (rest := [(.long (0 : Int64))]) (W := 2) (w55 hw) (w56 hw) (fun s' hZ' => notFace_of_selects (args := #[]) (mvT hZ' (w58 hw))) (w58 hw) (w57 hw) (w7 hw) (w59 hw) (by decide) e1_b (rm_length C.l Z a0 hw b h n0 Ds own_cs S_1) rfl (lenOf pd6 rfl) rfl rfl d17_26 (by decide) (by decide) (by decide) (by decide) rfl)
  replace R := (((((R.i2l (pc' := 30) d17_29 rfl).stk (S' := [(.long (1 : Int64)), (.long (0 : Int64))]) rfl).iload (pc' := 32) d17_30 rfl rfl).i2l (pc' := 33) d17_32 rfl).stk (S' := [(.long (1 : Int64)), (.long (1 : Int64)), (.long (0 : Int64))]) rfl).lsub (pc' := 34) d17_33 rfl
  replace R := (((((R.stk (S' := [(.long (0 : Int64)), (.long (0 : Int64))]) rfl).lcmp (pc' := 35) d17_34 rfl).stk (S' := [(.int (0 : Int32))]) rfl).ifY (pc' := 40) d17_35 (flt (by decide : ¬ ((0 : Int32) < (0 : Int32)))).2.2.2 (by decide) rfl).iload (pc' := 42) d17_40 rfl rfl).ifY (pc' := 47) d17_42 (tlt (by decide : (0 : Int32) < (1 : Int32))).2.2.1 (by decide) rfl
  replace R := (((((R.aloadN (pc' := 48) (v := (.ref a)) d17_47 rfl rfl rfl).getF (pc' := 51) (host := "") (Or.inl (w32 hw)) Via.refl e5 d17_48 rfl).astore (pc' := 53) (l' := #[.val (.ref a), .val (.int (0 : Int32)), .val (.ref b), .val (.int (0 : Int32)), .val (.int (1 : Int32)), .val (.ref t), .unset, .unset]) d17_51 rfl rfl rfl).aloadN (pc' := 54) (v := (.ref b)) d17_53 rfl rfl rfl).getF (pc' := 57) (host := "") (Or.inl (w32 hw)) Via.refl e5_b d17_54 rfl).astore (pc' := 59) (l' := #[.val (.ref a), .val (.int (0 : Int32)), .val (.ref b), .val (.int (0 : Int32)), .val (.int (1 : Int32)), .val (.ref t), .val (.ref t_b), .unset]) d17_57 rfl rfl rfl
  replace R := R.aloadN (pc' := 60) (v := (.ref a)) d17_59 rfl rfl rfl
  replace R := own_pure (R.callV (pc' := 63) (y := (⟨"java/lang/String", "coder", "()B"⟩ : MethodName)) (z := (⟨"java/lang/String", "coder", "()B"⟩ : MethodName)) (argsL := []) (rest := []) (W := 0) (w60 hw) (w61 hw) (fun s' hZ' => notFace_of_selects (args := #[]) (mvT hZ' (w63 hw))) (w63 hw) (w62 hw) (w7 hw) (w64 hw) (by decide) e1 (rm_coder C.l Z a0 hw a h n0 Ds own_cs e2) rfl (lenOf pd0 rfl) rfl rfl d17_60 (by decide) (by decide) (by decide) (by decide) rfl)
  replace R := ((R.istore (pc' := 65) (l' := #[.val (.ref a), .val (.int (0 : Int32)), .val (.ref b), .val (.int (0 : Int32)), .val (.int (1 : Int32)), .val (.ref t), .val (.ref t_b), .val (.int (0 : Int32))]) d17_63 rfl rfl).iload (pc' := 67) d17_65 rfl rfl).aloadN (pc' := 68) (v := (.ref b)) d17_67 rfl rfl rfl
  replace R := own_pure (R.callV (pc' := 71) (y := (⟨"java/lang/String", "coder", "()B"⟩ : MethodName)) (z := (⟨"java/lang/String", "coder", "()B"⟩ : MethodName)) (argsL := []) (rest := [(.int (0 : Int32))]) (W := 1) (w60 hw) (w61 hw) (fun s' hZ' => notFace_of_selects (args := #[]) (mvT hZ' (w63 hw))) (w63 hw) (w62 hw) (w7 hw) (w64 hw) (by decide) e1_b (rm_coder C.l Z a0 hw b h n0 Ds own_cs e2_b) rfl (lenOf pd0 rfl) rfl rfl d17_68 (by decide) (by decide) (by decide) (by decide) rfl)
  replace R := (((((R.icmpN (pc' := 74) d17_71 (teq (by decide : (0 : Int32) = (0 : Int32))).2 rfl).iload (pc' := 76) d17_74 rfl rfl).iconst (pc' := 77) (z := (1 : Int32)) d17_76 rfl rfl).icmpY (pc' := 94) d17_77 (feq (by decide : ¬ ((0 : Int32) = (1 : Int32)))).2 (by decide) rfl).aload (pc' := 96) (v := (.ref t)) d17_94 rfl rfl rfl).iloadN (pc' := 97) d17_96 rfl rfl
  replace R := ((R.aload (pc' := 99) (v := (.ref t_b)) d17_97 rfl rfl rfl).iloadN (pc' := 100) d17_99 rfl rfl).iload (pc' := 102) d17_100 rfl rfl
  obtain ⟨_, _, _, ⟨zz, rfl, hzz, rfl, rfl⟩, R⟩ := R.callS (pc' := 105) (argsL := [(.ref t), (.int (0 : Int32)), (.ref t_b), (.int (0 : Int32)), (.int (1 : Int32))]) (rest := []) (W := 0) (w135 hw) (w136 hw) (w137 hw) (w138 hw) (by decide) (rm_mmn0_1 C.l Z a0 hw h n0 Ds hok hoy e7 e7_b hne) rfl (lenOf pd12 rfl) rfl rfl d17_102 (by decide) (by decide) (by decide) (by decide) rfl
  replace R := (((R.mono (ce' := 0) (sl' := 0) (by decide) (by decide)).stk (S' := [(.int zz)]) rfl).ifY (pc' := 112) d17_105 (flt hzz).2.1 (by decide) rfl).iconst (pc' := 113) (z := (0 : Int32)) d17_112 rfl rfl
  exact R.retN (Ds' := Ds) hret (by simp) (show nar .boolean (0 : Int32) = (0 : Int32) from rfl) d17_113 (by decide) (by decide) (fun _ q => q) ⟨rfl, rfl, rfl⟩
theorem rm_mme0_2 (l : Launch) (Z : State) (a0 : Array Value) (hw : HW a0 Z) (h : Heap) (n0 : Nat) (Ds : List Addr) {x0 x1 x2 x3 : Int32} (hok : ∀ c ∈ ([x0, x1, x2, x3] : List Int32), ¬ c < 0 ∧ ¬ (255 : Int32) < c) (hoy : ∀ c ∈ ([x0, x1] : List Int32), ¬ c < 0 ∧ ¬ (255 : Int32) < c) {t : Addr} {kt : ClassId} (V_t : Arv Z h t kt .byte (4 : Int32) [(.int x0.toInt8.toInt32), (.int x1.toInt8.toInt32), (.int x2.toInt8.toInt32), (.int x3.toInt8.toInt32)] (.int 0)) {u : Addr} {ku : ClassId} (V_u : Arv Z h u ku .byte (2 : Int32) [(.int x0.toInt8.toInt32), (.int x1.toInt8.toInt32)] (.int 0)) :
    Ctr l Z (⟨"jdk/internal/util/ArraysSupport", "mismatch", "([BI[BII)I"⟩ : MethodName) jdk_48_method_14_code 8 (some .int) [] (rmo 0 0 0 0) #[.ref t, .int (0 : Int32), .ref u, .int (0 : Int32), .int (2 : Int32)] h n0 Ds (fun v h' Ds' => v = some (.int (-1 : Int32)) ∧ h = h' ∧ Ds = Ds') := by
  refine ctr_of (Ls := #[.val (.ref t), .val (.int (0 : Int32)), .val (.ref u), .val (.int (0 : Int32)), .val (.int (2 : Int32)), .unset, .unset, .unset]) (plainFor_of_name pn4) (fun m => by first | (simp [entryFrame, mkF, argsToLocals, Value.category]; done) | rfl) ?_
  intro C hl hret hnm R
  subst hl
  replace R := (((((R.iconst (pc' := 1) (z := (0 : Int32)) d29_0 rfl rfl).istore (pc' := 3) (l' := #[.val (.ref t), .val (.int (0 : Int32)), .val (.ref u), .val (.int (0 : Int32)), .val (.int (2 : Int32)), .val (.int (0 : Int32)), .unset, .unset]) d29_1 rfl rfl).iload (pc' := 5) d29_3 rfl rfl).bipush (pc' := 7) (z := (7 : Int32)) d29_5 rfl rfl).icmpY (pc' := 70) d29_7 (flt (by decide : ¬ ((7 : Int32) < (2 : Int32)))).2.2.2 (by decide) rfl).iload (pc' := 72) d29_70 rfl rfl
  replace R := (((((R.iload (pc' := 74) d29_72 rfl rfl).icmpN (pc' := 77) d29_74 (tlt (by decide : (0 : Int32) < (2 : Int32))).2.1 rfl).aloadN (pc' := 78) (v := (.ref t)) d29_77 rfl rfl rfl).iloadN (pc' := 79) d29_78 rfl rfl).iload (pc' := 81) d29_79 rfl rfl).iadd (pc' := 82) d29_81 rfl
  replace R := (((((R.stk (S' := [(.int (0 : Int32)), (.ref t)]) rfl).baload (pc' := 83) (v := (.int x0.toInt8.toInt32)) V_t ⟨by decide, by decide⟩ rfl d29_82 rfl).aloadN (pc' := 84) (v := (.ref u)) d29_83 rfl rfl rfl).iloadN (pc' := 85) d29_84 rfl rfl).iload (pc' := 87) d29_85 rfl rfl).iadd (pc' := 88) d29_87 rfl
  replace R := (((((R.stk (S' := [(.int (0 : Int32)), (.ref u), (.int x0.toInt8.toInt32)]) rfl).baload (pc' := 89) (v := (.int x0.toInt8.toInt32)) V_u ⟨by decide, by decide⟩ rfl d29_88 rfl).icmpY (pc' := 95) d29_89 (teq (rfl : x0.toInt8.toInt32 = x0.toInt8.toInt32)).1 (by decide) rfl).iinc (pc' := 98) (l' := #[.val (.ref t), .val (.int (0 : Int32)), .val (.ref u), .val (.int (0 : Int32)), .val (.int (2 : Int32)), .val (.int (1 : Int32)), .unset, .unset]) d29_95 rfl rfl rfl).goto (pc' := 70) d29_98 (by decide) rfl).iload (pc' := 72) d29_70 rfl rfl
  replace R := (((((R.iload (pc' := 74) d29_72 rfl rfl).icmpN (pc' := 77) d29_74 (tlt (by decide : (1 : Int32) < (2 : Int32))).2.1 rfl).aloadN (pc' := 78) (v := (.ref t)) d29_77 rfl rfl rfl).iloadN (pc' := 79) d29_78 rfl rfl).iload (pc' := 81) d29_79 rfl rfl).iadd (pc' := 82) d29_81 rfl
  replace R := (((((R.stk (S' := [(.int (1 : Int32)), (.ref t)]) rfl).baload (pc' := 83) (v := (.int x1.toInt8.toInt32)) V_t ⟨by decide, by decide⟩ rfl d29_82 rfl).aloadN (pc' := 84) (v := (.ref u)) d29_83 rfl rfl rfl).iloadN (pc' := 85) d29_84 rfl rfl).iload (pc' := 87) d29_85 rfl rfl).iadd (pc' := 88) d29_87 rfl
  replace R := (((((R.stk (S' := [(.int (1 : Int32)), (.ref u), (.int x1.toInt8.toInt32)]) rfl).baload (pc' := 89) (v := (.int x1.toInt8.toInt32)) V_u ⟨by decide, by decide⟩ rfl d29_88 rfl).icmpY (pc' := 95) d29_89 (teq (rfl : x1.toInt8.toInt32 = x1.toInt8.toInt32)).1 (by decide) rfl).iinc (pc' := 98) (l' := #[.val (.ref t), .val (.int (0 : Int32)), .val (.ref u), .val (.int (0 : Int32)), .val (.int (2 : Int32)), .val (.int (2 : Int32)), .unset, .unset]) d29_95 rfl rfl rfl).goto (pc' := 70) d29_98 (by decide) rfl).iload (pc' := 72) d29_70 rfl rfl
  replace R := ((R.iload (pc' := 74) d29_72 rfl rfl).icmpY (pc' := 101) d29_74 (flt (by decide : ¬ ((2 : Int32) < (2 : Int32)))).2.1 (by decide) rfl).iconst (pc' := 102) (z := (-1 : Int32)) d29_101 rfl rfl
  exact R.retI (Ds' := Ds) hret d29_102 (by decide) (by decide) (fun _ q => q) ⟨rfl, rfl, rfl⟩
theorem rm_rme0_2 (l : Launch) (Z : State) (a0 : Array Value) (hw : HW a0 Z) (a b : Addr) (h : Heap) (n0 : Nat) (Ds : List Addr) (own_cs : CompactOn Z) {x0 x1 x2 x3 : Int32} (S_a : IsStr Z h a [x0, x1, x2, x3]) (S_b : IsStr Z h b [x0, x1]) :
    Ctr l Z (⟨"java/lang/String", "regionMatches", "(ILjava/lang/String;II)Z"⟩ : MethodName) jdk_42_method_73_code 8 (some .boolean) [] (rmo 2 0 0 27) #[.ref a, .int (0 : Int32), .ref b, .int (0 : Int32), .int (2 : Int32)] h n0 Ds (fun v h' Ds' => v = some (.int (1 : Int32)) ∧ h = h' ∧ Ds = Ds') := by
  refine ctr_of (Ls := #[.val (.ref a), .val (.int (0 : Int32)), .val (.ref b), .val (.int (0 : Int32)), .val (.int (2 : Int32)), .unset, .unset, .unset]) (plainFor_of_name pn0) (fun m => by first | (simp [entryFrame, mkF, argsToLocals, Value.category]; done) | rfl) ?_
  intro C hl hret hnm R
  subst hl
  have S_0 := S_a
  have S_1 := S_b
  obtain ⟨e1, e2, e3, e4, t, kt, e5, e6⟩ := S_a
  have e7 : Arv Z h t kt .byte (4 : Int32) [(.int x0.toInt8.toInt32), (.int x1.toInt8.toInt32), (.int x2.toInt8.toInt32), (.int x3.toInt8.toInt32)] (.int 0) := e6
  have hok := e3
  obtain ⟨e1_b, e2_b, e3_b, e4_b, t_b, kt_b, e5_b, e6_b⟩ := S_b
  have e7_b : Arv Z h t_b kt_b .byte (2 : Int32) [(.int x0.toInt8.toInt32), (.int x1.toInt8.toInt32)] (.int 0) := e6_b
  have hoy := e3_b
  replace R := (((((R.iloadN (pc' := 1) d17_0 rfl rfl).ifN (pc' := 4) d17_1 (flt (by decide : ¬ ((0 : Int32) < (0 : Int32)))).1 rfl).iloadN (pc' := 5) d17_4 rfl rfl).ifN (pc' := 8) d17_5 (flt (by decide : ¬ ((0 : Int32) < (0 : Int32)))).1 rfl).iloadN (pc' := 9) d17_8 rfl rfl).i2l (pc' := 10) d17_9 rfl
  replace R := (R.stk (S' := [(.long (0 : Int64))]) rfl).aloadN (pc' := 11) (v := (.ref a)) d17_10 rfl rfl rfl
  replace R := own_pure (R.callV (pc' := 14) (y := (⟨"java/lang/String", "length", "()I"⟩ : MethodName)) (z := (⟨"java/lang/String", "length", "()I"⟩ : MethodName)) (argsL := []) (rest := [(.long (0 : Int64))]) (W := 2) (w55 hw) (w56 hw) (fun s' hZ' => notFace_of_selects (args := #[]) (mvT hZ' (w58 hw))) (w58 hw) (w57 hw) (w7 hw) (w59 hw) (by decide) e1 (rm_length C.l Z a0 hw a h n0 Ds own_cs S_0) rfl (lenOf pd6 rfl) rfl rfl d17_11 (by decide) (by decide) (by decide) (by decide) rfl)
  replace R := (((((R.i2l (pc' := 15) d17_14 rfl).stk (S' := [(.long (4 : Int64)), (.long (0 : Int64))]) rfl).iload (pc' := 17) d17_15 rfl rfl).i2l (pc' := 18) d17_17 rfl).stk (S' := [(.long (2 : Int64)), (.long (4 : Int64)), (.long (0 : Int64))]) rfl).lsub (pc' := 19) d17_18 rfl
  replace R := (((((R.stk (S' := [(.long (2 : Int64)), (.long (0 : Int64))]) rfl).lcmp (pc' := 20) d17_19 rfl).stk (S' := [(.int (-1 : Int32))]) rfl).ifN (pc' := 23) d17_20 (flt (by decide : ¬ ((0 : Int32) < (-1 : Int32)))).2.2.1 rfl).iloadN (pc' := 24) d17_23 rfl rfl).i2l (pc' := 25) d17_24 rfl
  replace R := (R.stk (S' := [(.long (0 : Int64))]) rfl).aloadN (pc' := 26) (v := (.ref b)) d17_25 rfl rfl rfl
  replace R := own_pure (R.callV (pc' := 29) (y := (⟨"java/lang/String", "length", "()I"⟩ : MethodName)) (z := (⟨"java/lang/String", "length", "()I"⟩ : MethodName)) (argsL := []) (rest := [(.long (0 : Int64))]) (W := 2) (w55 hw) (w56 hw) (fun s' hZ' => notFace_of_selects (args := #[]) (mvT hZ' (w58 hw))) (w58 hw) (w57 hw) (w7 hw) (w59 hw) (by decide) e1_b (rm_length C.l Z a0 hw b h n0 Ds own_cs S_1) rfl (lenOf pd6 rfl) rfl rfl d17_26 (by decide) (by decide) (by decide) (by decide) rfl)
  replace R := (((((R.i2l (pc' := 30) d17_29 rfl).stk (S' := [(.long (2 : Int64)), (.long (0 : Int64))]) rfl).iload (pc' := 32) d17_30 rfl rfl).i2l (pc' := 33) d17_32 rfl).stk (S' := [(.long (2 : Int64)), (.long (2 : Int64)), (.long (0 : Int64))]) rfl).lsub (pc' := 34) d17_33 rfl
  replace R := (((((R.stk (S' := [(.long (0 : Int64)), (.long (0 : Int64))]) rfl).lcmp (pc' := 35) d17_34 rfl).stk (S' := [(.int (0 : Int32))]) rfl).ifY (pc' := 40) d17_35 (flt (by decide : ¬ ((0 : Int32) < (0 : Int32)))).2.2.2 (by decide) rfl).iload (pc' := 42) d17_40 rfl rfl).ifY (pc' := 47) d17_42 (tlt (by decide : (0 : Int32) < (2 : Int32))).2.2.1 (by decide) rfl
  replace R := (((((R.aloadN (pc' := 48) (v := (.ref a)) d17_47 rfl rfl rfl).getF (pc' := 51) (host := "") (Or.inl (w32 hw)) Via.refl e5 d17_48 rfl).astore (pc' := 53) (l' := #[.val (.ref a), .val (.int (0 : Int32)), .val (.ref b), .val (.int (0 : Int32)), .val (.int (2 : Int32)), .val (.ref t), .unset, .unset]) d17_51 rfl rfl rfl).aloadN (pc' := 54) (v := (.ref b)) d17_53 rfl rfl rfl).getF (pc' := 57) (host := "") (Or.inl (w32 hw)) Via.refl e5_b d17_54 rfl).astore (pc' := 59) (l' := #[.val (.ref a), .val (.int (0 : Int32)), .val (.ref b), .val (.int (0 : Int32)), .val (.int (2 : Int32)), .val (.ref t), .val (.ref t_b), .unset]) d17_57 rfl rfl rfl
  replace R := R.aloadN (pc' := 60) (v := (.ref a)) d17_59 rfl rfl rfl
  replace R := own_pure (R.callV (pc' := 63) (y := (⟨"java/lang/String", "coder", "()B"⟩ : MethodName)) (z := (⟨"java/lang/String", "coder", "()B"⟩ : MethodName)) (argsL := []) (rest := []) (W := 0) (w60 hw) (w61 hw) (fun s' hZ' => notFace_of_selects (args := #[]) (mvT hZ' (w63 hw))) (w63 hw) (w62 hw) (w7 hw) (w64 hw) (by decide) e1 (rm_coder C.l Z a0 hw a h n0 Ds own_cs e2) rfl (lenOf pd0 rfl) rfl rfl d17_60 (by decide) (by decide) (by decide) (by decide) rfl)
  replace R := ((R.istore (pc' := 65) (l' := #[.val (.ref a), .val (.int (0 : Int32)), .val (.ref b), .val (.int (0 : Int32)), .val (.int (2 : Int32)), .val (.ref t), .val (.ref t_b), .val (.int (0 : Int32))]) d17_63 rfl rfl).iload (pc' := 67) d17_65 rfl rfl).aloadN (pc' := 68) (v := (.ref b)) d17_67 rfl rfl rfl
  replace R := own_pure (R.callV (pc' := 71) (y := (⟨"java/lang/String", "coder", "()B"⟩ : MethodName)) (z := (⟨"java/lang/String", "coder", "()B"⟩ : MethodName)) (argsL := []) (rest := [(.int (0 : Int32))]) (W := 1) (w60 hw) (w61 hw) (fun s' hZ' => notFace_of_selects (args := #[]) (mvT hZ' (w63 hw))) (w63 hw) (w62 hw) (w7 hw) (w64 hw) (by decide) e1_b (rm_coder C.l Z a0 hw b h n0 Ds own_cs e2_b) rfl (lenOf pd0 rfl) rfl rfl d17_68 (by decide) (by decide) (by decide) (by decide) rfl)
  replace R := (((((R.icmpN (pc' := 74) d17_71 (teq (by decide : (0 : Int32) = (0 : Int32))).2 rfl).iload (pc' := 76) d17_74 rfl rfl).iconst (pc' := 77) (z := (1 : Int32)) d17_76 rfl rfl).icmpY (pc' := 94) d17_77 (feq (by decide : ¬ ((0 : Int32) = (1 : Int32)))).2 (by decide) rfl).aload (pc' := 96) (v := (.ref t)) d17_94 rfl rfl rfl).iloadN (pc' := 97) d17_96 rfl rfl
  replace R := ((R.aload (pc' := 99) (v := (.ref t_b)) d17_97 rfl rfl rfl).iloadN (pc' := 100) d17_99 rfl rfl).iload (pc' := 102) d17_100 rfl rfl
  replace R := own_pure (R.callS (pc' := 105) (argsL := [(.ref t), (.int (0 : Int32)), (.ref t_b), (.int (0 : Int32)), (.int (2 : Int32))]) (rest := []) (W := 0) (w135 hw) (w136 hw) (w137 hw) (w138 hw) (by decide) (rm_mme0_2 C.l Z a0 hw h n0 Ds hok hoy e7 e7_b) rfl (lenOf pd12 rfl) rfl rfl d17_102 (by decide) (by decide) (by decide) (by decide) rfl)
  replace R := ((R.ifN (pc' := 108) d17_105 (tlt (by decide : (-1 : Int32) < (0 : Int32))).2.1 rfl).iconst (pc' := 109) (z := (1 : Int32)) d17_108 rfl rfl).goto (pc' := 113) d17_109 (by decide) rfl
  exact R.retN (Ds' := Ds) hret (by simp) (show nar .boolean (1 : Int32) = (1 : Int32) from rfl) d17_113 (by decide) (by decide) (fun _ q => q) ⟨rfl, rfl, rfl⟩
theorem rm_mmn0_2 (l : Launch) (Z : State) (a0 : Array Value) (hw : HW a0 Z) (h : Heap) (n0 : Nat) (Ds : List Addr) {x0 x1 x2 x3 : Int32} {y0 y1 : Int32} (hok : ∀ c ∈ ([x0, x1, x2, x3] : List Int32), ¬ c < 0 ∧ ¬ (255 : Int32) < c) (hoy : ∀ c ∈ ([y0, y1] : List Int32), ¬ c < 0 ∧ ¬ (255 : Int32) < c) {t : Addr} {kt : ClassId} (V_t : Arv Z h t kt .byte (4 : Int32) [(.int x0.toInt8.toInt32), (.int x1.toInt8.toInt32), (.int x2.toInt8.toInt32), (.int x3.toInt8.toInt32)] (.int 0)) {u : Addr} {ku : ClassId} (V_u : Arv Z h u ku .byte (2 : Int32) [(.int y0.toInt8.toInt32), (.int y1.toInt8.toInt32)] (.int 0)) (hne : ¬ ([x0, x1] : List Int32) = [y0, y1]) :
    Ctr l Z (⟨"jdk/internal/util/ArraysSupport", "mismatch", "([BI[BII)I"⟩ : MethodName) jdk_48_method_14_code 8 (some .int) [] (rmo 0 0 0 0) #[.ref t, .int (0 : Int32), .ref u, .int (0 : Int32), .int (2 : Int32)] h n0 Ds (fun v h' Ds' => ∃ z : Int32, v = some (.int z) ∧ ¬ z < 0 ∧ h = h' ∧ Ds = Ds') := by
  refine ctr_of (Ls := #[.val (.ref t), .val (.int (0 : Int32)), .val (.ref u), .val (.int (0 : Int32)), .val (.int (2 : Int32)), .unset, .unset, .unset]) (plainFor_of_name pn4) (fun m => by first | (simp [entryFrame, mkF, argsToLocals, Value.category]; done) | rfl) ?_
  intro C hl hret hnm R
  subst hl
  replace R := (((((R.iconst (pc' := 1) (z := (0 : Int32)) d29_0 rfl rfl).istore (pc' := 3) (l' := #[.val (.ref t), .val (.int (0 : Int32)), .val (.ref u), .val (.int (0 : Int32)), .val (.int (2 : Int32)), .val (.int (0 : Int32)), .unset, .unset]) d29_1 rfl rfl).iload (pc' := 5) d29_3 rfl rfl).bipush (pc' := 7) (z := (7 : Int32)) d29_5 rfl rfl).icmpY (pc' := 70) d29_7 (flt (by decide : ¬ ((7 : Int32) < (2 : Int32)))).2.2.2 (by decide) rfl).iload (pc' := 72) d29_70 rfl rfl
  replace R := (((((R.iload (pc' := 74) d29_72 rfl rfl).icmpN (pc' := 77) d29_74 (tlt (by decide : (0 : Int32) < (2 : Int32))).2.1 rfl).aloadN (pc' := 78) (v := (.ref t)) d29_77 rfl rfl rfl).iloadN (pc' := 79) d29_78 rfl rfl).iload (pc' := 81) d29_79 rfl rfl).iadd (pc' := 82) d29_81 rfl
  replace R := (((((R.stk (S' := [(.int (0 : Int32)), (.ref t)]) rfl).baload (pc' := 83) (v := (.int x0.toInt8.toInt32)) V_t ⟨by decide, by decide⟩ rfl d29_82 rfl).aloadN (pc' := 84) (v := (.ref u)) d29_83 rfl rfl rfl).iloadN (pc' := 85) d29_84 rfl rfl).iload (pc' := 87) d29_85 rfl rfl).iadd (pc' := 88) d29_87 rfl
  replace R := (R.stk (S' := [(.int (0 : Int32)), (.ref u), (.int x0.toInt8.toInt32)]) rfl).baload (pc' := 89) (v := (.int y0.toInt8.toInt32)) V_u ⟨by decide, by decide⟩ rfl d29_88 rfl
  by_cases hc1 : x0.toInt8.toInt32 = y0.toInt8.toInt32
  · replace R := R.icmpY (pc' := 95) d29_89 (teq hc1).1 (by decide) rfl
    replace R := (((((R.iinc (pc' := 98) (l' := #[.val (.ref t), .val (.int (0 : Int32)), .val (.ref u), .val (.int (0 : Int32)), .val (.int (2 : Int32)), .val (.int (1 : Int32)), .unset, .unset]) d29_95 rfl rfl rfl).goto (pc' := 70) d29_98 (by decide) rfl).iload (pc' := 72) d29_70 rfl rfl).iload (pc' := 74) d29_72 rfl rfl).icmpN (pc' := 77) d29_74 (tlt (by decide : (1 : Int32) < (2 : Int32))).2.1 rfl).aloadN (pc' := 78) (v := (.ref t)) d29_77 rfl rfl rfl
    replace R := (((((R.iloadN (pc' := 79) d29_78 rfl rfl).iload (pc' := 81) d29_79 rfl rfl).iadd (pc' := 82) d29_81 rfl).stk (S' := [(.int (1 : Int32)), (.ref t)]) rfl).baload (pc' := 83) (v := (.int x1.toInt8.toInt32)) V_t ⟨by decide, by decide⟩ rfl d29_82 rfl).aloadN (pc' := 84) (v := (.ref u)) d29_83 rfl rfl rfl
    replace R := ((((R.iloadN (pc' := 85) d29_84 rfl rfl).iload (pc' := 87) d29_85 rfl rfl).iadd (pc' := 88) d29_87 rfl).stk (S' := [(.int (1 : Int32)), (.ref u), (.int x1.toInt8.toInt32)]) rfl).baload (pc' := 89) (v := (.int y1.toInt8.toInt32)) V_u ⟨by decide, by decide⟩ rfl d29_88 rfl
    by_cases hc2 : x1.toInt8.toInt32 = y1.toInt8.toInt32
    · replace R := R.icmpY (pc' := 95) d29_89 (teq hc2).1 (by decide) rfl
      replace R := (((((R.iinc (pc' := 98) (l' := #[.val (.ref t), .val (.int (0 : Int32)), .val (.ref u), .val (.int (0 : Int32)), .val (.int (2 : Int32)), .val (.int (2 : Int32)), .unset, .unset]) d29_95 rfl rfl rfl).goto (pc' := 70) d29_98 (by decide) rfl).iload (pc' := 72) d29_70 rfl rfl).iload (pc' := 74) d29_72 rfl rfl).icmpY (pc' := 101) d29_74 (flt (by decide : ¬ ((2 : Int32) < (2 : Int32)))).2.1 (by decide) rfl).iconst (pc' := 102) (z := (-1 : Int32)) d29_101 rfl rfl
      exact absurd (show ([x0, x1] : List Int32) = [y0, y1] by rw [sbyte (hok x0 (List.mem_of_getElem? (i := 0) rfl)) (hoy y0 (List.mem_of_getElem? (i := 0) rfl)) hc1, sbyte (hok x1 (List.mem_of_getElem? (i := 1) rfl)) (hoy y1 (List.mem_of_getElem? (i := 1) rfl)) hc2]) hne
    · replace R := R.icmpN (pc' := 92) d29_89 (feq hc2).1 rfl
      replace R := R.iload (pc' := 94) d29_92 rfl rfl
      exact R.retI (Ds' := Ds) hret d29_94 (by decide) (by decide) (fun _ q => q) ⟨_, rfl, by decide, rfl, rfl⟩
  · replace R := R.icmpN (pc' := 92) d29_89 (feq hc1).1 rfl
    replace R := R.iload (pc' := 94) d29_92 rfl rfl
    exact R.retI (Ds' := Ds) hret d29_94 (by decide) (by decide) (fun _ q => q) ⟨_, rfl, by decide, rfl, rfl⟩
theorem rm_rmn0_2 (l : Launch) (Z : State) (a0 : Array Value) (hw : HW a0 Z) (a b : Addr) (h : Heap) (n0 : Nat) (Ds : List Addr) (own_cs : CompactOn Z) {x0 x1 x2 x3 : Int32} {y0 y1 : Int32} (S_a : IsStr Z h a [x0, x1, x2, x3]) (S_b : IsStr Z h b [y0, y1]) (hne : ¬ ([x0, x1] : List Int32) = [y0, y1]) :
    Ctr l Z (⟨"java/lang/String", "regionMatches", "(ILjava/lang/String;II)Z"⟩ : MethodName) jdk_42_method_73_code 8 (some .boolean) [] (rmo 2 0 0 27) #[.ref a, .int (0 : Int32), .ref b, .int (0 : Int32), .int (2 : Int32)] h n0 Ds (fun v h' Ds' => v = some (.int (0 : Int32)) ∧ h = h' ∧ Ds = Ds') := by
  refine ctr_of (Ls := #[.val (.ref a), .val (.int (0 : Int32)), .val (.ref b), .val (.int (0 : Int32)), .val (.int (2 : Int32)), .unset, .unset, .unset]) (plainFor_of_name pn0) (fun m => by first | (simp [entryFrame, mkF, argsToLocals, Value.category]; done) | rfl) ?_
  intro C hl hret hnm R
  subst hl
  have S_0 := S_a
  have S_1 := S_b
  obtain ⟨e1, e2, e3, e4, t, kt, e5, e6⟩ := S_a
  have e7 : Arv Z h t kt .byte (4 : Int32) [(.int x0.toInt8.toInt32), (.int x1.toInt8.toInt32), (.int x2.toInt8.toInt32), (.int x3.toInt8.toInt32)] (.int 0) := e6
  have hok := e3
  obtain ⟨e1_b, e2_b, e3_b, e4_b, t_b, kt_b, e5_b, e6_b⟩ := S_b
  have e7_b : Arv Z h t_b kt_b .byte (2 : Int32) [(.int y0.toInt8.toInt32), (.int y1.toInt8.toInt32)] (.int 0) := e6_b
  have hoy := e3_b
  replace R := (((((R.iloadN (pc' := 1) d17_0 rfl rfl).ifN (pc' := 4) d17_1 (flt (by decide : ¬ ((0 : Int32) < (0 : Int32)))).1 rfl).iloadN (pc' := 5) d17_4 rfl rfl).ifN (pc' := 8) d17_5 (flt (by decide : ¬ ((0 : Int32) < (0 : Int32)))).1 rfl).iloadN (pc' := 9) d17_8 rfl rfl).i2l (pc' := 10) d17_9 rfl
  replace R := (R.stk (S' := [(.long (0 : Int64))]) rfl).aloadN (pc' := 11) (v := (.ref a)) d17_10 rfl rfl rfl
  replace R := own_pure (R.callV (pc' := 14) (y := (⟨"java/lang/String", "length", "()I"⟩ : MethodName)) (z := (⟨"java/lang/String", "length", "()I"⟩ : MethodName)) (argsL := []) (rest := [(.long (0 : Int64))]) (W := 2) (w55 hw) (w56 hw) (fun s' hZ' => notFace_of_selects (args := #[]) (mvT hZ' (w58 hw))) (w58 hw) (w57 hw) (w7 hw) (w59 hw) (by decide) e1 (rm_length C.l Z a0 hw a h n0 Ds own_cs S_0) rfl (lenOf pd6 rfl) rfl rfl d17_11 (by decide) (by decide) (by decide) (by decide) rfl)
  replace R := (((((R.i2l (pc' := 15) d17_14 rfl).stk (S' := [(.long (4 : Int64)), (.long (0 : Int64))]) rfl).iload (pc' := 17) d17_15 rfl rfl).i2l (pc' := 18) d17_17 rfl).stk (S' := [(.long (2 : Int64)), (.long (4 : Int64)), (.long (0 : Int64))]) rfl).lsub (pc' := 19) d17_18 rfl
  replace R := (((((R.stk (S' := [(.long (2 : Int64)), (.long (0 : Int64))]) rfl).lcmp (pc' := 20) d17_19 rfl).stk (S' := [(.int (-1 : Int32))]) rfl).ifN (pc' := 23) d17_20 (flt (by decide : ¬ ((0 : Int32) < (-1 : Int32)))).2.2.1 rfl).iloadN (pc' := 24) d17_23 rfl rfl).i2l (pc' := 25) d17_24 rfl
  replace R := (R.stk (S' := [(.long (0 : Int64))]) rfl).aloadN (pc' := 26) (v := (.ref b)) d17_25 rfl rfl rfl
  replace R := own_pure (R.callV (pc' := 29) (y := (⟨"java/lang/String", "length", "()I"⟩ : MethodName)) (z := (⟨"java/lang/String", "length", "()I"⟩ : MethodName)) (argsL := []) (rest := [(.long (0 : Int64))]) (W := 2) (w55 hw) (w56 hw) (fun s' hZ' => notFace_of_selects (args := #[]) (mvT hZ' (w58 hw))) (w58 hw) (w57 hw) (w7 hw) (w59 hw) (by decide) e1_b (rm_length C.l Z a0 hw b h n0 Ds own_cs S_1) rfl (lenOf pd6 rfl) rfl rfl d17_26 (by decide) (by decide) (by decide) (by decide) rfl)
  replace R := (((((R.i2l (pc' := 30) d17_29 rfl).stk (S' := [(.long (2 : Int64)), (.long (0 : Int64))]) rfl).iload (pc' := 32) d17_30 rfl rfl).i2l (pc' := 33) d17_32 rfl).stk (S' := [(.long (2 : Int64)), (.long (2 : Int64)), (.long (0 : Int64))]) rfl).lsub (pc' := 34) d17_33 rfl
  replace R := (((((R.stk (S' := [(.long (0 : Int64)), (.long (0 : Int64))]) rfl).lcmp (pc' := 35) d17_34 rfl).stk (S' := [(.int (0 : Int32))]) rfl).ifY (pc' := 40) d17_35 (flt (by decide : ¬ ((0 : Int32) < (0 : Int32)))).2.2.2 (by decide) rfl).iload (pc' := 42) d17_40 rfl rfl).ifY (pc' := 47) d17_42 (tlt (by decide : (0 : Int32) < (2 : Int32))).2.2.1 (by decide) rfl
  replace R := (((((R.aloadN (pc' := 48) (v := (.ref a)) d17_47 rfl rfl rfl).getF (pc' := 51) (host := "") (Or.inl (w32 hw)) Via.refl e5 d17_48 rfl).astore (pc' := 53) (l' := #[.val (.ref a), .val (.int (0 : Int32)), .val (.ref b), .val (.int (0 : Int32)), .val (.int (2 : Int32)), .val (.ref t), .unset, .unset]) d17_51 rfl rfl rfl).aloadN (pc' := 54) (v := (.ref b)) d17_53 rfl rfl rfl).getF (pc' := 57) (host := "") (Or.inl (w32 hw)) Via.refl e5_b d17_54 rfl).astore (pc' := 59) (l' := #[.val (.ref a), .val (.int (0 : Int32)), .val (.ref b), .val (.int (0 : Int32)), .val (.int (2 : Int32)), .val (.ref t), .val (.ref t_b), .unset]) d17_57 rfl rfl rfl
  replace R := R.aloadN (pc' := 60) (v := (.ref a)) d17_59 rfl rfl rfl
  replace R := own_pure (R.callV (pc' := 63) (y := (⟨"java/lang/String", "coder", "()B"⟩ : MethodName)) (z := (⟨"java/lang/String", "coder", "()B"⟩ : MethodName)) (argsL := []) (rest := []) (W := 0) (w60 hw) (w61 hw) (fun s' hZ' => notFace_of_selects (args := #[]) (mvT hZ' (w63 hw))) (w63 hw) (w62 hw) (w7 hw) (w64 hw) (by decide) e1 (rm_coder C.l Z a0 hw a h n0 Ds own_cs e2) rfl (lenOf pd0 rfl) rfl rfl d17_60 (by decide) (by decide) (by decide) (by decide) rfl)
  replace R := ((R.istore (pc' := 65) (l' := #[.val (.ref a), .val (.int (0 : Int32)), .val (.ref b), .val (.int (0 : Int32)), .val (.int (2 : Int32)), .val (.ref t), .val (.ref t_b), .val (.int (0 : Int32))]) d17_63 rfl rfl).iload (pc' := 67) d17_65 rfl rfl).aloadN (pc' := 68) (v := (.ref b)) d17_67 rfl rfl rfl
  replace R := own_pure (R.callV (pc' := 71) (y := (⟨"java/lang/String", "coder", "()B"⟩ : MethodName)) (z := (⟨"java/lang/String", "coder", "()B"⟩ : MethodName)) (argsL := []) (rest := [(.int (0 : Int32))]) (W := 1) (w60 hw) (w61 hw) (fun s' hZ' => notFace_of_selects (args := #[]) (mvT hZ' (w63 hw))) (w63 hw) (w62 hw) (w7 hw) (w64 hw) (by decide) e1_b (rm_coder C.l Z a0 hw b h n0 Ds own_cs e2_b) rfl (lenOf pd0 rfl) rfl rfl d17_68 (by decide) (by decide) (by decide) (by decide) rfl)
  replace R := (((((R.icmpN (pc' := 74) d17_71 (teq (by decide : (0 : Int32) = (0 : Int32))).2 rfl).iload (pc' := 76) d17_74 rfl rfl).iconst (pc' := 77) (z := (1 : Int32)) d17_76 rfl rfl).icmpY (pc' := 94) d17_77 (feq (by decide : ¬ ((0 : Int32) = (1 : Int32)))).2 (by decide) rfl).aload (pc' := 96) (v := (.ref t)) d17_94 rfl rfl rfl).iloadN (pc' := 97) d17_96 rfl rfl
  replace R := ((R.aload (pc' := 99) (v := (.ref t_b)) d17_97 rfl rfl rfl).iloadN (pc' := 100) d17_99 rfl rfl).iload (pc' := 102) d17_100 rfl rfl
  obtain ⟨_, _, _, ⟨zz, rfl, hzz, rfl, rfl⟩, R⟩ := R.callS (pc' := 105) (argsL := [(.ref t), (.int (0 : Int32)), (.ref t_b), (.int (0 : Int32)), (.int (2 : Int32))]) (rest := []) (W := 0) (w135 hw) (w136 hw) (w137 hw) (w138 hw) (by decide) (rm_mmn0_2 C.l Z a0 hw h n0 Ds hok hoy e7 e7_b hne) rfl (lenOf pd12 rfl) rfl rfl d17_102 (by decide) (by decide) (by decide) (by decide) rfl
  replace R := (((R.mono (ce' := 0) (sl' := 0) (by decide) (by decide)).stk (S' := [(.int zz)]) rfl).ifY (pc' := 112) d17_105 (flt hzz).2.1 (by decide) rfl).iconst (pc' := 113) (z := (0 : Int32)) d17_112 rfl rfl
  exact R.retN (Ds' := Ds) hret (by simp) (show nar .boolean (0 : Int32) = (0 : Int32) from rfl) d17_113 (by decide) (by decide) (fun _ q => q) ⟨rfl, rfl, rfl⟩
theorem rm_mme0_3 (l : Launch) (Z : State) (a0 : Array Value) (hw : HW a0 Z) (h : Heap) (n0 : Nat) (Ds : List Addr) {x0 x1 x2 x3 : Int32} (hok : ∀ c ∈ ([x0, x1, x2, x3] : List Int32), ¬ c < 0 ∧ ¬ (255 : Int32) < c) (hoy : ∀ c ∈ ([x0, x1, x2] : List Int32), ¬ c < 0 ∧ ¬ (255 : Int32) < c) {t : Addr} {kt : ClassId} (V_t : Arv Z h t kt .byte (4 : Int32) [(.int x0.toInt8.toInt32), (.int x1.toInt8.toInt32), (.int x2.toInt8.toInt32), (.int x3.toInt8.toInt32)] (.int 0)) {u : Addr} {ku : ClassId} (V_u : Arv Z h u ku .byte (3 : Int32) [(.int x0.toInt8.toInt32), (.int x1.toInt8.toInt32), (.int x2.toInt8.toInt32)] (.int 0)) :
    Ctr l Z (⟨"jdk/internal/util/ArraysSupport", "mismatch", "([BI[BII)I"⟩ : MethodName) jdk_48_method_14_code 8 (some .int) [] (rmo 0 0 0 0) #[.ref t, .int (0 : Int32), .ref u, .int (0 : Int32), .int (3 : Int32)] h n0 Ds (fun v h' Ds' => v = some (.int (-1 : Int32)) ∧ h = h' ∧ Ds = Ds') := by
  refine ctr_of (Ls := #[.val (.ref t), .val (.int (0 : Int32)), .val (.ref u), .val (.int (0 : Int32)), .val (.int (3 : Int32)), .unset, .unset, .unset]) (plainFor_of_name pn4) (fun m => by first | (simp [entryFrame, mkF, argsToLocals, Value.category]; done) | rfl) ?_
  intro C hl hret hnm R
  subst hl
  replace R := (((((R.iconst (pc' := 1) (z := (0 : Int32)) d29_0 rfl rfl).istore (pc' := 3) (l' := #[.val (.ref t), .val (.int (0 : Int32)), .val (.ref u), .val (.int (0 : Int32)), .val (.int (3 : Int32)), .val (.int (0 : Int32)), .unset, .unset]) d29_1 rfl rfl).iload (pc' := 5) d29_3 rfl rfl).bipush (pc' := 7) (z := (7 : Int32)) d29_5 rfl rfl).icmpY (pc' := 70) d29_7 (flt (by decide : ¬ ((7 : Int32) < (3 : Int32)))).2.2.2 (by decide) rfl).iload (pc' := 72) d29_70 rfl rfl
  replace R := (((((R.iload (pc' := 74) d29_72 rfl rfl).icmpN (pc' := 77) d29_74 (tlt (by decide : (0 : Int32) < (3 : Int32))).2.1 rfl).aloadN (pc' := 78) (v := (.ref t)) d29_77 rfl rfl rfl).iloadN (pc' := 79) d29_78 rfl rfl).iload (pc' := 81) d29_79 rfl rfl).iadd (pc' := 82) d29_81 rfl
  replace R := (((((R.stk (S' := [(.int (0 : Int32)), (.ref t)]) rfl).baload (pc' := 83) (v := (.int x0.toInt8.toInt32)) V_t ⟨by decide, by decide⟩ rfl d29_82 rfl).aloadN (pc' := 84) (v := (.ref u)) d29_83 rfl rfl rfl).iloadN (pc' := 85) d29_84 rfl rfl).iload (pc' := 87) d29_85 rfl rfl).iadd (pc' := 88) d29_87 rfl
  replace R := (((((R.stk (S' := [(.int (0 : Int32)), (.ref u), (.int x0.toInt8.toInt32)]) rfl).baload (pc' := 89) (v := (.int x0.toInt8.toInt32)) V_u ⟨by decide, by decide⟩ rfl d29_88 rfl).icmpY (pc' := 95) d29_89 (teq (rfl : x0.toInt8.toInt32 = x0.toInt8.toInt32)).1 (by decide) rfl).iinc (pc' := 98) (l' := #[.val (.ref t), .val (.int (0 : Int32)), .val (.ref u), .val (.int (0 : Int32)), .val (.int (3 : Int32)), .val (.int (1 : Int32)), .unset, .unset]) d29_95 rfl rfl rfl).goto (pc' := 70) d29_98 (by decide) rfl).iload (pc' := 72) d29_70 rfl rfl
  replace R := (((((R.iload (pc' := 74) d29_72 rfl rfl).icmpN (pc' := 77) d29_74 (tlt (by decide : (1 : Int32) < (3 : Int32))).2.1 rfl).aloadN (pc' := 78) (v := (.ref t)) d29_77 rfl rfl rfl).iloadN (pc' := 79) d29_78 rfl rfl).iload (pc' := 81) d29_79 rfl rfl).iadd (pc' := 82) d29_81 rfl
  replace R := (((((R.stk (S' := [(.int (1 : Int32)), (.ref t)]) rfl).baload (pc' := 83) (v := (.int x1.toInt8.toInt32)) V_t ⟨by decide, by decide⟩ rfl d29_82 rfl).aloadN (pc' := 84) (v := (.ref u)) d29_83 rfl rfl rfl).iloadN (pc' := 85) d29_84 rfl rfl).iload (pc' := 87) d29_85 rfl rfl).iadd (pc' := 88) d29_87 rfl
  replace R := (((((R.stk (S' := [(.int (1 : Int32)), (.ref u), (.int x1.toInt8.toInt32)]) rfl).baload (pc' := 89) (v := (.int x1.toInt8.toInt32)) V_u ⟨by decide, by decide⟩ rfl d29_88 rfl).icmpY (pc' := 95) d29_89 (teq (rfl : x1.toInt8.toInt32 = x1.toInt8.toInt32)).1 (by decide) rfl).iinc (pc' := 98) (l' := #[.val (.ref t), .val (.int (0 : Int32)), .val (.ref u), .val (.int (0 : Int32)), .val (.int (3 : Int32)), .val (.int (2 : Int32)), .unset, .unset]) d29_95 rfl rfl rfl).goto (pc' := 70) d29_98 (by decide) rfl).iload (pc' := 72) d29_70 rfl rfl
  replace R := (((((R.iload (pc' := 74) d29_72 rfl rfl).icmpN (pc' := 77) d29_74 (tlt (by decide : (2 : Int32) < (3 : Int32))).2.1 rfl).aloadN (pc' := 78) (v := (.ref t)) d29_77 rfl rfl rfl).iloadN (pc' := 79) d29_78 rfl rfl).iload (pc' := 81) d29_79 rfl rfl).iadd (pc' := 82) d29_81 rfl
  replace R := (((((R.stk (S' := [(.int (2 : Int32)), (.ref t)]) rfl).baload (pc' := 83) (v := (.int x2.toInt8.toInt32)) V_t ⟨by decide, by decide⟩ rfl d29_82 rfl).aloadN (pc' := 84) (v := (.ref u)) d29_83 rfl rfl rfl).iloadN (pc' := 85) d29_84 rfl rfl).iload (pc' := 87) d29_85 rfl rfl).iadd (pc' := 88) d29_87 rfl
  replace R := (((((R.stk (S' := [(.int (2 : Int32)), (.ref u), (.int x2.toInt8.toInt32)]) rfl).baload (pc' := 89) (v := (.int x2.toInt8.toInt32)) V_u ⟨by decide, by decide⟩ rfl d29_88 rfl).icmpY (pc' := 95) d29_89 (teq (rfl : x2.toInt8.toInt32 = x2.toInt8.toInt32)).1 (by decide) rfl).iinc (pc' := 98) (l' := #[.val (.ref t), .val (.int (0 : Int32)), .val (.ref u), .val (.int (0 : Int32)), .val (.int (3 : Int32)), .val (.int (3 : Int32)), .unset, .unset]) d29_95 rfl rfl rfl).goto (pc' := 70) d29_98 (by decide) rfl).iload (pc' := 72) d29_70 rfl rfl
  replace R := ((R.iload (pc' := 74) d29_72 rfl rfl).icmpY (pc' := 101) d29_74 (flt (by decide : ¬ ((3 : Int32) < (3 : Int32)))).2.1 (by decide) rfl).iconst (pc' := 102) (z := (-1 : Int32)) d29_101 rfl rfl
  exact R.retI (Ds' := Ds) hret d29_102 (by decide) (by decide) (fun _ q => q) ⟨rfl, rfl, rfl⟩
theorem rm_rme0_3 (l : Launch) (Z : State) (a0 : Array Value) (hw : HW a0 Z) (a b : Addr) (h : Heap) (n0 : Nat) (Ds : List Addr) (own_cs : CompactOn Z) {x0 x1 x2 x3 : Int32} (S_a : IsStr Z h a [x0, x1, x2, x3]) (S_b : IsStr Z h b [x0, x1, x2]) :
    Ctr l Z (⟨"java/lang/String", "regionMatches", "(ILjava/lang/String;II)Z"⟩ : MethodName) jdk_42_method_73_code 8 (some .boolean) [] (rmo 2 0 0 27) #[.ref a, .int (0 : Int32), .ref b, .int (0 : Int32), .int (3 : Int32)] h n0 Ds (fun v h' Ds' => v = some (.int (1 : Int32)) ∧ h = h' ∧ Ds = Ds') := by
  refine ctr_of (Ls := #[.val (.ref a), .val (.int (0 : Int32)), .val (.ref b), .val (.int (0 : Int32)), .val (.int (3 : Int32)), .unset, .unset, .unset]) (plainFor_of_name pn0) (fun m => by first | (simp [entryFrame, mkF, argsToLocals, Value.category]; done) | rfl) ?_
  intro C hl hret hnm R
  subst hl
  have S_0 := S_a
  have S_1 := S_b
  obtain ⟨e1, e2, e3, e4, t, kt, e5, e6⟩ := S_a
  have e7 : Arv Z h t kt .byte (4 : Int32) [(.int x0.toInt8.toInt32), (.int x1.toInt8.toInt32), (.int x2.toInt8.toInt32), (.int x3.toInt8.toInt32)] (.int 0) := e6
  have hok := e3
  obtain ⟨e1_b, e2_b, e3_b, e4_b, t_b, kt_b, e5_b, e6_b⟩ := S_b
  have e7_b : Arv Z h t_b kt_b .byte (3 : Int32) [(.int x0.toInt8.toInt32), (.int x1.toInt8.toInt32), (.int x2.toInt8.toInt32)] (.int 0) := e6_b
  have hoy := e3_b
  replace R := (((((R.iloadN (pc' := 1) d17_0 rfl rfl).ifN (pc' := 4) d17_1 (flt (by decide : ¬ ((0 : Int32) < (0 : Int32)))).1 rfl).iloadN (pc' := 5) d17_4 rfl rfl).ifN (pc' := 8) d17_5 (flt (by decide : ¬ ((0 : Int32) < (0 : Int32)))).1 rfl).iloadN (pc' := 9) d17_8 rfl rfl).i2l (pc' := 10) d17_9 rfl
  replace R := (R.stk (S' := [(.long (0 : Int64))]) rfl).aloadN (pc' := 11) (v := (.ref a)) d17_10 rfl rfl rfl
  replace R := own_pure (R.callV (pc' := 14) (y := (⟨"java/lang/String", "length", "()I"⟩ : MethodName)) (z := (⟨"java/lang/String", "length", "()I"⟩ : MethodName)) (argsL := []) (rest := [(.long (0 : Int64))]) (W := 2) (w55 hw) (w56 hw) (fun s' hZ' => notFace_of_selects (args := #[]) (mvT hZ' (w58 hw))) (w58 hw) (w57 hw) (w7 hw) (w59 hw) (by decide) e1 (rm_length C.l Z a0 hw a h n0 Ds own_cs S_0) rfl (lenOf pd6 rfl) rfl rfl d17_11 (by decide) (by decide) (by decide) (by decide) rfl)
  replace R := (((((R.i2l (pc' := 15) d17_14 rfl).stk (S' := [(.long (4 : Int64)), (.long (0 : Int64))]) rfl).iload (pc' := 17) d17_15 rfl rfl).i2l (pc' := 18) d17_17 rfl).stk (S' := [(.long (3 : Int64)), (.long (4 : Int64)), (.long (0 : Int64))]) rfl).lsub (pc' := 19) d17_18 rfl
  replace R := (((((R.stk (S' := [(.long (1 : Int64)), (.long (0 : Int64))]) rfl).lcmp (pc' := 20) d17_19 rfl).stk (S' := [(.int (-1 : Int32))]) rfl).ifN (pc' := 23) d17_20 (flt (by decide : ¬ ((0 : Int32) < (-1 : Int32)))).2.2.1 rfl).iloadN (pc' := 24) d17_23 rfl rfl).i2l (pc' := 25) d17_24 rfl
  replace R := (R.stk (S' := [(.long (0 : Int64))]) rfl).aloadN (pc' := 26) (v := (.ref b)) d17_25 rfl rfl rfl
  replace R := own_pure (R.callV (pc' := 29) (y := (⟨"java/lang/String", "length", "()I"⟩ : MethodName)) (z := (⟨"java/lang/String", "length", "()I"⟩ : MethodName)) (argsL := []) (rest := [(.long (0 : Int64))]) (W := 2) (w55 hw) (w56 hw) (fun s' hZ' => notFace_of_selects (args := #[]) (mvT hZ' (w58 hw))) (w58 hw) (w57 hw) (w7 hw) (w59 hw) (by decide) e1_b (rm_length C.l Z a0 hw b h n0 Ds own_cs S_1) rfl (lenOf pd6 rfl) rfl rfl d17_26 (by decide) (by decide) (by decide) (by decide) rfl)
  replace R := (((((R.i2l (pc' := 30) d17_29 rfl).stk (S' := [(.long (3 : Int64)), (.long (0 : Int64))]) rfl).iload (pc' := 32) d17_30 rfl rfl).i2l (pc' := 33) d17_32 rfl).stk (S' := [(.long (3 : Int64)), (.long (3 : Int64)), (.long (0 : Int64))]) rfl).lsub (pc' := 34) d17_33 rfl
  replace R := (((((R.stk (S' := [(.long (0 : Int64)), (.long (0 : Int64))]) rfl).lcmp (pc' := 35) d17_34 rfl).stk (S' := [(.int (0 : Int32))]) rfl).ifY (pc' := 40) d17_35 (flt (by decide : ¬ ((0 : Int32) < (0 : Int32)))).2.2.2 (by decide) rfl).iload (pc' := 42) d17_40 rfl rfl).ifY (pc' := 47) d17_42 (tlt (by decide : (0 : Int32) < (3 : Int32))).2.2.1 (by decide) rfl
  replace R := (((((R.aloadN (pc' := 48) (v := (.ref a)) d17_47 rfl rfl rfl).getF (pc' := 51) (host := "") (Or.inl (w32 hw)) Via.refl e5 d17_48 rfl).astore (pc' := 53) (l' := #[.val (.ref a), .val (.int (0 : Int32)), .val (.ref b), .val (.int (0 : Int32)), .val (.int (3 : Int32)), .val (.ref t), .unset, .unset]) d17_51 rfl rfl rfl).aloadN (pc' := 54) (v := (.ref b)) d17_53 rfl rfl rfl).getF (pc' := 57) (host := "") (Or.inl (w32 hw)) Via.refl e5_b d17_54 rfl).astore (pc' := 59) (l' := #[.val (.ref a), .val (.int (0 : Int32)), .val (.ref b), .val (.int (0 : Int32)), .val (.int (3 : Int32)), .val (.ref t), .val (.ref t_b), .unset]) d17_57 rfl rfl rfl
  replace R := R.aloadN (pc' := 60) (v := (.ref a)) d17_59 rfl rfl rfl
  replace R := own_pure (R.callV (pc' := 63) (y := (⟨"java/lang/String", "coder", "()B"⟩ : MethodName)) (z := (⟨"java/lang/String", "coder", "()B"⟩ : MethodName)) (argsL := []) (rest := []) (W := 0) (w60 hw) (w61 hw) (fun s' hZ' => notFace_of_selects (args := #[]) (mvT hZ' (w63 hw))) (w63 hw) (w62 hw) (w7 hw) (w64 hw) (by decide) e1 (rm_coder C.l Z a0 hw a h n0 Ds own_cs e2) rfl (lenOf pd0 rfl) rfl rfl d17_60 (by decide) (by decide) (by decide) (by decide) rfl)
  replace R := ((R.istore (pc' := 65) (l' := #[.val (.ref a), .val (.int (0 : Int32)), .val (.ref b), .val (.int (0 : Int32)), .val (.int (3 : Int32)), .val (.ref t), .val (.ref t_b), .val (.int (0 : Int32))]) d17_63 rfl rfl).iload (pc' := 67) d17_65 rfl rfl).aloadN (pc' := 68) (v := (.ref b)) d17_67 rfl rfl rfl
  replace R := own_pure (R.callV (pc' := 71) (y := (⟨"java/lang/String", "coder", "()B"⟩ : MethodName)) (z := (⟨"java/lang/String", "coder", "()B"⟩ : MethodName)) (argsL := []) (rest := [(.int (0 : Int32))]) (W := 1) (w60 hw) (w61 hw) (fun s' hZ' => notFace_of_selects (args := #[]) (mvT hZ' (w63 hw))) (w63 hw) (w62 hw) (w7 hw) (w64 hw) (by decide) e1_b (rm_coder C.l Z a0 hw b h n0 Ds own_cs e2_b) rfl (lenOf pd0 rfl) rfl rfl d17_68 (by decide) (by decide) (by decide) (by decide) rfl)
  replace R := (((((R.icmpN (pc' := 74) d17_71 (teq (by decide : (0 : Int32) = (0 : Int32))).2 rfl).iload (pc' := 76) d17_74 rfl rfl).iconst (pc' := 77) (z := (1 : Int32)) d17_76 rfl rfl).icmpY (pc' := 94) d17_77 (feq (by decide : ¬ ((0 : Int32) = (1 : Int32)))).2 (by decide) rfl).aload (pc' := 96) (v := (.ref t)) d17_94 rfl rfl rfl).iloadN (pc' := 97) d17_96 rfl rfl
  replace R := ((R.aload (pc' := 99) (v := (.ref t_b)) d17_97 rfl rfl rfl).iloadN (pc' := 100) d17_99 rfl rfl).iload (pc' := 102) d17_100 rfl rfl
  replace R := own_pure (R.callS (pc' := 105) (argsL := [(.ref t), (.int (0 : Int32)), (.ref t_b), (.int (0 : Int32)), (.int (3 : Int32))]) (rest := []) (W := 0) (w135 hw) (w136 hw) (w137 hw) (w138 hw) (by decide) (rm_mme0_3 C.l Z a0 hw h n0 Ds hok hoy e7 e7_b) rfl (lenOf pd12 rfl) rfl rfl d17_102 (by decide) (by decide) (by decide) (by decide) rfl)
  replace R := ((R.ifN (pc' := 108) d17_105 (tlt (by decide : (-1 : Int32) < (0 : Int32))).2.1 rfl).iconst (pc' := 109) (z := (1 : Int32)) d17_108 rfl rfl).goto (pc' := 113) d17_109 (by decide) rfl
  exact R.retN (Ds' := Ds) hret (by simp) (show nar .boolean (1 : Int32) = (1 : Int32) from rfl) d17_113 (by decide) (by decide) (fun _ q => q) ⟨rfl, rfl, rfl⟩
theorem rm_mmn0_3 (l : Launch) (Z : State) (a0 : Array Value) (hw : HW a0 Z) (h : Heap) (n0 : Nat) (Ds : List Addr) {x0 x1 x2 x3 : Int32} {y0 y1 y2 : Int32} (hok : ∀ c ∈ ([x0, x1, x2, x3] : List Int32), ¬ c < 0 ∧ ¬ (255 : Int32) < c) (hoy : ∀ c ∈ ([y0, y1, y2] : List Int32), ¬ c < 0 ∧ ¬ (255 : Int32) < c) {t : Addr} {kt : ClassId} (V_t : Arv Z h t kt .byte (4 : Int32) [(.int x0.toInt8.toInt32), (.int x1.toInt8.toInt32), (.int x2.toInt8.toInt32), (.int x3.toInt8.toInt32)] (.int 0)) {u : Addr} {ku : ClassId} (V_u : Arv Z h u ku .byte (3 : Int32) [(.int y0.toInt8.toInt32), (.int y1.toInt8.toInt32), (.int y2.toInt8.toInt32)] (.int 0)) (hne : ¬ ([x0, x1, x2] : List Int32) = [y0, y1, y2]) :
    Ctr l Z (⟨"jdk/internal/util/ArraysSupport", "mismatch", "([BI[BII)I"⟩ : MethodName) jdk_48_method_14_code 8 (some .int) [] (rmo 0 0 0 0) #[.ref t, .int (0 : Int32), .ref u, .int (0 : Int32), .int (3 : Int32)] h n0 Ds (fun v h' Ds' => ∃ z : Int32, v = some (.int z) ∧ ¬ z < 0 ∧ h = h' ∧ Ds = Ds') := by
  refine ctr_of (Ls := #[.val (.ref t), .val (.int (0 : Int32)), .val (.ref u), .val (.int (0 : Int32)), .val (.int (3 : Int32)), .unset, .unset, .unset]) (plainFor_of_name pn4) (fun m => by first | (simp [entryFrame, mkF, argsToLocals, Value.category]; done) | rfl) ?_
  intro C hl hret hnm R
  subst hl
  replace R := (((((R.iconst (pc' := 1) (z := (0 : Int32)) d29_0 rfl rfl).istore (pc' := 3) (l' := #[.val (.ref t), .val (.int (0 : Int32)), .val (.ref u), .val (.int (0 : Int32)), .val (.int (3 : Int32)), .val (.int (0 : Int32)), .unset, .unset]) d29_1 rfl rfl).iload (pc' := 5) d29_3 rfl rfl).bipush (pc' := 7) (z := (7 : Int32)) d29_5 rfl rfl).icmpY (pc' := 70) d29_7 (flt (by decide : ¬ ((7 : Int32) < (3 : Int32)))).2.2.2 (by decide) rfl).iload (pc' := 72) d29_70 rfl rfl
  replace R := (((((R.iload (pc' := 74) d29_72 rfl rfl).icmpN (pc' := 77) d29_74 (tlt (by decide : (0 : Int32) < (3 : Int32))).2.1 rfl).aloadN (pc' := 78) (v := (.ref t)) d29_77 rfl rfl rfl).iloadN (pc' := 79) d29_78 rfl rfl).iload (pc' := 81) d29_79 rfl rfl).iadd (pc' := 82) d29_81 rfl
  replace R := (((((R.stk (S' := [(.int (0 : Int32)), (.ref t)]) rfl).baload (pc' := 83) (v := (.int x0.toInt8.toInt32)) V_t ⟨by decide, by decide⟩ rfl d29_82 rfl).aloadN (pc' := 84) (v := (.ref u)) d29_83 rfl rfl rfl).iloadN (pc' := 85) d29_84 rfl rfl).iload (pc' := 87) d29_85 rfl rfl).iadd (pc' := 88) d29_87 rfl
  replace R := (R.stk (S' := [(.int (0 : Int32)), (.ref u), (.int x0.toInt8.toInt32)]) rfl).baload (pc' := 89) (v := (.int y0.toInt8.toInt32)) V_u ⟨by decide, by decide⟩ rfl d29_88 rfl
  by_cases hc1 : x0.toInt8.toInt32 = y0.toInt8.toInt32
  · replace R := R.icmpY (pc' := 95) d29_89 (teq hc1).1 (by decide) rfl
    replace R := (((((R.iinc (pc' := 98) (l' := #[.val (.ref t), .val (.int (0 : Int32)), .val (.ref u), .val (.int (0 : Int32)), .val (.int (3 : Int32)), .val (.int (1 : Int32)), .unset, .unset]) d29_95 rfl rfl rfl).goto (pc' := 70) d29_98 (by decide) rfl).iload (pc' := 72) d29_70 rfl rfl).iload (pc' := 74) d29_72 rfl rfl).icmpN (pc' := 77) d29_74 (tlt (by decide : (1 : Int32) < (3 : Int32))).2.1 rfl).aloadN (pc' := 78) (v := (.ref t)) d29_77 rfl rfl rfl
    replace R := (((((R.iloadN (pc' := 79) d29_78 rfl rfl).iload (pc' := 81) d29_79 rfl rfl).iadd (pc' := 82) d29_81 rfl).stk (S' := [(.int (1 : Int32)), (.ref t)]) rfl).baload (pc' := 83) (v := (.int x1.toInt8.toInt32)) V_t ⟨by decide, by decide⟩ rfl d29_82 rfl).aloadN (pc' := 84) (v := (.ref u)) d29_83 rfl rfl rfl
    replace R := ((((R.iloadN (pc' := 85) d29_84 rfl rfl).iload (pc' := 87) d29_85 rfl rfl).iadd (pc' := 88) d29_87 rfl).stk (S' := [(.int (1 : Int32)), (.ref u), (.int x1.toInt8.toInt32)]) rfl).baload (pc' := 89) (v := (.int y1.toInt8.toInt32)) V_u ⟨by decide, by decide⟩ rfl d29_88 rfl
    by_cases hc2 : x1.toInt8.toInt32 = y1.toInt8.toInt32
    · replace R := R.icmpY (pc' := 95) d29_89 (teq hc2).1 (by decide) rfl
      replace R := (((((R.iinc (pc' := 98) (l' := #[.val (.ref t), .val (.int (0 : Int32)), .val (.ref u), .val (.int (0 : Int32)), .val (.int (3 : Int32)), .val (.int (2 : Int32)), .unset, .unset]) d29_95 rfl rfl rfl).goto (pc' := 70) d29_98 (by decide) rfl).iload (pc' := 72) d29_70 rfl rfl).iload (pc' := 74) d29_72 rfl rfl).icmpN (pc' := 77) d29_74 (tlt (by decide : (2 : Int32) < (3 : Int32))).2.1 rfl).aloadN (pc' := 78) (v := (.ref t)) d29_77 rfl rfl rfl
      replace R := (((((R.iloadN (pc' := 79) d29_78 rfl rfl).iload (pc' := 81) d29_79 rfl rfl).iadd (pc' := 82) d29_81 rfl).stk (S' := [(.int (2 : Int32)), (.ref t)]) rfl).baload (pc' := 83) (v := (.int x2.toInt8.toInt32)) V_t ⟨by decide, by decide⟩ rfl d29_82 rfl).aloadN (pc' := 84) (v := (.ref u)) d29_83 rfl rfl rfl
      replace R := ((((R.iloadN (pc' := 85) d29_84 rfl rfl).iload (pc' := 87) d29_85 rfl rfl).iadd (pc' := 88) d29_87 rfl).stk (S' := [(.int (2 : Int32)), (.ref u), (.int x2.toInt8.toInt32)]) rfl).baload (pc' := 89) (v := (.int y2.toInt8.toInt32)) V_u ⟨by decide, by decide⟩ rfl d29_88 rfl
      by_cases hc3 : x2.toInt8.toInt32 = y2.toInt8.toInt32
      · replace R := R.icmpY (pc' := 95) d29_89 (teq hc3).1 (by decide) rfl
        replace R := (((((R.iinc (pc' := 98) (l' := #[.val (.ref t), .val (.int (0 : Int32)), .val (.ref u), .val (.int (0 : Int32)), .val (.int (3 : Int32)), .val (.int (3 : Int32)), .unset, .unset]) d29_95 rfl rfl rfl).goto (pc' := 70) d29_98 (by decide) rfl).iload (pc' := 72) d29_70 rfl rfl).iload (pc' := 74) d29_72 rfl rfl).icmpY (pc' := 101) d29_74 (flt (by decide : ¬ ((3 : Int32) < (3 : Int32)))).2.1 (by decide) rfl).iconst (pc' := 102) (z := (-1 : Int32)) d29_101 rfl rfl
        exact absurd (show ([x0, x1, x2] : List Int32) = [y0, y1, y2] by rw [sbyte (hok x0 (List.mem_of_getElem? (i := 0) rfl)) (hoy y0 (List.mem_of_getElem? (i := 0) rfl)) hc1, sbyte (hok x1 (List.mem_of_getElem? (i := 1) rfl)) (hoy y1 (List.mem_of_getElem? (i := 1) rfl)) hc2, sbyte (hok x2 (List.mem_of_getElem? (i := 2) rfl)) (hoy y2 (List.mem_of_getElem? (i := 2) rfl)) hc3]) hne
      · replace R := R.icmpN (pc' := 92) d29_89 (feq hc3).1 rfl
        replace R := R.iload (pc' := 94) d29_92 rfl rfl
        exact R.retI (Ds' := Ds) hret d29_94 (by decide) (by decide) (fun _ q => q) ⟨_, rfl, by decide, rfl, rfl⟩
    · replace R := R.icmpN (pc' := 92) d29_89 (feq hc2).1 rfl
      replace R := R.iload (pc' := 94) d29_92 rfl rfl
      exact R.retI (Ds' := Ds) hret d29_94 (by decide) (by decide) (fun _ q => q) ⟨_, rfl, by decide, rfl, rfl⟩
  · replace R := R.icmpN (pc' := 92) d29_89 (feq hc1).1 rfl
    replace R := R.iload (pc' := 94) d29_92 rfl rfl
    exact R.retI (Ds' := Ds) hret d29_94 (by decide) (by decide) (fun _ q => q) ⟨_, rfl, by decide, rfl, rfl⟩
theorem rm_rmn0_3 (l : Launch) (Z : State) (a0 : Array Value) (hw : HW a0 Z) (a b : Addr) (h : Heap) (n0 : Nat) (Ds : List Addr) (own_cs : CompactOn Z) {x0 x1 x2 x3 : Int32} {y0 y1 y2 : Int32} (S_a : IsStr Z h a [x0, x1, x2, x3]) (S_b : IsStr Z h b [y0, y1, y2]) (hne : ¬ ([x0, x1, x2] : List Int32) = [y0, y1, y2]) :
    Ctr l Z (⟨"java/lang/String", "regionMatches", "(ILjava/lang/String;II)Z"⟩ : MethodName) jdk_42_method_73_code 8 (some .boolean) [] (rmo 2 0 0 27) #[.ref a, .int (0 : Int32), .ref b, .int (0 : Int32), .int (3 : Int32)] h n0 Ds (fun v h' Ds' => v = some (.int (0 : Int32)) ∧ h = h' ∧ Ds = Ds') := by
  refine ctr_of (Ls := #[.val (.ref a), .val (.int (0 : Int32)), .val (.ref b), .val (.int (0 : Int32)), .val (.int (3 : Int32)), .unset, .unset, .unset]) (plainFor_of_name pn0) (fun m => by first | (simp [entryFrame, mkF, argsToLocals, Value.category]; done) | rfl) ?_
  intro C hl hret hnm R
  subst hl
  have S_0 := S_a
  have S_1 := S_b
  obtain ⟨e1, e2, e3, e4, t, kt, e5, e6⟩ := S_a
  have e7 : Arv Z h t kt .byte (4 : Int32) [(.int x0.toInt8.toInt32), (.int x1.toInt8.toInt32), (.int x2.toInt8.toInt32), (.int x3.toInt8.toInt32)] (.int 0) := e6
  have hok := e3
  obtain ⟨e1_b, e2_b, e3_b, e4_b, t_b, kt_b, e5_b, e6_b⟩ := S_b
  have e7_b : Arv Z h t_b kt_b .byte (3 : Int32) [(.int y0.toInt8.toInt32), (.int y1.toInt8.toInt32), (.int y2.toInt8.toInt32)] (.int 0) := e6_b
  have hoy := e3_b
  replace R := (((((R.iloadN (pc' := 1) d17_0 rfl rfl).ifN (pc' := 4) d17_1 (flt (by decide : ¬ ((0 : Int32) < (0 : Int32)))).1 rfl).iloadN (pc' := 5) d17_4 rfl rfl).ifN (pc' := 8) d17_5 (flt (by decide : ¬ ((0 : Int32) < (0 : Int32)))).1 rfl).iloadN (pc' := 9) d17_8 rfl rfl).i2l (pc' := 10) d17_9 rfl
  replace R := (R.stk (S' := [(.long (0 : Int64))]) rfl).aloadN (pc' := 11) (v := (.ref a)) d17_10 rfl rfl rfl
  replace R := own_pure (R.callV (pc' := 14) (y := (⟨"java/lang/String", "length", "()I"⟩ : MethodName)) (z := (⟨"java/lang/String", "length", "()I"⟩ : MethodName)) (argsL := []) (rest := [(.long (0 : Int64))]) (W := 2) (w55 hw) (w56 hw) (fun s' hZ' => notFace_of_selects (args := #[]) (mvT hZ' (w58 hw))) (w58 hw) (w57 hw) (w7 hw) (w59 hw) (by decide) e1 (rm_length C.l Z a0 hw a h n0 Ds own_cs S_0) rfl (lenOf pd6 rfl) rfl rfl d17_11 (by decide) (by decide) (by decide) (by decide) rfl)
  replace R := (((((R.i2l (pc' := 15) d17_14 rfl).stk (S' := [(.long (4 : Int64)), (.long (0 : Int64))]) rfl).iload (pc' := 17) d17_15 rfl rfl).i2l (pc' := 18) d17_17 rfl).stk (S' := [(.long (3 : Int64)), (.long (4 : Int64)), (.long (0 : Int64))]) rfl).lsub (pc' := 19) d17_18 rfl
  replace R := (((((R.stk (S' := [(.long (1 : Int64)), (.long (0 : Int64))]) rfl).lcmp (pc' := 20) d17_19 rfl).stk (S' := [(.int (-1 : Int32))]) rfl).ifN (pc' := 23) d17_20 (flt (by decide : ¬ ((0 : Int32) < (-1 : Int32)))).2.2.1 rfl).iloadN (pc' := 24) d17_23 rfl rfl).i2l (pc' := 25) d17_24 rfl
  replace R := (R.stk (S' := [(.long (0 : Int64))]) rfl).aloadN (pc' := 26) (v := (.ref b)) d17_25 rfl rfl rfl
  replace R := own_pure (R.callV (pc' := 29) (y := (⟨"java/lang/String", "length", "()I"⟩ : MethodName)) (z := (⟨"java/lang/String", "length", "()I"⟩ : MethodName)) (argsL := []) (rest := [(.long (0 : Int64))]) (W := 2) (w55 hw) (w56 hw) (fun s' hZ' => notFace_of_selects (args := #[]) (mvT hZ' (w58 hw))) (w58 hw) (w57 hw) (w7 hw) (w59 hw) (by decide) e1_b (rm_length C.l Z a0 hw b h n0 Ds own_cs S_1) rfl (lenOf pd6 rfl) rfl rfl d17_26 (by decide) (by decide) (by decide) (by decide) rfl)
  replace R := (((((R.i2l (pc' := 30) d17_29 rfl).stk (S' := [(.long (3 : Int64)), (.long (0 : Int64))]) rfl).iload (pc' := 32) d17_30 rfl rfl).i2l (pc' := 33) d17_32 rfl).stk (S' := [(.long (3 : Int64)), (.long (3 : Int64)), (.long (0 : Int64))]) rfl).lsub (pc' := 34) d17_33 rfl
  replace R := (((((R.stk (S' := [(.long (0 : Int64)), (.long (0 : Int64))]) rfl).lcmp (pc' := 35) d17_34 rfl).stk (S' := [(.int (0 : Int32))]) rfl).ifY (pc' := 40) d17_35 (flt (by decide : ¬ ((0 : Int32) < (0 : Int32)))).2.2.2 (by decide) rfl).iload (pc' := 42) d17_40 rfl rfl).ifY (pc' := 47) d17_42 (tlt (by decide : (0 : Int32) < (3 : Int32))).2.2.1 (by decide) rfl
  replace R := (((((R.aloadN (pc' := 48) (v := (.ref a)) d17_47 rfl rfl rfl).getF (pc' := 51) (host := "") (Or.inl (w32 hw)) Via.refl e5 d17_48 rfl).astore (pc' := 53) (l' := #[.val (.ref a), .val (.int (0 : Int32)), .val (.ref b), .val (.int (0 : Int32)), .val (.int (3 : Int32)), .val (.ref t), .unset, .unset]) d17_51 rfl rfl rfl).aloadN (pc' := 54) (v := (.ref b)) d17_53 rfl rfl rfl).getF (pc' := 57) (host := "") (Or.inl (w32 hw)) Via.refl e5_b d17_54 rfl).astore (pc' := 59) (l' := #[.val (.ref a), .val (.int (0 : Int32)), .val (.ref b), .val (.int (0 : Int32)), .val (.int (3 : Int32)), .val (.ref t), .val (.ref t_b), .unset]) d17_57 rfl rfl rfl
  replace R := R.aloadN (pc' := 60) (v := (.ref a)) d17_59 rfl rfl rfl
  replace R := own_pure (R.callV (pc' := 63) (y := (⟨"java/lang/String", "coder", "()B"⟩ : MethodName)) (z := (⟨"java/lang/String", "coder", "()B"⟩ : MethodName)) (argsL := []) (rest := []) (W := 0) (w60 hw) (w61 hw) (fun s' hZ' => notFace_of_selects (args := #[]) (mvT hZ' (w63 hw))) (w63 hw) (w62 hw) (w7 hw) (w64 hw) (by decide) e1 (rm_coder C.l Z a0 hw a h n0 Ds own_cs e2) rfl (lenOf pd0 rfl) rfl rfl d17_60 (by decide) (by decide) (by decide) (by decide) rfl)
  replace R := ((R.istore (pc' := 65) (l' := #[.val (.ref a), .val (.int (0 : Int32)), .val (.ref b), .val (.int (0 : Int32)), .val (.int (3 : Int32)), .val (.ref t), .val (.ref t_b), .val (.int (0 : Int32))]) d17_63 rfl rfl).iload (pc' := 67) d17_65 rfl rfl).aloadN (pc' := 68) (v := (.ref b)) d17_67 rfl rfl rfl
  replace R := own_pure (R.callV (pc' := 71) (y := (⟨"java/lang/String", "coder", "()B"⟩ : MethodName)) (z := (⟨"java/lang/String", "coder", "()B"⟩ : MethodName)) (argsL := []) (rest := [(.int (0 : Int32))]) (W := 1) (w60 hw) (w61 hw) (fun s' hZ' => notFace_of_selects (args := #[]) (mvT hZ' (w63 hw))) (w63 hw) (w62 hw) (w7 hw) (w64 hw) (by decide) e1_b (rm_coder C.l Z a0 hw b h n0 Ds own_cs e2_b) rfl (lenOf pd0 rfl) rfl rfl d17_68 (by decide) (by decide) (by decide) (by decide) rfl)
  replace R := (((((R.icmpN (pc' := 74) d17_71 (teq (by decide : (0 : Int32) = (0 : Int32))).2 rfl).iload (pc' := 76) d17_74 rfl rfl).iconst (pc' := 77) (z := (1 : Int32)) d17_76 rfl rfl).icmpY (pc' := 94) d17_77 (feq (by decide : ¬ ((0 : Int32) = (1 : Int32)))).2 (by decide) rfl).aload (pc' := 96) (v := (.ref t)) d17_94 rfl rfl rfl).iloadN (pc' := 97) d17_96 rfl rfl
  replace R := ((R.aload (pc' := 99) (v := (.ref t_b)) d17_97 rfl rfl rfl).iloadN (pc' := 100) d17_99 rfl rfl).iload (pc' := 102) d17_100 rfl rfl
  obtain ⟨_, _, _, ⟨zz, rfl, hzz, rfl, rfl⟩, R⟩ := R.callS (pc' := 105) (argsL := [(.ref t), (.int (0 : Int32)), (.ref t_b), (.int (0 : Int32)), (.int (3 : Int32))]) (rest := []) (W := 0) (w135 hw) (w136 hw) (w137 hw) (w138 hw) (by decide) (rm_mmn0_3 C.l Z a0 hw h n0 Ds hok hoy e7 e7_b hne) rfl (lenOf pd12 rfl) rfl rfl d17_102 (by decide) (by decide) (by decide) (by decide) rfl
  replace R := (((R.mono (ce' := 0) (sl' := 0) (by decide) (by decide)).stk (S' := [(.int zz)]) rfl).ifY (pc' := 112) d17_105 (flt hzz).2.1 (by decide) rfl).iconst (pc' := 113) (z := (0 : Int32)) d17_112 rfl rfl
  exact R.retN (Ds' := Ds) hret (by simp) (show nar .boolean (0 : Int32) = (0 : Int32) from rfl) d17_113 (by decide) (by decide) (fun _ q => q) ⟨rfl, rfl, rfl⟩
theorem rm_mme0_4 (l : Launch) (Z : State) (a0 : Array Value) (hw : HW a0 Z) (h : Heap) (n0 : Nat) (Ds : List Addr) {x0 x1 x2 x3 : Int32} (hok : ∀ c ∈ ([x0, x1, x2, x3] : List Int32), ¬ c < 0 ∧ ¬ (255 : Int32) < c) (hoy : ∀ c ∈ ([x0, x1, x2, x3] : List Int32), ¬ c < 0 ∧ ¬ (255 : Int32) < c) {t : Addr} {kt : ClassId} (V_t : Arv Z h t kt .byte (4 : Int32) [(.int x0.toInt8.toInt32), (.int x1.toInt8.toInt32), (.int x2.toInt8.toInt32), (.int x3.toInt8.toInt32)] (.int 0)) {u : Addr} {ku : ClassId} (V_u : Arv Z h u ku .byte (4 : Int32) [(.int x0.toInt8.toInt32), (.int x1.toInt8.toInt32), (.int x2.toInt8.toInt32), (.int x3.toInt8.toInt32)] (.int 0)) :
    Ctr l Z (⟨"jdk/internal/util/ArraysSupport", "mismatch", "([BI[BII)I"⟩ : MethodName) jdk_48_method_14_code 8 (some .int) [] (rmo 0 0 0 0) #[.ref t, .int (0 : Int32), .ref u, .int (0 : Int32), .int (4 : Int32)] h n0 Ds (fun v h' Ds' => v = some (.int (-1 : Int32)) ∧ h = h' ∧ Ds = Ds') := by
  refine ctr_of (Ls := #[.val (.ref t), .val (.int (0 : Int32)), .val (.ref u), .val (.int (0 : Int32)), .val (.int (4 : Int32)), .unset, .unset, .unset]) (plainFor_of_name pn4) (fun m => by first | (simp [entryFrame, mkF, argsToLocals, Value.category]; done) | rfl) ?_
  intro C hl hret hnm R
  subst hl
  replace R := (((((R.iconst (pc' := 1) (z := (0 : Int32)) d29_0 rfl rfl).istore (pc' := 3) (l' := #[.val (.ref t), .val (.int (0 : Int32)), .val (.ref u), .val (.int (0 : Int32)), .val (.int (4 : Int32)), .val (.int (0 : Int32)), .unset, .unset]) d29_1 rfl rfl).iload (pc' := 5) d29_3 rfl rfl).bipush (pc' := 7) (z := (7 : Int32)) d29_5 rfl rfl).icmpY (pc' := 70) d29_7 (flt (by decide : ¬ ((7 : Int32) < (4 : Int32)))).2.2.2 (by decide) rfl).iload (pc' := 72) d29_70 rfl rfl
  replace R := (((((R.iload (pc' := 74) d29_72 rfl rfl).icmpN (pc' := 77) d29_74 (tlt (by decide : (0 : Int32) < (4 : Int32))).2.1 rfl).aloadN (pc' := 78) (v := (.ref t)) d29_77 rfl rfl rfl).iloadN (pc' := 79) d29_78 rfl rfl).iload (pc' := 81) d29_79 rfl rfl).iadd (pc' := 82) d29_81 rfl
  replace R := (((((R.stk (S' := [(.int (0 : Int32)), (.ref t)]) rfl).baload (pc' := 83) (v := (.int x0.toInt8.toInt32)) V_t ⟨by decide, by decide⟩ rfl d29_82 rfl).aloadN (pc' := 84) (v := (.ref u)) d29_83 rfl rfl rfl).iloadN (pc' := 85) d29_84 rfl rfl).iload (pc' := 87) d29_85 rfl rfl).iadd (pc' := 88) d29_87 rfl
  replace R := (((((R.stk (S' := [(.int (0 : Int32)), (.ref u), (.int x0.toInt8.toInt32)]) rfl).baload (pc' := 89) (v := (.int x0.toInt8.toInt32)) V_u ⟨by decide, by decide⟩ rfl d29_88 rfl).icmpY (pc' := 95) d29_89 (teq (rfl : x0.toInt8.toInt32 = x0.toInt8.toInt32)).1 (by decide) rfl).iinc (pc' := 98) (l' := #[.val (.ref t), .val (.int (0 : Int32)), .val (.ref u), .val (.int (0 : Int32)), .val (.int (4 : Int32)), .val (.int (1 : Int32)), .unset, .unset]) d29_95 rfl rfl rfl).goto (pc' := 70) d29_98 (by decide) rfl).iload (pc' := 72) d29_70 rfl rfl
  replace R := (((((R.iload (pc' := 74) d29_72 rfl rfl).icmpN (pc' := 77) d29_74 (tlt (by decide : (1 : Int32) < (4 : Int32))).2.1 rfl).aloadN (pc' := 78) (v := (.ref t)) d29_77 rfl rfl rfl).iloadN (pc' := 79) d29_78 rfl rfl).iload (pc' := 81) d29_79 rfl rfl).iadd (pc' := 82) d29_81 rfl
  replace R := (((((R.stk (S' := [(.int (1 : Int32)), (.ref t)]) rfl).baload (pc' := 83) (v := (.int x1.toInt8.toInt32)) V_t ⟨by decide, by decide⟩ rfl d29_82 rfl).aloadN (pc' := 84) (v := (.ref u)) d29_83 rfl rfl rfl).iloadN (pc' := 85) d29_84 rfl rfl).iload (pc' := 87) d29_85 rfl rfl).iadd (pc' := 88) d29_87 rfl
  replace R := (((((R.stk (S' := [(.int (1 : Int32)), (.ref u), (.int x1.toInt8.toInt32)]) rfl).baload (pc' := 89) (v := (.int x1.toInt8.toInt32)) V_u ⟨by decide, by decide⟩ rfl d29_88 rfl).icmpY (pc' := 95) d29_89 (teq (rfl : x1.toInt8.toInt32 = x1.toInt8.toInt32)).1 (by decide) rfl).iinc (pc' := 98) (l' := #[.val (.ref t), .val (.int (0 : Int32)), .val (.ref u), .val (.int (0 : Int32)), .val (.int (4 : Int32)), .val (.int (2 : Int32)), .unset, .unset]) d29_95 rfl rfl rfl).goto (pc' := 70) d29_98 (by decide) rfl).iload (pc' := 72) d29_70 rfl rfl
  replace R := (((((R.iload (pc' := 74) d29_72 rfl rfl).icmpN (pc' := 77) d29_74 (tlt (by decide : (2 : Int32) < (4 : Int32))).2.1 rfl).aloadN (pc' := 78) (v := (.ref t)) d29_77 rfl rfl rfl).iloadN (pc' := 79) d29_78 rfl rfl).iload (pc' := 81) d29_79 rfl rfl).iadd (pc' := 82) d29_81 rfl
  replace R := (((((R.stk (S' := [(.int (2 : Int32)), (.ref t)]) rfl).baload (pc' := 83) (v := (.int x2.toInt8.toInt32)) V_t ⟨by decide, by decide⟩ rfl d29_82 rfl).aloadN (pc' := 84) (v := (.ref u)) d29_83 rfl rfl rfl).iloadN (pc' := 85) d29_84 rfl rfl).iload (pc' := 87) d29_85 rfl rfl).iadd (pc' := 88) d29_87 rfl
  replace R := (((((R.stk (S' := [(.int (2 : Int32)), (.ref u), (.int x2.toInt8.toInt32)]) rfl).baload (pc' := 89) (v := (.int x2.toInt8.toInt32)) V_u ⟨by decide, by decide⟩ rfl d29_88 rfl).icmpY (pc' := 95) d29_89 (teq (rfl : x2.toInt8.toInt32 = x2.toInt8.toInt32)).1 (by decide) rfl).iinc (pc' := 98) (l' := #[.val (.ref t), .val (.int (0 : Int32)), .val (.ref u), .val (.int (0 : Int32)), .val (.int (4 : Int32)), .val (.int (3 : Int32)), .unset, .unset]) d29_95 rfl rfl rfl).goto (pc' := 70) d29_98 (by decide) rfl).iload (pc' := 72) d29_70 rfl rfl
  replace R := (((((R.iload (pc' := 74) d29_72 rfl rfl).icmpN (pc' := 77) d29_74 (tlt (by decide : (3 : Int32) < (4 : Int32))).2.1 rfl).aloadN (pc' := 78) (v := (.ref t)) d29_77 rfl rfl rfl).iloadN (pc' := 79) d29_78 rfl rfl).iload (pc' := 81) d29_79 rfl rfl).iadd (pc' := 82) d29_81 rfl
  replace R := (((((R.stk (S' := [(.int (3 : Int32)), (.ref t)]) rfl).baload (pc' := 83) (v := (.int x3.toInt8.toInt32)) V_t ⟨by decide, by decide⟩ rfl d29_82 rfl).aloadN (pc' := 84) (v := (.ref u)) d29_83 rfl rfl rfl).iloadN (pc' := 85) d29_84 rfl rfl).iload (pc' := 87) d29_85 rfl rfl).iadd (pc' := 88) d29_87 rfl
  replace R := (((((R.stk (S' := [(.int (3 : Int32)), (.ref u), (.int x3.toInt8.toInt32)]) rfl).baload (pc' := 89) (v := (.int x3.toInt8.toInt32)) V_u ⟨by decide, by decide⟩ rfl d29_88 rfl).icmpY (pc' := 95) d29_89 (teq (rfl : x3.toInt8.toInt32 = x3.toInt8.toInt32)).1 (by decide) rfl).iinc (pc' := 98) (l' := #[.val (.ref t), .val (.int (0 : Int32)), .val (.ref u), .val (.int (0 : Int32)), .val (.int (4 : Int32)), .val (.int (4 : Int32)), .unset, .unset]) d29_95 rfl rfl rfl).goto (pc' := 70) d29_98 (by decide) rfl).iload (pc' := 72) d29_70 rfl rfl
  replace R := ((R.iload (pc' := 74) d29_72 rfl rfl).icmpY (pc' := 101) d29_74 (flt (by decide : ¬ ((4 : Int32) < (4 : Int32)))).2.1 (by decide) rfl).iconst (pc' := 102) (z := (-1 : Int32)) d29_101 rfl rfl
  exact R.retI (Ds' := Ds) hret d29_102 (by decide) (by decide) (fun _ q => q) ⟨rfl, rfl, rfl⟩
theorem rm_rme0_4 (l : Launch) (Z : State) (a0 : Array Value) (hw : HW a0 Z) (a b : Addr) (h : Heap) (n0 : Nat) (Ds : List Addr) (own_cs : CompactOn Z) {x0 x1 x2 x3 : Int32} (S_a : IsStr Z h a [x0, x1, x2, x3]) (S_b : IsStr Z h b [x0, x1, x2, x3]) :
    Ctr l Z (⟨"java/lang/String", "regionMatches", "(ILjava/lang/String;II)Z"⟩ : MethodName) jdk_42_method_73_code 8 (some .boolean) [] (rmo 2 0 0 27) #[.ref a, .int (0 : Int32), .ref b, .int (0 : Int32), .int (4 : Int32)] h n0 Ds (fun v h' Ds' => v = some (.int (1 : Int32)) ∧ h = h' ∧ Ds = Ds') := by
  refine ctr_of (Ls := #[.val (.ref a), .val (.int (0 : Int32)), .val (.ref b), .val (.int (0 : Int32)), .val (.int (4 : Int32)), .unset, .unset, .unset]) (plainFor_of_name pn0) (fun m => by first | (simp [entryFrame, mkF, argsToLocals, Value.category]; done) | rfl) ?_
  intro C hl hret hnm R
  subst hl
  have S_0 := S_a
  have S_1 := S_b
  obtain ⟨e1, e2, e3, e4, t, kt, e5, e6⟩ := S_a
  have e7 : Arv Z h t kt .byte (4 : Int32) [(.int x0.toInt8.toInt32), (.int x1.toInt8.toInt32), (.int x2.toInt8.toInt32), (.int x3.toInt8.toInt32)] (.int 0) := e6
  have hok := e3
  obtain ⟨e1_b, e2_b, e3_b, e4_b, t_b, kt_b, e5_b, e6_b⟩ := S_b
  have e7_b : Arv Z h t_b kt_b .byte (4 : Int32) [(.int x0.toInt8.toInt32), (.int x1.toInt8.toInt32), (.int x2.toInt8.toInt32), (.int x3.toInt8.toInt32)] (.int 0) := e6_b
  have hoy := e3_b
  replace R := (((((R.iloadN (pc' := 1) d17_0 rfl rfl).ifN (pc' := 4) d17_1 (flt (by decide : ¬ ((0 : Int32) < (0 : Int32)))).1 rfl).iloadN (pc' := 5) d17_4 rfl rfl).ifN (pc' := 8) d17_5 (flt (by decide : ¬ ((0 : Int32) < (0 : Int32)))).1 rfl).iloadN (pc' := 9) d17_8 rfl rfl).i2l (pc' := 10) d17_9 rfl
  replace R := (R.stk (S' := [(.long (0 : Int64))]) rfl).aloadN (pc' := 11) (v := (.ref a)) d17_10 rfl rfl rfl
  replace R := own_pure (R.callV (pc' := 14) (y := (⟨"java/lang/String", "length", "()I"⟩ : MethodName)) (z := (⟨"java/lang/String", "length", "()I"⟩ : MethodName)) (argsL := []) (rest := [(.long (0 : Int64))]) (W := 2) (w55 hw) (w56 hw) (fun s' hZ' => notFace_of_selects (args := #[]) (mvT hZ' (w58 hw))) (w58 hw) (w57 hw) (w7 hw) (w59 hw) (by decide) e1 (rm_length C.l Z a0 hw a h n0 Ds own_cs S_0) rfl (lenOf pd6 rfl) rfl rfl d17_11 (by decide) (by decide) (by decide) (by decide) rfl)
  replace R := (((((R.i2l (pc' := 15) d17_14 rfl).stk (S' := [(.long (4 : Int64)), (.long (0 : Int64))]) rfl).iload (pc' := 17) d17_15 rfl rfl).i2l (pc' := 18) d17_17 rfl).stk (S' := [(.long (4 : Int64)), (.long (4 : Int64)), (.long (0 : Int64))]) rfl).lsub (pc' := 19) d17_18 rfl
  replace R := (((((R.stk (S' := [(.long (0 : Int64)), (.long (0 : Int64))]) rfl).lcmp (pc' := 20) d17_19 rfl).stk (S' := [(.int (0 : Int32))]) rfl).ifN (pc' := 23) d17_20 (flt (by decide : ¬ ((0 : Int32) < (0 : Int32)))).2.2.1 rfl).iloadN (pc' := 24) d17_23 rfl rfl).i2l (pc' := 25) d17_24 rfl
  replace R := (R.stk (S' := [(.long (0 : Int64))]) rfl).aloadN (pc' := 26) (v := (.ref b)) d17_25 rfl rfl rfl
  replace R := own_pure (R.callV (pc' := 29) (y := (⟨"java/lang/String", "length", "()I"⟩ : MethodName)) (z := (⟨"java/lang/String", "length", "()I"⟩ : MethodName)) (argsL := []) (rest := [(.long (0 : Int64))]) (W := 2) (w55 hw) (w56 hw) (fun s' hZ' => notFace_of_selects (args := #[]) (mvT hZ' (w58 hw))) (w58 hw) (w57 hw) (w7 hw) (w59 hw) (by decide) e1_b (rm_length C.l Z a0 hw b h n0 Ds own_cs S_1) rfl (lenOf pd6 rfl) rfl rfl d17_26 (by decide) (by decide) (by decide) (by decide) rfl)
  replace R := (((((R.i2l (pc' := 30) d17_29 rfl).stk (S' := [(.long (4 : Int64)), (.long (0 : Int64))]) rfl).iload (pc' := 32) d17_30 rfl rfl).i2l (pc' := 33) d17_32 rfl).stk (S' := [(.long (4 : Int64)), (.long (4 : Int64)), (.long (0 : Int64))]) rfl).lsub (pc' := 34) d17_33 rfl
  replace R := (((((R.stk (S' := [(.long (0 : Int64)), (.long (0 : Int64))]) rfl).lcmp (pc' := 35) d17_34 rfl).stk (S' := [(.int (0 : Int32))]) rfl).ifY (pc' := 40) d17_35 (flt (by decide : ¬ ((0 : Int32) < (0 : Int32)))).2.2.2 (by decide) rfl).iload (pc' := 42) d17_40 rfl rfl).ifY (pc' := 47) d17_42 (tlt (by decide : (0 : Int32) < (4 : Int32))).2.2.1 (by decide) rfl
  replace R := (((((R.aloadN (pc' := 48) (v := (.ref a)) d17_47 rfl rfl rfl).getF (pc' := 51) (host := "") (Or.inl (w32 hw)) Via.refl e5 d17_48 rfl).astore (pc' := 53) (l' := #[.val (.ref a), .val (.int (0 : Int32)), .val (.ref b), .val (.int (0 : Int32)), .val (.int (4 : Int32)), .val (.ref t), .unset, .unset]) d17_51 rfl rfl rfl).aloadN (pc' := 54) (v := (.ref b)) d17_53 rfl rfl rfl).getF (pc' := 57) (host := "") (Or.inl (w32 hw)) Via.refl e5_b d17_54 rfl).astore (pc' := 59) (l' := #[.val (.ref a), .val (.int (0 : Int32)), .val (.ref b), .val (.int (0 : Int32)), .val (.int (4 : Int32)), .val (.ref t), .val (.ref t_b), .unset]) d17_57 rfl rfl rfl
  replace R := R.aloadN (pc' := 60) (v := (.ref a)) d17_59 rfl rfl rfl
  replace R := own_pure (R.callV (pc' := 63) (y := (⟨"java/lang/String", "coder", "()B"⟩ : MethodName)) (z := (⟨"java/lang/String", "coder", "()B"⟩ : MethodName)) (argsL := []) (rest := []) (W := 0) (w60 hw) (w61 hw) (fun s' hZ' => notFace_of_selects (args := #[]) (mvT hZ' (w63 hw))) (w63 hw) (w62 hw) (w7 hw) (w64 hw) (by decide) e1 (rm_coder C.l Z a0 hw a h n0 Ds own_cs e2) rfl (lenOf pd0 rfl) rfl rfl d17_60 (by decide) (by decide) (by decide) (by decide) rfl)
  replace R := ((R.istore (pc' := 65) (l' := #[.val (.ref a), .val (.int (0 : Int32)), .val (.ref b), .val (.int (0 : Int32)), .val (.int (4 : Int32)), .val (.ref t), .val (.ref t_b), .val (.int (0 : Int32))]) d17_63 rfl rfl).iload (pc' := 67) d17_65 rfl rfl).aloadN (pc' := 68) (v := (.ref b)) d17_67 rfl rfl rfl
  replace R := own_pure (R.callV (pc' := 71) (y := (⟨"java/lang/String", "coder", "()B"⟩ : MethodName)) (z := (⟨"java/lang/String", "coder", "()B"⟩ : MethodName)) (argsL := []) (rest := [(.int (0 : Int32))]) (W := 1) (w60 hw) (w61 hw) (fun s' hZ' => notFace_of_selects (args := #[]) (mvT hZ' (w63 hw))) (w63 hw) (w62 hw) (w7 hw) (w64 hw) (by decide) e1_b (rm_coder C.l Z a0 hw b h n0 Ds own_cs e2_b) rfl (lenOf pd0 rfl) rfl rfl d17_68 (by decide) (by decide) (by decide) (by decide) rfl)
  replace R := (((((R.icmpN (pc' := 74) d17_71 (teq (by decide : (0 : Int32) = (0 : Int32))).2 rfl).iload (pc' := 76) d17_74 rfl rfl).iconst (pc' := 77) (z := (1 : Int32)) d17_76 rfl rfl).icmpY (pc' := 94) d17_77 (feq (by decide : ¬ ((0 : Int32) = (1 : Int32)))).2 (by decide) rfl).aload (pc' := 96) (v := (.ref t)) d17_94 rfl rfl rfl).iloadN (pc' := 97) d17_96 rfl rfl
  replace R := ((R.aload (pc' := 99) (v := (.ref t_b)) d17_97 rfl rfl rfl).iloadN (pc' := 100) d17_99 rfl rfl).iload (pc' := 102) d17_100 rfl rfl
  replace R := own_pure (R.callS (pc' := 105) (argsL := [(.ref t), (.int (0 : Int32)), (.ref t_b), (.int (0 : Int32)), (.int (4 : Int32))]) (rest := []) (W := 0) (w135 hw) (w136 hw) (w137 hw) (w138 hw) (by decide) (rm_mme0_4 C.l Z a0 hw h n0 Ds hok hoy e7 e7_b) rfl (lenOf pd12 rfl) rfl rfl d17_102 (by decide) (by decide) (by decide) (by decide) rfl)
  replace R := ((R.ifN (pc' := 108) d17_105 (tlt (by decide : (-1 : Int32) < (0 : Int32))).2.1 rfl).iconst (pc' := 109) (z := (1 : Int32)) d17_108 rfl rfl).goto (pc' := 113) d17_109 (by decide) rfl
  exact R.retN (Ds' := Ds) hret (by simp) (show nar .boolean (1 : Int32) = (1 : Int32) from rfl) d17_113 (by decide) (by decide) (fun _ q => q) ⟨rfl, rfl, rfl⟩
theorem rm_mmn0_4 (l : Launch) (Z : State) (a0 : Array Value) (hw : HW a0 Z) (h : Heap) (n0 : Nat) (Ds : List Addr) {x0 x1 x2 x3 : Int32} {y0 y1 y2 y3 : Int32} (hok : ∀ c ∈ ([x0, x1, x2, x3] : List Int32), ¬ c < 0 ∧ ¬ (255 : Int32) < c) (hoy : ∀ c ∈ ([y0, y1, y2, y3] : List Int32), ¬ c < 0 ∧ ¬ (255 : Int32) < c) {t : Addr} {kt : ClassId} (V_t : Arv Z h t kt .byte (4 : Int32) [(.int x0.toInt8.toInt32), (.int x1.toInt8.toInt32), (.int x2.toInt8.toInt32), (.int x3.toInt8.toInt32)] (.int 0)) {u : Addr} {ku : ClassId} (V_u : Arv Z h u ku .byte (4 : Int32) [(.int y0.toInt8.toInt32), (.int y1.toInt8.toInt32), (.int y2.toInt8.toInt32), (.int y3.toInt8.toInt32)] (.int 0)) (hne : ¬ ([x0, x1, x2, x3] : List Int32) = [y0, y1, y2, y3]) :
    Ctr l Z (⟨"jdk/internal/util/ArraysSupport", "mismatch", "([BI[BII)I"⟩ : MethodName) jdk_48_method_14_code 8 (some .int) [] (rmo 0 0 0 0) #[.ref t, .int (0 : Int32), .ref u, .int (0 : Int32), .int (4 : Int32)] h n0 Ds (fun v h' Ds' => ∃ z : Int32, v = some (.int z) ∧ ¬ z < 0 ∧ h = h' ∧ Ds = Ds') := by
  refine ctr_of (Ls := #[.val (.ref t), .val (.int (0 : Int32)), .val (.ref u), .val (.int (0 : Int32)), .val (.int (4 : Int32)), .unset, .unset, .unset]) (plainFor_of_name pn4) (fun m => by first | (simp [entryFrame, mkF, argsToLocals, Value.category]; done) | rfl) ?_
  intro C hl hret hnm R
  subst hl
  replace R := (((((R.iconst (pc' := 1) (z := (0 : Int32)) d29_0 rfl rfl).istore (pc' := 3) (l' := #[.val (.ref t), .val (.int (0 : Int32)), .val (.ref u), .val (.int (0 : Int32)), .val (.int (4 : Int32)), .val (.int (0 : Int32)), .unset, .unset]) d29_1 rfl rfl).iload (pc' := 5) d29_3 rfl rfl).bipush (pc' := 7) (z := (7 : Int32)) d29_5 rfl rfl).icmpY (pc' := 70) d29_7 (flt (by decide : ¬ ((7 : Int32) < (4 : Int32)))).2.2.2 (by decide) rfl).iload (pc' := 72) d29_70 rfl rfl
  replace R := (((((R.iload (pc' := 74) d29_72 rfl rfl).icmpN (pc' := 77) d29_74 (tlt (by decide : (0 : Int32) < (4 : Int32))).2.1 rfl).aloadN (pc' := 78) (v := (.ref t)) d29_77 rfl rfl rfl).iloadN (pc' := 79) d29_78 rfl rfl).iload (pc' := 81) d29_79 rfl rfl).iadd (pc' := 82) d29_81 rfl
  replace R := (((((R.stk (S' := [(.int (0 : Int32)), (.ref t)]) rfl).baload (pc' := 83) (v := (.int x0.toInt8.toInt32)) V_t ⟨by decide, by decide⟩ rfl d29_82 rfl).aloadN (pc' := 84) (v := (.ref u)) d29_83 rfl rfl rfl).iloadN (pc' := 85) d29_84 rfl rfl).iload (pc' := 87) d29_85 rfl rfl).iadd (pc' := 88) d29_87 rfl
  replace R := (R.stk (S' := [(.int (0 : Int32)), (.ref u), (.int x0.toInt8.toInt32)]) rfl).baload (pc' := 89) (v := (.int y0.toInt8.toInt32)) V_u ⟨by decide, by decide⟩ rfl d29_88 rfl
  by_cases hc1 : x0.toInt8.toInt32 = y0.toInt8.toInt32
  · replace R := R.icmpY (pc' := 95) d29_89 (teq hc1).1 (by decide) rfl
    replace R := (((((R.iinc (pc' := 98) (l' := #[.val (.ref t), .val (.int (0 : Int32)), .val (.ref u), .val (.int (0 : Int32)), .val (.int (4 : Int32)), .val (.int (1 : Int32)), .unset, .unset]) d29_95 rfl rfl rfl).goto (pc' := 70) d29_98 (by decide) rfl).iload (pc' := 72) d29_70 rfl rfl).iload (pc' := 74) d29_72 rfl rfl).icmpN (pc' := 77) d29_74 (tlt (by decide : (1 : Int32) < (4 : Int32))).2.1 rfl).aloadN (pc' := 78) (v := (.ref t)) d29_77 rfl rfl rfl
    replace R := (((((R.iloadN (pc' := 79) d29_78 rfl rfl).iload (pc' := 81) d29_79 rfl rfl).iadd (pc' := 82) d29_81 rfl).stk (S' := [(.int (1 : Int32)), (.ref t)]) rfl).baload (pc' := 83) (v := (.int x1.toInt8.toInt32)) V_t ⟨by decide, by decide⟩ rfl d29_82 rfl).aloadN (pc' := 84) (v := (.ref u)) d29_83 rfl rfl rfl
    replace R := ((((R.iloadN (pc' := 85) d29_84 rfl rfl).iload (pc' := 87) d29_85 rfl rfl).iadd (pc' := 88) d29_87 rfl).stk (S' := [(.int (1 : Int32)), (.ref u), (.int x1.toInt8.toInt32)]) rfl).baload (pc' := 89) (v := (.int y1.toInt8.toInt32)) V_u ⟨by decide, by decide⟩ rfl d29_88 rfl
    by_cases hc2 : x1.toInt8.toInt32 = y1.toInt8.toInt32
    · replace R := R.icmpY (pc' := 95) d29_89 (teq hc2).1 (by decide) rfl
      replace R := (((((R.iinc (pc' := 98) (l' := #[.val (.ref t), .val (.int (0 : Int32)), .val (.ref u), .val (.int (0 : Int32)), .val (.int (4 : Int32)), .val (.int (2 : Int32)), .unset, .unset]) d29_95 rfl rfl rfl).goto (pc' := 70) d29_98 (by decide) rfl).iload (pc' := 72) d29_70 rfl rfl).iload (pc' := 74) d29_72 rfl rfl).icmpN (pc' := 77) d29_74 (tlt (by decide : (2 : Int32) < (4 : Int32))).2.1 rfl).aloadN (pc' := 78) (v := (.ref t)) d29_77 rfl rfl rfl
      replace R := (((((R.iloadN (pc' := 79) d29_78 rfl rfl).iload (pc' := 81) d29_79 rfl rfl).iadd (pc' := 82) d29_81 rfl).stk (S' := [(.int (2 : Int32)), (.ref t)]) rfl).baload (pc' := 83) (v := (.int x2.toInt8.toInt32)) V_t ⟨by decide, by decide⟩ rfl d29_82 rfl).aloadN (pc' := 84) (v := (.ref u)) d29_83 rfl rfl rfl
      replace R := ((((R.iloadN (pc' := 85) d29_84 rfl rfl).iload (pc' := 87) d29_85 rfl rfl).iadd (pc' := 88) d29_87 rfl).stk (S' := [(.int (2 : Int32)), (.ref u), (.int x2.toInt8.toInt32)]) rfl).baload (pc' := 89) (v := (.int y2.toInt8.toInt32)) V_u ⟨by decide, by decide⟩ rfl d29_88 rfl
      by_cases hc3 : x2.toInt8.toInt32 = y2.toInt8.toInt32
      · replace R := R.icmpY (pc' := 95) d29_89 (teq hc3).1 (by decide) rfl
        replace R := (((((R.iinc (pc' := 98) (l' := #[.val (.ref t), .val (.int (0 : Int32)), .val (.ref u), .val (.int (0 : Int32)), .val (.int (4 : Int32)), .val (.int (3 : Int32)), .unset, .unset]) d29_95 rfl rfl rfl).goto (pc' := 70) d29_98 (by decide) rfl).iload (pc' := 72) d29_70 rfl rfl).iload (pc' := 74) d29_72 rfl rfl).icmpN (pc' := 77) d29_74 (tlt (by decide : (3 : Int32) < (4 : Int32))).2.1 rfl).aloadN (pc' := 78) (v := (.ref t)) d29_77 rfl rfl rfl
        replace R := (((((R.iloadN (pc' := 79) d29_78 rfl rfl).iload (pc' := 81) d29_79 rfl rfl).iadd (pc' := 82) d29_81 rfl).stk (S' := [(.int (3 : Int32)), (.ref t)]) rfl).baload (pc' := 83) (v := (.int x3.toInt8.toInt32)) V_t ⟨by decide, by decide⟩ rfl d29_82 rfl).aloadN (pc' := 84) (v := (.ref u)) d29_83 rfl rfl rfl
        replace R := ((((R.iloadN (pc' := 85) d29_84 rfl rfl).iload (pc' := 87) d29_85 rfl rfl).iadd (pc' := 88) d29_87 rfl).stk (S' := [(.int (3 : Int32)), (.ref u), (.int x3.toInt8.toInt32)]) rfl).baload (pc' := 89) (v := (.int y3.toInt8.toInt32)) V_u ⟨by decide, by decide⟩ rfl d29_88 rfl
        by_cases hc4 : x3.toInt8.toInt32 = y3.toInt8.toInt32
        · replace R := R.icmpY (pc' := 95) d29_89 (teq hc4).1 (by decide) rfl
          replace R := (((((R.iinc (pc' := 98) (l' := #[.val (.ref t), .val (.int (0 : Int32)), .val (.ref u), .val (.int (0 : Int32)), .val (.int (4 : Int32)), .val (.int (4 : Int32)), .unset, .unset]) d29_95 rfl rfl rfl).goto (pc' := 70) d29_98 (by decide) rfl).iload (pc' := 72) d29_70 rfl rfl).iload (pc' := 74) d29_72 rfl rfl).icmpY (pc' := 101) d29_74 (flt (by decide : ¬ ((4 : Int32) < (4 : Int32)))).2.1 (by decide) rfl).iconst (pc' := 102) (z := (-1 : Int32)) d29_101 rfl rfl
          exact absurd (show ([x0, x1, x2, x3] : List Int32) = [y0, y1, y2, y3] by rw [sbyte (hok x0 (List.mem_of_getElem? (i := 0) rfl)) (hoy y0 (List.mem_of_getElem? (i := 0) rfl)) hc1, sbyte (hok x1 (List.mem_of_getElem? (i := 1) rfl)) (hoy y1 (List.mem_of_getElem? (i := 1) rfl)) hc2, sbyte (hok x2 (List.mem_of_getElem? (i := 2) rfl)) (hoy y2 (List.mem_of_getElem? (i := 2) rfl)) hc3, sbyte (hok x3 (List.mem_of_getElem? (i := 3) rfl)) (hoy y3 (List.mem_of_getElem? (i := 3) rfl)) hc4]) hne
        · replace R := R.icmpN (pc' := 92) d29_89 (feq hc4).1 rfl
          replace R := R.iload (pc' := 94) d29_92 rfl rfl
          exact R.retI (Ds' := Ds) hret d29_94 (by decide) (by decide) (fun _ q => q) ⟨_, rfl, by decide, rfl, rfl⟩
      · replace R := R.icmpN (pc' := 92) d29_89 (feq hc3).1 rfl
        replace R := R.iload (pc' := 94) d29_92 rfl rfl
        exact R.retI (Ds' := Ds) hret d29_94 (by decide) (by decide) (fun _ q => q) ⟨_, rfl, by decide, rfl, rfl⟩
    · replace R := R.icmpN (pc' := 92) d29_89 (feq hc2).1 rfl
      replace R := R.iload (pc' := 94) d29_92 rfl rfl
      exact R.retI (Ds' := Ds) hret d29_94 (by decide) (by decide) (fun _ q => q) ⟨_, rfl, by decide, rfl, rfl⟩
  · replace R := R.icmpN (pc' := 92) d29_89 (feq hc1).1 rfl
    replace R := R.iload (pc' := 94) d29_92 rfl rfl
    exact R.retI (Ds' := Ds) hret d29_94 (by decide) (by decide) (fun _ q => q) ⟨_, rfl, by decide, rfl, rfl⟩
theorem rm_rmn0_4 (l : Launch) (Z : State) (a0 : Array Value) (hw : HW a0 Z) (a b : Addr) (h : Heap) (n0 : Nat) (Ds : List Addr) (own_cs : CompactOn Z) {x0 x1 x2 x3 : Int32} {y0 y1 y2 y3 : Int32} (S_a : IsStr Z h a [x0, x1, x2, x3]) (S_b : IsStr Z h b [y0, y1, y2, y3]) (hne : ¬ ([x0, x1, x2, x3] : List Int32) = [y0, y1, y2, y3]) :
    Ctr l Z (⟨"java/lang/String", "regionMatches", "(ILjava/lang/String;II)Z"⟩ : MethodName) jdk_42_method_73_code 8 (some .boolean) [] (rmo 2 0 0 27) #[.ref a, .int (0 : Int32), .ref b, .int (0 : Int32), .int (4 : Int32)] h n0 Ds (fun v h' Ds' => v = some (.int (0 : Int32)) ∧ h = h' ∧ Ds = Ds') := by
  refine ctr_of (Ls := #[.val (.ref a), .val (.int (0 : Int32)), .val (.ref b), .val (.int (0 : Int32)), .val (.int (4 : Int32)), .unset, .unset, .unset]) (plainFor_of_name pn0) (fun m => by first | (simp [entryFrame, mkF, argsToLocals, Value.category]; done) | rfl) ?_
  intro C hl hret hnm R
  subst hl
  have S_0 := S_a
  have S_1 := S_b
  obtain ⟨e1, e2, e3, e4, t, kt, e5, e6⟩ := S_a
  have e7 : Arv Z h t kt .byte (4 : Int32) [(.int x0.toInt8.toInt32), (.int x1.toInt8.toInt32), (.int x2.toInt8.toInt32), (.int x3.toInt8.toInt32)] (.int 0) := e6
  have hok := e3
  obtain ⟨e1_b, e2_b, e3_b, e4_b, t_b, kt_b, e5_b, e6_b⟩ := S_b
  have e7_b : Arv Z h t_b kt_b .byte (4 : Int32) [(.int y0.toInt8.toInt32), (.int y1.toInt8.toInt32), (.int y2.toInt8.toInt32), (.int y3.toInt8.toInt32)] (.int 0) := e6_b
  have hoy := e3_b
  replace R := (((((R.iloadN (pc' := 1) d17_0 rfl rfl).ifN (pc' := 4) d17_1 (flt (by decide : ¬ ((0 : Int32) < (0 : Int32)))).1 rfl).iloadN (pc' := 5) d17_4 rfl rfl).ifN (pc' := 8) d17_5 (flt (by decide : ¬ ((0 : Int32) < (0 : Int32)))).1 rfl).iloadN (pc' := 9) d17_8 rfl rfl).i2l (pc' := 10) d17_9 rfl
  replace R := (R.stk (S' := [(.long (0 : Int64))]) rfl).aloadN (pc' := 11) (v := (.ref a)) d17_10 rfl rfl rfl
  replace R := own_pure (R.callV (pc' := 14) (y := (⟨"java/lang/String", "length", "()I"⟩ : MethodName)) (z := (⟨"java/lang/String", "length", "()I"⟩ : MethodName)) (argsL := []) (rest := [(.long (0 : Int64))]) (W := 2) (w55 hw) (w56 hw) (fun s' hZ' => notFace_of_selects (args := #[]) (mvT hZ' (w58 hw))) (w58 hw) (w57 hw) (w7 hw) (w59 hw) (by decide) e1 (rm_length C.l Z a0 hw a h n0 Ds own_cs S_0) rfl (lenOf pd6 rfl) rfl rfl d17_11 (by decide) (by decide) (by decide) (by decide) rfl)
  replace R := (((((R.i2l (pc' := 15) d17_14 rfl).stk (S' := [(.long (4 : Int64)), (.long (0 : Int64))]) rfl).iload (pc' := 17) d17_15 rfl rfl).i2l (pc' := 18) d17_17 rfl).stk (S' := [(.long (4 : Int64)), (.long (4 : Int64)), (.long (0 : Int64))]) rfl).lsub (pc' := 19) d17_18 rfl
  replace R := (((((R.stk (S' := [(.long (0 : Int64)), (.long (0 : Int64))]) rfl).lcmp (pc' := 20) d17_19 rfl).stk (S' := [(.int (0 : Int32))]) rfl).ifN (pc' := 23) d17_20 (flt (by decide : ¬ ((0 : Int32) < (0 : Int32)))).2.2.1 rfl).iloadN (pc' := 24) d17_23 rfl rfl).i2l (pc' := 25) d17_24 rfl
  replace R := (R.stk (S' := [(.long (0 : Int64))]) rfl).aloadN (pc' := 26) (v := (.ref b)) d17_25 rfl rfl rfl
  replace R := own_pure (R.callV (pc' := 29) (y := (⟨"java/lang/String", "length", "()I"⟩ : MethodName)) (z := (⟨"java/lang/String", "length", "()I"⟩ : MethodName)) (argsL := []) (rest := [(.long (0 : Int64))]) (W := 2) (w55 hw) (w56 hw) (fun s' hZ' => notFace_of_selects (args := #[]) (mvT hZ' (w58 hw))) (w58 hw) (w57 hw) (w7 hw) (w59 hw) (by decide) e1_b (rm_length C.l Z a0 hw b h n0 Ds own_cs S_1) rfl (lenOf pd6 rfl) rfl rfl d17_26 (by decide) (by decide) (by decide) (by decide) rfl)
  replace R := (((((R.i2l (pc' := 30) d17_29 rfl).stk (S' := [(.long (4 : Int64)), (.long (0 : Int64))]) rfl).iload (pc' := 32) d17_30 rfl rfl).i2l (pc' := 33) d17_32 rfl).stk (S' := [(.long (4 : Int64)), (.long (4 : Int64)), (.long (0 : Int64))]) rfl).lsub (pc' := 34) d17_33 rfl
  replace R := (((((R.stk (S' := [(.long (0 : Int64)), (.long (0 : Int64))]) rfl).lcmp (pc' := 35) d17_34 rfl).stk (S' := [(.int (0 : Int32))]) rfl).ifY (pc' := 40) d17_35 (flt (by decide : ¬ ((0 : Int32) < (0 : Int32)))).2.2.2 (by decide) rfl).iload (pc' := 42) d17_40 rfl rfl).ifY (pc' := 47) d17_42 (tlt (by decide : (0 : Int32) < (4 : Int32))).2.2.1 (by decide) rfl
  replace R := (((((R.aloadN (pc' := 48) (v := (.ref a)) d17_47 rfl rfl rfl).getF (pc' := 51) (host := "") (Or.inl (w32 hw)) Via.refl e5 d17_48 rfl).astore (pc' := 53) (l' := #[.val (.ref a), .val (.int (0 : Int32)), .val (.ref b), .val (.int (0 : Int32)), .val (.int (4 : Int32)), .val (.ref t), .unset, .unset]) d17_51 rfl rfl rfl).aloadN (pc' := 54) (v := (.ref b)) d17_53 rfl rfl rfl).getF (pc' := 57) (host := "") (Or.inl (w32 hw)) Via.refl e5_b d17_54 rfl).astore (pc' := 59) (l' := #[.val (.ref a), .val (.int (0 : Int32)), .val (.ref b), .val (.int (0 : Int32)), .val (.int (4 : Int32)), .val (.ref t), .val (.ref t_b), .unset]) d17_57 rfl rfl rfl
  replace R := R.aloadN (pc' := 60) (v := (.ref a)) d17_59 rfl rfl rfl
  replace R := own_pure (R.callV (pc' := 63) (y := (⟨"java/lang/String", "coder", "()B"⟩ : MethodName)) (z := (⟨"java/lang/String", "coder", "()B"⟩ : MethodName)) (argsL := []) (rest := []) (W := 0) (w60 hw) (w61 hw) (fun s' hZ' => notFace_of_selects (args := #[]) (mvT hZ' (w63 hw))) (w63 hw) (w62 hw) (w7 hw) (w64 hw) (by decide) e1 (rm_coder C.l Z a0 hw a h n0 Ds own_cs e2) rfl (lenOf pd0 rfl) rfl rfl d17_60 (by decide) (by decide) (by decide) (by decide) rfl)
  replace R := ((R.istore (pc' := 65) (l' := #[.val (.ref a), .val (.int (0 : Int32)), .val (.ref b), .val (.int (0 : Int32)), .val (.int (4 : Int32)), .val (.ref t), .val (.ref t_b), .val (.int (0 : Int32))]) d17_63 rfl rfl).iload (pc' := 67) d17_65 rfl rfl).aloadN (pc' := 68) (v := (.ref b)) d17_67 rfl rfl rfl
  replace R := own_pure (R.callV (pc' := 71) (y := (⟨"java/lang/String", "coder", "()B"⟩ : MethodName)) (z := (⟨"java/lang/String", "coder", "()B"⟩ : MethodName)) (argsL := []) (rest := [(.int (0 : Int32))]) (W := 1) (w60 hw) (w61 hw) (fun s' hZ' => notFace_of_selects (args := #[]) (mvT hZ' (w63 hw))) (w63 hw) (w62 hw) (w7 hw) (w64 hw) (by decide) e1_b (rm_coder C.l Z a0 hw b h n0 Ds own_cs e2_b) rfl (lenOf pd0 rfl) rfl rfl d17_68 (by decide) (by decide) (by decide) (by decide) rfl)
  replace R := (((((R.icmpN (pc' := 74) d17_71 (teq (by decide : (0 : Int32) = (0 : Int32))).2 rfl).iload (pc' := 76) d17_74 rfl rfl).iconst (pc' := 77) (z := (1 : Int32)) d17_76 rfl rfl).icmpY (pc' := 94) d17_77 (feq (by decide : ¬ ((0 : Int32) = (1 : Int32)))).2 (by decide) rfl).aload (pc' := 96) (v := (.ref t)) d17_94 rfl rfl rfl).iloadN (pc' := 97) d17_96 rfl rfl
  replace R := ((R.aload (pc' := 99) (v := (.ref t_b)) d17_97 rfl rfl rfl).iloadN (pc' := 100) d17_99 rfl rfl).iload (pc' := 102) d17_100 rfl rfl
  obtain ⟨_, _, _, ⟨zz, rfl, hzz, rfl, rfl⟩, R⟩ := R.callS (pc' := 105) (argsL := [(.ref t), (.int (0 : Int32)), (.ref t_b), (.int (0 : Int32)), (.int (4 : Int32))]) (rest := []) (W := 0) (w135 hw) (w136 hw) (w137 hw) (w138 hw) (by decide) (rm_mmn0_4 C.l Z a0 hw h n0 Ds hok hoy e7 e7_b hne) rfl (lenOf pd12 rfl) rfl rfl d17_102 (by decide) (by decide) (by decide) (by decide) rfl
  replace R := (((R.mono (ce' := 0) (sl' := 0) (by decide) (by decide)).stk (S' := [(.int zz)]) rfl).ifY (pc' := 112) d17_105 (flt hzz).2.1 (by decide) rfl).iconst (pc' := 113) (z := (0 : Int32)) d17_112 rfl rfl
  exact R.retN (Ds' := Ds) hret (by simp) (show nar .boolean (0 : Int32) = (0 : Int32) from rfl) d17_113 (by decide) (by decide) (fun _ q => q) ⟨rfl, rfl, rfl⟩
theorem rm_rme1_1 (l : Launch) (Z : State) (a0 : Array Value) (hw : HW a0 Z) (a b : Addr) (h : Heap) (n0 : Nat) (Ds : List Addr) (own_cs : CompactOn Z) {x0 x1 x2 x3 : Int32} (S_a : IsStr Z h a [x0, x1, x2, x3]) (S_b : IsStr Z h b []) :
    Ctr l Z (⟨"java/lang/String", "regionMatches", "(ILjava/lang/String;II)Z"⟩ : MethodName) jdk_42_method_73_code 8 (some .boolean) [] (rmo 2 0 0 27) #[.ref a, .int (1 : Int32), .ref b, .int (0 : Int32), .int (0 : Int32)] h n0 Ds (fun v h' Ds' => v = some (.int (1 : Int32)) ∧ h = h' ∧ Ds = Ds') := by
  refine ctr_of (Ls := #[.val (.ref a), .val (.int (1 : Int32)), .val (.ref b), .val (.int (0 : Int32)), .val (.int (0 : Int32)), .unset, .unset, .unset]) (plainFor_of_name pn0) (fun m => by first | (simp [entryFrame, mkF, argsToLocals, Value.category]; done) | rfl) ?_
  intro C hl hret hnm R
  subst hl
  have S_0 := S_a
  have S_1 := S_b
  obtain ⟨e1, e2, e3, e4, t, kt, e5, e6⟩ := S_a
  have e7 : Arv Z h t kt .byte (4 : Int32) [(.int x0.toInt8.toInt32), (.int x1.toInt8.toInt32), (.int x2.toInt8.toInt32), (.int x3.toInt8.toInt32)] (.int 0) := e6
  have hok := e3
  obtain ⟨e1_b, e2_b, e3_b, e4_b, t_b, kt_b, e5_b, e6_b⟩ := S_b
  have e7_b : Arv Z h t_b kt_b .byte (0 : Int32) [] (.int 0) := e6_b
  have hoy := e3_b
  replace R := (((((R.iloadN (pc' := 1) d17_0 rfl rfl).ifN (pc' := 4) d17_1 (flt (by decide : ¬ ((0 : Int32) < (0 : Int32)))).1 rfl).iloadN (pc' := 5) d17_4 rfl rfl).ifN (pc' := 8) d17_5 (flt (by decide : ¬ ((1 : Int32) < (0 : Int32)))).1 rfl).iloadN (pc' := 9) d17_8 rfl rfl).i2l (pc' := 10) d17_9 rfl
  replace R := (R.stk (S' := [(.long (1 : Int64))]) rfl).aloadN (pc' := 11) (v := (.ref a)) d17_10 rfl rfl rfl
  replace R := own_pure (R.callV (pc' := 14) (y := (⟨"java/lang/String", "length", "()I"⟩ : MethodName)) (z := (⟨"java/lang/String", "length", "()I"⟩ : MethodName)) (argsL := []) (rest := [(.long (1 : Int64))]) (W := 2) (w55 hw) (w56 hw) (fun s' hZ' => notFace_of_selects (args := #[]) (mvT hZ' (w58 hw))) (w58 hw) (w57 hw) (w7 hw) (w59 hw) (by decide) e1 (rm_length C.l Z a0 hw a h n0 Ds own_cs S_0) rfl (lenOf pd6 rfl) rfl rfl d17_11 (by decide) (by decide) (by decide) (by decide) rfl)
  replace R := (((((R.i2l (pc' := 15) d17_14 rfl).stk (S' := [(.long (4 : Int64)), (.long (1 : Int64))]) rfl).iload (pc' := 17) d17_15 rfl rfl).i2l (pc' := 18) d17_17 rfl).stk (S' := [(.long (0 : Int64)), (.long (4 : Int64)), (.long (1 : Int64))]) rfl).lsub (pc' := 19) d17_18 rfl
  replace R := (((((R.stk (S' := [(.long (4 : Int64)), (.long (1 : Int64))]) rfl).lcmp (pc' := 20) d17_19 rfl).stk (S' := [(.int (-1 : Int32))]) rfl).ifN (pc' := 23) d17_20 (flt (by decide : ¬ ((0 : Int32) < (-1 : Int32)))).2.2.1 rfl).iloadN (pc' := 24) d17_23 rfl rfl).i2l (pc' := 25) d17_24 rfl
  replace R := (R.stk (S' := [(.long (0 : Int64))]) rfl).aloadN (pc' := 26) (v := (.ref b)) d17_25 rfl rfl rfl
  replace R := own_pure (R.callV (pc' := 29) (y := (⟨"java/lang/String", "length", "()I"⟩ : MethodName)) (z := (⟨"java/lang/String", "length", "()I"⟩ : MethodName)) (argsL := []) (rest := [(.long (0 : Int64))]) (W := 2) (w55 hw) (w56 hw) (fun s' hZ' => notFace_of_selects (args := #[]) (mvT hZ' (w58 hw))) (w58 hw) (w57 hw) (w7 hw) (w59 hw) (by decide) e1_b (rm_length C.l Z a0 hw b h n0 Ds own_cs S_1) rfl (lenOf pd6 rfl) rfl rfl d17_26 (by decide) (by decide) (by decide) (by decide) rfl)
  replace R := (((((R.i2l (pc' := 30) d17_29 rfl).stk (S' := [(.long (0 : Int64)), (.long (0 : Int64))]) rfl).iload (pc' := 32) d17_30 rfl rfl).i2l (pc' := 33) d17_32 rfl).stk (S' := [(.long (0 : Int64)), (.long (0 : Int64)), (.long (0 : Int64))]) rfl).lsub (pc' := 34) d17_33 rfl
  replace R := (((((R.stk (S' := [(.long (0 : Int64)), (.long (0 : Int64))]) rfl).lcmp (pc' := 35) d17_34 rfl).stk (S' := [(.int (0 : Int32))]) rfl).ifY (pc' := 40) d17_35 (flt (by decide : ¬ ((0 : Int32) < (0 : Int32)))).2.2.2 (by decide) rfl).iload (pc' := 42) d17_40 rfl rfl).ifN (pc' := 45) d17_42 (flt (by decide : ¬ ((0 : Int32) < (0 : Int32)))).2.2.1 rfl
  replace R := R.iconst (pc' := 46) (z := (1 : Int32)) d17_45 rfl rfl
  exact R.retN (Ds' := Ds) hret (by simp) (show nar .boolean (1 : Int32) = (1 : Int32) from rfl) d17_46 (by decide) (by decide) (fun _ q => q) ⟨rfl, rfl, rfl⟩
theorem rm_mme1_2 (l : Launch) (Z : State) (a0 : Array Value) (hw : HW a0 Z) (h : Heap) (n0 : Nat) (Ds : List Addr) {x0 x1 x2 x3 : Int32} (hok : ∀ c ∈ ([x0, x1, x2, x3] : List Int32), ¬ c < 0 ∧ ¬ (255 : Int32) < c) (hoy : ∀ c ∈ ([x1] : List Int32), ¬ c < 0 ∧ ¬ (255 : Int32) < c) {t : Addr} {kt : ClassId} (V_t : Arv Z h t kt .byte (4 : Int32) [(.int x0.toInt8.toInt32), (.int x1.toInt8.toInt32), (.int x2.toInt8.toInt32), (.int x3.toInt8.toInt32)] (.int 0)) {u : Addr} {ku : ClassId} (V_u : Arv Z h u ku .byte (1 : Int32) [(.int x1.toInt8.toInt32)] (.int 0)) :
    Ctr l Z (⟨"jdk/internal/util/ArraysSupport", "mismatch", "([BI[BII)I"⟩ : MethodName) jdk_48_method_14_code 8 (some .int) [] (rmo 0 0 0 0) #[.ref t, .int (1 : Int32), .ref u, .int (0 : Int32), .int (1 : Int32)] h n0 Ds (fun v h' Ds' => v = some (.int (-1 : Int32)) ∧ h = h' ∧ Ds = Ds') := by
  refine ctr_of (Ls := #[.val (.ref t), .val (.int (1 : Int32)), .val (.ref u), .val (.int (0 : Int32)), .val (.int (1 : Int32)), .unset, .unset, .unset]) (plainFor_of_name pn4) (fun m => by first | (simp [entryFrame, mkF, argsToLocals, Value.category]; done) | rfl) ?_
  intro C hl hret hnm R
  subst hl
  replace R := (((((R.iconst (pc' := 1) (z := (0 : Int32)) d29_0 rfl rfl).istore (pc' := 3) (l' := #[.val (.ref t), .val (.int (1 : Int32)), .val (.ref u), .val (.int (0 : Int32)), .val (.int (1 : Int32)), .val (.int (0 : Int32)), .unset, .unset]) d29_1 rfl rfl).iload (pc' := 5) d29_3 rfl rfl).bipush (pc' := 7) (z := (7 : Int32)) d29_5 rfl rfl).icmpY (pc' := 70) d29_7 (flt (by decide : ¬ ((7 : Int32) < (1 : Int32)))).2.2.2 (by decide) rfl).iload (pc' := 72) d29_70 rfl rfl
  replace R := (((((R.iload (pc' := 74) d29_72 rfl rfl).icmpN (pc' := 77) d29_74 (tlt (by decide : (0 : Int32) < (1 : Int32))).2.1 rfl).aloadN (pc' := 78) (v := (.ref t)) d29_77 rfl rfl rfl).iloadN (pc' := 79) d29_78 rfl rfl).iload (pc' := 81) d29_79 rfl rfl).iadd (pc' := 82) d29_81 rfl
  replace R := (((((R.stk (S' := [(.int (1 : Int32)), (.ref t)]) rfl).baload (pc' := 83) (v := (.int x1.toInt8.toInt32)) V_t ⟨by decide, by decide⟩ rfl d29_82 rfl).aloadN (pc' := 84) (v := (.ref u)) d29_83 rfl rfl rfl).iloadN (pc' := 85) d29_84 rfl rfl).iload (pc' := 87) d29_85 rfl rfl).iadd (pc' := 88) d29_87 rfl
  replace R := (((((R.stk (S' := [(.int (0 : Int32)), (.ref u), (.int x1.toInt8.toInt32)]) rfl).baload (pc' := 89) (v := (.int x1.toInt8.toInt32)) V_u ⟨by decide, by decide⟩ rfl d29_88 rfl).icmpY (pc' := 95) d29_89 (teq (rfl : x1.toInt8.toInt32 = x1.toInt8.toInt32)).1 (by decide) rfl).iinc (pc' := 98) (l' := #[.val (.ref t), .val (.int (1 : Int32)), .val (.ref u), .val (.int (0 : Int32)), .val (.int (1 : Int32)), .val (.int (1 : Int32)), .unset, .unset]) d29_95 rfl rfl rfl).goto (pc' := 70) d29_98 (by decide) rfl).iload (pc' := 72) d29_70 rfl rfl
  replace R := ((R.iload (pc' := 74) d29_72 rfl rfl).icmpY (pc' := 101) d29_74 (flt (by decide : ¬ ((1 : Int32) < (1 : Int32)))).2.1 (by decide) rfl).iconst (pc' := 102) (z := (-1 : Int32)) d29_101 rfl rfl
  exact R.retI (Ds' := Ds) hret d29_102 (by decide) (by decide) (fun _ q => q) ⟨rfl, rfl, rfl⟩
theorem rm_rme1_2 (l : Launch) (Z : State) (a0 : Array Value) (hw : HW a0 Z) (a b : Addr) (h : Heap) (n0 : Nat) (Ds : List Addr) (own_cs : CompactOn Z) {x0 x1 x2 x3 : Int32} (S_a : IsStr Z h a [x0, x1, x2, x3]) (S_b : IsStr Z h b [x1]) :
    Ctr l Z (⟨"java/lang/String", "regionMatches", "(ILjava/lang/String;II)Z"⟩ : MethodName) jdk_42_method_73_code 8 (some .boolean) [] (rmo 2 0 0 27) #[.ref a, .int (1 : Int32), .ref b, .int (0 : Int32), .int (1 : Int32)] h n0 Ds (fun v h' Ds' => v = some (.int (1 : Int32)) ∧ h = h' ∧ Ds = Ds') := by
  refine ctr_of (Ls := #[.val (.ref a), .val (.int (1 : Int32)), .val (.ref b), .val (.int (0 : Int32)), .val (.int (1 : Int32)), .unset, .unset, .unset]) (plainFor_of_name pn0) (fun m => by first | (simp [entryFrame, mkF, argsToLocals, Value.category]; done) | rfl) ?_
  intro C hl hret hnm R
  subst hl
  have S_0 := S_a
  have S_1 := S_b
  obtain ⟨e1, e2, e3, e4, t, kt, e5, e6⟩ := S_a
  have e7 : Arv Z h t kt .byte (4 : Int32) [(.int x0.toInt8.toInt32), (.int x1.toInt8.toInt32), (.int x2.toInt8.toInt32), (.int x3.toInt8.toInt32)] (.int 0) := e6
  have hok := e3
  obtain ⟨e1_b, e2_b, e3_b, e4_b, t_b, kt_b, e5_b, e6_b⟩ := S_b
  have e7_b : Arv Z h t_b kt_b .byte (1 : Int32) [(.int x1.toInt8.toInt32)] (.int 0) := e6_b
  have hoy := e3_b
  replace R := (((((R.iloadN (pc' := 1) d17_0 rfl rfl).ifN (pc' := 4) d17_1 (flt (by decide : ¬ ((0 : Int32) < (0 : Int32)))).1 rfl).iloadN (pc' := 5) d17_4 rfl rfl).ifN (pc' := 8) d17_5 (flt (by decide : ¬ ((1 : Int32) < (0 : Int32)))).1 rfl).iloadN (pc' := 9) d17_8 rfl rfl).i2l (pc' := 10) d17_9 rfl
  replace R := (R.stk (S' := [(.long (1 : Int64))]) rfl).aloadN (pc' := 11) (v := (.ref a)) d17_10 rfl rfl rfl
  replace R := own_pure (R.callV (pc' := 14) (y := (⟨"java/lang/String", "length", "()I"⟩ : MethodName)) (z := (⟨"java/lang/String", "length", "()I"⟩ : MethodName)) (argsL := []) (rest := [(.long (1 : Int64))]) (W := 2) (w55 hw) (w56 hw) (fun s' hZ' => notFace_of_selects (args := #[]) (mvT hZ' (w58 hw))) (w58 hw) (w57 hw) (w7 hw) (w59 hw) (by decide) e1 (rm_length C.l Z a0 hw a h n0 Ds own_cs S_0) rfl (lenOf pd6 rfl) rfl rfl d17_11 (by decide) (by decide) (by decide) (by decide) rfl)
  replace R := (((((R.i2l (pc' := 15) d17_14 rfl).stk (S' := [(.long (4 : Int64)), (.long (1 : Int64))]) rfl).iload (pc' := 17) d17_15 rfl rfl).i2l (pc' := 18) d17_17 rfl).stk (S' := [(.long (1 : Int64)), (.long (4 : Int64)), (.long (1 : Int64))]) rfl).lsub (pc' := 19) d17_18 rfl
  replace R := (((((R.stk (S' := [(.long (3 : Int64)), (.long (1 : Int64))]) rfl).lcmp (pc' := 20) d17_19 rfl).stk (S' := [(.int (-1 : Int32))]) rfl).ifN (pc' := 23) d17_20 (flt (by decide : ¬ ((0 : Int32) < (-1 : Int32)))).2.2.1 rfl).iloadN (pc' := 24) d17_23 rfl rfl).i2l (pc' := 25) d17_24 rfl
  replace R := (R.stk (S' := [(.long (0 : Int64))]) rfl).aloadN (pc' := 26) (v := (.ref b)) d17_25 rfl rfl rfl
  replace R := own_pure (R.callV (pc' := 29) (y := (⟨"java/lang/String", "length", "()I"⟩ : MethodName)) (z := (⟨"java/lang/String", "length", "()I"⟩ : MethodName)) (argsL := []) (rest := [(.long (0 : Int64))]) (W := 2) (w55 hw) (w56 hw) (fun s' hZ' => notFace_of_selects (args := #[]) (mvT hZ' (w58 hw))) (w58 hw) (w57 hw) (w7 hw) (w59 hw) (by decide) e1_b (rm_length C.l Z a0 hw b h n0 Ds own_cs S_1) rfl (lenOf pd6 rfl) rfl rfl d17_26 (by decide) (by decide) (by decide) (by decide) rfl)
  replace R := (((((R.i2l (pc' := 30) d17_29 rfl).stk (S' := [(.long (1 : Int64)), (.long (0 : Int64))]) rfl).iload (pc' := 32) d17_30 rfl rfl).i2l (pc' := 33) d17_32 rfl).stk (S' := [(.long (1 : Int64)), (.long (1 : Int64)), (.long (0 : Int64))]) rfl).lsub (pc' := 34) d17_33 rfl
  replace R := (((((R.stk (S' := [(.long (0 : Int64)), (.long (0 : Int64))]) rfl).lcmp (pc' := 35) d17_34 rfl).stk (S' := [(.int (0 : Int32))]) rfl).ifY (pc' := 40) d17_35 (flt (by decide : ¬ ((0 : Int32) < (0 : Int32)))).2.2.2 (by decide) rfl).iload (pc' := 42) d17_40 rfl rfl).ifY (pc' := 47) d17_42 (tlt (by decide : (0 : Int32) < (1 : Int32))).2.2.1 (by decide) rfl
  replace R := (((((R.aloadN (pc' := 48) (v := (.ref a)) d17_47 rfl rfl rfl).getF (pc' := 51) (host := "") (Or.inl (w32 hw)) Via.refl e5 d17_48 rfl).astore (pc' := 53) (l' := #[.val (.ref a), .val (.int (1 : Int32)), .val (.ref b), .val (.int (0 : Int32)), .val (.int (1 : Int32)), .val (.ref t), .unset, .unset]) d17_51 rfl rfl rfl).aloadN (pc' := 54) (v := (.ref b)) d17_53 rfl rfl rfl).getF (pc' := 57) (host := "") (Or.inl (w32 hw)) Via.refl e5_b d17_54 rfl).astore (pc' := 59) (l' := #[.val (.ref a), .val (.int (1 : Int32)), .val (.ref b), .val (.int (0 : Int32)), .val (.int (1 : Int32)), .val (.ref t), .val (.ref t_b), .unset]) d17_57 rfl rfl rfl
  replace R := R.aloadN (pc' := 60) (v := (.ref a)) d17_59 rfl rfl rfl
  replace R := own_pure (R.callV (pc' := 63) (y := (⟨"java/lang/String", "coder", "()B"⟩ : MethodName)) (z := (⟨"java/lang/String", "coder", "()B"⟩ : MethodName)) (argsL := []) (rest := []) (W := 0) (w60 hw) (w61 hw) (fun s' hZ' => notFace_of_selects (args := #[]) (mvT hZ' (w63 hw))) (w63 hw) (w62 hw) (w7 hw) (w64 hw) (by decide) e1 (rm_coder C.l Z a0 hw a h n0 Ds own_cs e2) rfl (lenOf pd0 rfl) rfl rfl d17_60 (by decide) (by decide) (by decide) (by decide) rfl)
  replace R := ((R.istore (pc' := 65) (l' := #[.val (.ref a), .val (.int (1 : Int32)), .val (.ref b), .val (.int (0 : Int32)), .val (.int (1 : Int32)), .val (.ref t), .val (.ref t_b), .val (.int (0 : Int32))]) d17_63 rfl rfl).iload (pc' := 67) d17_65 rfl rfl).aloadN (pc' := 68) (v := (.ref b)) d17_67 rfl rfl rfl
  replace R := own_pure (R.callV (pc' := 71) (y := (⟨"java/lang/String", "coder", "()B"⟩ : MethodName)) (z := (⟨"java/lang/String", "coder", "()B"⟩ : MethodName)) (argsL := []) (rest := [(.int (0 : Int32))]) (W := 1) (w60 hw) (w61 hw) (fun s' hZ' => notFace_of_selects (args := #[]) (mvT hZ' (w63 hw))) (w63 hw) (w62 hw) (w7 hw) (w64 hw) (by decide) e1_b (rm_coder C.l Z a0 hw b h n0 Ds own_cs e2_b) rfl (lenOf pd0 rfl) rfl rfl d17_68 (by decide) (by decide) (by decide) (by decide) rfl)
  replace R := (((((R.icmpN (pc' := 74) d17_71 (teq (by decide : (0 : Int32) = (0 : Int32))).2 rfl).iload (pc' := 76) d17_74 rfl rfl).iconst (pc' := 77) (z := (1 : Int32)) d17_76 rfl rfl).icmpY (pc' := 94) d17_77 (feq (by decide : ¬ ((0 : Int32) = (1 : Int32)))).2 (by decide) rfl).aload (pc' := 96) (v := (.ref t)) d17_94 rfl rfl rfl).iloadN (pc' := 97) d17_96 rfl rfl
  replace R := ((R.aload (pc' := 99) (v := (.ref t_b)) d17_97 rfl rfl rfl).iloadN (pc' := 100) d17_99 rfl rfl).iload (pc' := 102) d17_100 rfl rfl
  replace R := own_pure (R.callS (pc' := 105) (argsL := [(.ref t), (.int (1 : Int32)), (.ref t_b), (.int (0 : Int32)), (.int (1 : Int32))]) (rest := []) (W := 0) (w135 hw) (w136 hw) (w137 hw) (w138 hw) (by decide) (rm_mme1_2 C.l Z a0 hw h n0 Ds hok hoy e7 e7_b) rfl (lenOf pd12 rfl) rfl rfl d17_102 (by decide) (by decide) (by decide) (by decide) rfl)
  replace R := ((R.ifN (pc' := 108) d17_105 (tlt (by decide : (-1 : Int32) < (0 : Int32))).2.1 rfl).iconst (pc' := 109) (z := (1 : Int32)) d17_108 rfl rfl).goto (pc' := 113) d17_109 (by decide) rfl
  exact R.retN (Ds' := Ds) hret (by simp) (show nar .boolean (1 : Int32) = (1 : Int32) from rfl) d17_113 (by decide) (by decide) (fun _ q => q) ⟨rfl, rfl, rfl⟩
theorem rm_mmn1_2 (l : Launch) (Z : State) (a0 : Array Value) (hw : HW a0 Z) (h : Heap) (n0 : Nat) (Ds : List Addr) {x0 x1 x2 x3 : Int32} {y0 : Int32} (hok : ∀ c ∈ ([x0, x1, x2, x3] : List Int32), ¬ c < 0 ∧ ¬ (255 : Int32) < c) (hoy : ∀ c ∈ ([y0] : List Int32), ¬ c < 0 ∧ ¬ (255 : Int32) < c) {t : Addr} {kt : ClassId} (V_t : Arv Z h t kt .byte (4 : Int32) [(.int x0.toInt8.toInt32), (.int x1.toInt8.toInt32), (.int x2.toInt8.toInt32), (.int x3.toInt8.toInt32)] (.int 0)) {u : Addr} {ku : ClassId} (V_u : Arv Z h u ku .byte (1 : Int32) [(.int y0.toInt8.toInt32)] (.int 0)) (hne : ¬ ([x1] : List Int32) = [y0]) :
    Ctr l Z (⟨"jdk/internal/util/ArraysSupport", "mismatch", "([BI[BII)I"⟩ : MethodName) jdk_48_method_14_code 8 (some .int) [] (rmo 0 0 0 0) #[.ref t, .int (1 : Int32), .ref u, .int (0 : Int32), .int (1 : Int32)] h n0 Ds (fun v h' Ds' => ∃ z : Int32, v = some (.int z) ∧ ¬ z < 0 ∧ h = h' ∧ Ds = Ds') := by
  refine ctr_of (Ls := #[.val (.ref t), .val (.int (1 : Int32)), .val (.ref u), .val (.int (0 : Int32)), .val (.int (1 : Int32)), .unset, .unset, .unset]) (plainFor_of_name pn4) (fun m => by first | (simp [entryFrame, mkF, argsToLocals, Value.category]; done) | rfl) ?_
  intro C hl hret hnm R
  subst hl
  replace R := (((((R.iconst (pc' := 1) (z := (0 : Int32)) d29_0 rfl rfl).istore (pc' := 3) (l' := #[.val (.ref t), .val (.int (1 : Int32)), .val (.ref u), .val (.int (0 : Int32)), .val (.int (1 : Int32)), .val (.int (0 : Int32)), .unset, .unset]) d29_1 rfl rfl).iload (pc' := 5) d29_3 rfl rfl).bipush (pc' := 7) (z := (7 : Int32)) d29_5 rfl rfl).icmpY (pc' := 70) d29_7 (flt (by decide : ¬ ((7 : Int32) < (1 : Int32)))).2.2.2 (by decide) rfl).iload (pc' := 72) d29_70 rfl rfl
  replace R := (((((R.iload (pc' := 74) d29_72 rfl rfl).icmpN (pc' := 77) d29_74 (tlt (by decide : (0 : Int32) < (1 : Int32))).2.1 rfl).aloadN (pc' := 78) (v := (.ref t)) d29_77 rfl rfl rfl).iloadN (pc' := 79) d29_78 rfl rfl).iload (pc' := 81) d29_79 rfl rfl).iadd (pc' := 82) d29_81 rfl
  replace R := (((((R.stk (S' := [(.int (1 : Int32)), (.ref t)]) rfl).baload (pc' := 83) (v := (.int x1.toInt8.toInt32)) V_t ⟨by decide, by decide⟩ rfl d29_82 rfl).aloadN (pc' := 84) (v := (.ref u)) d29_83 rfl rfl rfl).iloadN (pc' := 85) d29_84 rfl rfl).iload (pc' := 87) d29_85 rfl rfl).iadd (pc' := 88) d29_87 rfl
  replace R := (R.stk (S' := [(.int (0 : Int32)), (.ref u), (.int x1.toInt8.toInt32)]) rfl).baload (pc' := 89) (v := (.int y0.toInt8.toInt32)) V_u ⟨by decide, by decide⟩ rfl d29_88 rfl
  by_cases hc1 : x1.toInt8.toInt32 = y0.toInt8.toInt32
  · replace R := R.icmpY (pc' := 95) d29_89 (teq hc1).1 (by decide) rfl
    replace R := (((((R.iinc (pc' := 98) (l' := #[.val (.ref t), .val (.int (1 : Int32)), .val (.ref u), .val (.int (0 : Int32)), .val (.int (1 : Int32)), .val (.int (1 : Int32)), .unset, .unset]) d29_95 rfl rfl rfl).goto (pc' := 70) d29_98 (by decide) rfl).iload (pc' := 72) d29_70 rfl rfl).iload (pc' := 74) d29_72 rfl rfl).icmpY (pc' := 101) d29_74 (flt (by decide : ¬ ((1 : Int32) < (1 : Int32)))).2.1 (by decide) rfl).iconst (pc' := 102) (z := (-1 : Int32)) d29_101 rfl rfl
    exact absurd (show ([x1] : List Int32) = [y0] by rw [sbyte (hok x1 (List.mem_of_getElem? (i := 1) rfl)) (hoy y0 (List.mem_of_getElem? (i := 0) rfl)) hc1]) hne
  · replace R := R.icmpN (pc' := 92) d29_89 (feq hc1).1 rfl
    replace R := R.iload (pc' := 94) d29_92 rfl rfl
    exact R.retI (Ds' := Ds) hret d29_94 (by decide) (by decide) (fun _ q => q) ⟨_, rfl, by decide, rfl, rfl⟩
theorem rm_rmn1_2 (l : Launch) (Z : State) (a0 : Array Value) (hw : HW a0 Z) (a b : Addr) (h : Heap) (n0 : Nat) (Ds : List Addr) (own_cs : CompactOn Z) {x0 x1 x2 x3 : Int32} {y0 : Int32} (S_a : IsStr Z h a [x0, x1, x2, x3]) (S_b : IsStr Z h b [y0]) (hne : ¬ ([x1] : List Int32) = [y0]) :
    Ctr l Z (⟨"java/lang/String", "regionMatches", "(ILjava/lang/String;II)Z"⟩ : MethodName) jdk_42_method_73_code 8 (some .boolean) [] (rmo 2 0 0 27) #[.ref a, .int (1 : Int32), .ref b, .int (0 : Int32), .int (1 : Int32)] h n0 Ds (fun v h' Ds' => v = some (.int (0 : Int32)) ∧ h = h' ∧ Ds = Ds') := by
  refine ctr_of (Ls := #[.val (.ref a), .val (.int (1 : Int32)), .val (.ref b), .val (.int (0 : Int32)), .val (.int (1 : Int32)), .unset, .unset, .unset]) (plainFor_of_name pn0) (fun m => by first | (simp [entryFrame, mkF, argsToLocals, Value.category]; done) | rfl) ?_
  intro C hl hret hnm R
  subst hl
  have S_0 := S_a
  have S_1 := S_b
  obtain ⟨e1, e2, e3, e4, t, kt, e5, e6⟩ := S_a
  have e7 : Arv Z h t kt .byte (4 : Int32) [(.int x0.toInt8.toInt32), (.int x1.toInt8.toInt32), (.int x2.toInt8.toInt32), (.int x3.toInt8.toInt32)] (.int 0) := e6
  have hok := e3
  obtain ⟨e1_b, e2_b, e3_b, e4_b, t_b, kt_b, e5_b, e6_b⟩ := S_b
  have e7_b : Arv Z h t_b kt_b .byte (1 : Int32) [(.int y0.toInt8.toInt32)] (.int 0) := e6_b
  have hoy := e3_b
  replace R := (((((R.iloadN (pc' := 1) d17_0 rfl rfl).ifN (pc' := 4) d17_1 (flt (by decide : ¬ ((0 : Int32) < (0 : Int32)))).1 rfl).iloadN (pc' := 5) d17_4 rfl rfl).ifN (pc' := 8) d17_5 (flt (by decide : ¬ ((1 : Int32) < (0 : Int32)))).1 rfl).iloadN (pc' := 9) d17_8 rfl rfl).i2l (pc' := 10) d17_9 rfl
  replace R := (R.stk (S' := [(.long (1 : Int64))]) rfl).aloadN (pc' := 11) (v := (.ref a)) d17_10 rfl rfl rfl
  replace R := own_pure (R.callV (pc' := 14) (y := (⟨"java/lang/String", "length", "()I"⟩ : MethodName)) (z := (⟨"java/lang/String", "length", "()I"⟩ : MethodName)) (argsL := []) (rest := [(.long (1 : Int64))]) (W := 2) (w55 hw) (w56 hw) (fun s' hZ' => notFace_of_selects (args := #[]) (mvT hZ' (w58 hw))) (w58 hw) (w57 hw) (w7 hw) (w59 hw) (by decide) e1 (rm_length C.l Z a0 hw a h n0 Ds own_cs S_0) rfl (lenOf pd6 rfl) rfl rfl d17_11 (by decide) (by decide) (by decide) (by decide) rfl)
  replace R := (((((R.i2l (pc' := 15) d17_14 rfl).stk (S' := [(.long (4 : Int64)), (.long (1 : Int64))]) rfl).iload (pc' := 17) d17_15 rfl rfl).i2l (pc' := 18) d17_17 rfl).stk (S' := [(.long (1 : Int64)), (.long (4 : Int64)), (.long (1 : Int64))]) rfl).lsub (pc' := 19) d17_18 rfl
  replace R := (((((R.stk (S' := [(.long (3 : Int64)), (.long (1 : Int64))]) rfl).lcmp (pc' := 20) d17_19 rfl).stk (S' := [(.int (-1 : Int32))]) rfl).ifN (pc' := 23) d17_20 (flt (by decide : ¬ ((0 : Int32) < (-1 : Int32)))).2.2.1 rfl).iloadN (pc' := 24) d17_23 rfl rfl).i2l (pc' := 25) d17_24 rfl
  replace R := (R.stk (S' := [(.long (0 : Int64))]) rfl).aloadN (pc' := 26) (v := (.ref b)) d17_25 rfl rfl rfl
  replace R := own_pure (R.callV (pc' := 29) (y := (⟨"java/lang/String", "length", "()I"⟩ : MethodName)) (z := (⟨"java/lang/String", "length", "()I"⟩ : MethodName)) (argsL := []) (rest := [(.long (0 : Int64))]) (W := 2) (w55 hw) (w56 hw) (fun s' hZ' => notFace_of_selects (args := #[]) (mvT hZ' (w58 hw))) (w58 hw) (w57 hw) (w7 hw) (w59 hw) (by decide) e1_b (rm_length C.l Z a0 hw b h n0 Ds own_cs S_1) rfl (lenOf pd6 rfl) rfl rfl d17_26 (by decide) (by decide) (by decide) (by decide) rfl)
  replace R := (((((R.i2l (pc' := 30) d17_29 rfl).stk (S' := [(.long (1 : Int64)), (.long (0 : Int64))]) rfl).iload (pc' := 32) d17_30 rfl rfl).i2l (pc' := 33) d17_32 rfl).stk (S' := [(.long (1 : Int64)), (.long (1 : Int64)), (.long (0 : Int64))]) rfl).lsub (pc' := 34) d17_33 rfl
  replace R := (((((R.stk (S' := [(.long (0 : Int64)), (.long (0 : Int64))]) rfl).lcmp (pc' := 35) d17_34 rfl).stk (S' := [(.int (0 : Int32))]) rfl).ifY (pc' := 40) d17_35 (flt (by decide : ¬ ((0 : Int32) < (0 : Int32)))).2.2.2 (by decide) rfl).iload (pc' := 42) d17_40 rfl rfl).ifY (pc' := 47) d17_42 (tlt (by decide : (0 : Int32) < (1 : Int32))).2.2.1 (by decide) rfl
  replace R := (((((R.aloadN (pc' := 48) (v := (.ref a)) d17_47 rfl rfl rfl).getF (pc' := 51) (host := "") (Or.inl (w32 hw)) Via.refl e5 d17_48 rfl).astore (pc' := 53) (l' := #[.val (.ref a), .val (.int (1 : Int32)), .val (.ref b), .val (.int (0 : Int32)), .val (.int (1 : Int32)), .val (.ref t), .unset, .unset]) d17_51 rfl rfl rfl).aloadN (pc' := 54) (v := (.ref b)) d17_53 rfl rfl rfl).getF (pc' := 57) (host := "") (Or.inl (w32 hw)) Via.refl e5_b d17_54 rfl).astore (pc' := 59) (l' := #[.val (.ref a), .val (.int (1 : Int32)), .val (.ref b), .val (.int (0 : Int32)), .val (.int (1 : Int32)), .val (.ref t), .val (.ref t_b), .unset]) d17_57 rfl rfl rfl
  replace R := R.aloadN (pc' := 60) (v := (.ref a)) d17_59 rfl rfl rfl
  replace R := own_pure (R.callV (pc' := 63) (y := (⟨"java/lang/String", "coder", "()B"⟩ : MethodName)) (z := (⟨"java/lang/String", "coder", "()B"⟩ : MethodName)) (argsL := []) (rest := []) (W := 0) (w60 hw) (w61 hw) (fun s' hZ' => notFace_of_selects (args := #[]) (mvT hZ' (w63 hw))) (w63 hw) (w62 hw) (w7 hw) (w64 hw) (by decide) e1 (rm_coder C.l Z a0 hw a h n0 Ds own_cs e2) rfl (lenOf pd0 rfl) rfl rfl d17_60 (by decide) (by decide) (by decide) (by decide) rfl)
  replace R := ((R.istore (pc' := 65) (l' := #[.val (.ref a), .val (.int (1 : Int32)), .val (.ref b), .val (.int (0 : Int32)), .val (.int (1 : Int32)), .val (.ref t), .val (.ref t_b), .val (.int (0 : Int32))]) d17_63 rfl rfl).iload (pc' := 67) d17_65 rfl rfl).aloadN (pc' := 68) (v := (.ref b)) d17_67 rfl rfl rfl
  replace R := own_pure (R.callV (pc' := 71) (y := (⟨"java/lang/String", "coder", "()B"⟩ : MethodName)) (z := (⟨"java/lang/String", "coder", "()B"⟩ : MethodName)) (argsL := []) (rest := [(.int (0 : Int32))]) (W := 1) (w60 hw) (w61 hw) (fun s' hZ' => notFace_of_selects (args := #[]) (mvT hZ' (w63 hw))) (w63 hw) (w62 hw) (w7 hw) (w64 hw) (by decide) e1_b (rm_coder C.l Z a0 hw b h n0 Ds own_cs e2_b) rfl (lenOf pd0 rfl) rfl rfl d17_68 (by decide) (by decide) (by decide) (by decide) rfl)
  replace R := (((((R.icmpN (pc' := 74) d17_71 (teq (by decide : (0 : Int32) = (0 : Int32))).2 rfl).iload (pc' := 76) d17_74 rfl rfl).iconst (pc' := 77) (z := (1 : Int32)) d17_76 rfl rfl).icmpY (pc' := 94) d17_77 (feq (by decide : ¬ ((0 : Int32) = (1 : Int32)))).2 (by decide) rfl).aload (pc' := 96) (v := (.ref t)) d17_94 rfl rfl rfl).iloadN (pc' := 97) d17_96 rfl rfl
  replace R := ((R.aload (pc' := 99) (v := (.ref t_b)) d17_97 rfl rfl rfl).iloadN (pc' := 100) d17_99 rfl rfl).iload (pc' := 102) d17_100 rfl rfl
  obtain ⟨_, _, _, ⟨zz, rfl, hzz, rfl, rfl⟩, R⟩ := R.callS (pc' := 105) (argsL := [(.ref t), (.int (1 : Int32)), (.ref t_b), (.int (0 : Int32)), (.int (1 : Int32))]) (rest := []) (W := 0) (w135 hw) (w136 hw) (w137 hw) (w138 hw) (by decide) (rm_mmn1_2 C.l Z a0 hw h n0 Ds hok hoy e7 e7_b hne) rfl (lenOf pd12 rfl) rfl rfl d17_102 (by decide) (by decide) (by decide) (by decide) rfl
  replace R := (((R.mono (ce' := 0) (sl' := 0) (by decide) (by decide)).stk (S' := [(.int zz)]) rfl).ifY (pc' := 112) d17_105 (flt hzz).2.1 (by decide) rfl).iconst (pc' := 113) (z := (0 : Int32)) d17_112 rfl rfl
  exact R.retN (Ds' := Ds) hret (by simp) (show nar .boolean (0 : Int32) = (0 : Int32) from rfl) d17_113 (by decide) (by decide) (fun _ q => q) ⟨rfl, rfl, rfl⟩
theorem rm_mme1_3 (l : Launch) (Z : State) (a0 : Array Value) (hw : HW a0 Z) (h : Heap) (n0 : Nat) (Ds : List Addr) {x0 x1 x2 x3 : Int32} (hok : ∀ c ∈ ([x0, x1, x2, x3] : List Int32), ¬ c < 0 ∧ ¬ (255 : Int32) < c) (hoy : ∀ c ∈ ([x1, x2] : List Int32), ¬ c < 0 ∧ ¬ (255 : Int32) < c) {t : Addr} {kt : ClassId} (V_t : Arv Z h t kt .byte (4 : Int32) [(.int x0.toInt8.toInt32), (.int x1.toInt8.toInt32), (.int x2.toInt8.toInt32), (.int x3.toInt8.toInt32)] (.int 0)) {u : Addr} {ku : ClassId} (V_u : Arv Z h u ku .byte (2 : Int32) [(.int x1.toInt8.toInt32), (.int x2.toInt8.toInt32)] (.int 0)) :
    Ctr l Z (⟨"jdk/internal/util/ArraysSupport", "mismatch", "([BI[BII)I"⟩ : MethodName) jdk_48_method_14_code 8 (some .int) [] (rmo 0 0 0 0) #[.ref t, .int (1 : Int32), .ref u, .int (0 : Int32), .int (2 : Int32)] h n0 Ds (fun v h' Ds' => v = some (.int (-1 : Int32)) ∧ h = h' ∧ Ds = Ds') := by
  refine ctr_of (Ls := #[.val (.ref t), .val (.int (1 : Int32)), .val (.ref u), .val (.int (0 : Int32)), .val (.int (2 : Int32)), .unset, .unset, .unset]) (plainFor_of_name pn4) (fun m => by first | (simp [entryFrame, mkF, argsToLocals, Value.category]; done) | rfl) ?_
  intro C hl hret hnm R
  subst hl
  replace R := (((((R.iconst (pc' := 1) (z := (0 : Int32)) d29_0 rfl rfl).istore (pc' := 3) (l' := #[.val (.ref t), .val (.int (1 : Int32)), .val (.ref u), .val (.int (0 : Int32)), .val (.int (2 : Int32)), .val (.int (0 : Int32)), .unset, .unset]) d29_1 rfl rfl).iload (pc' := 5) d29_3 rfl rfl).bipush (pc' := 7) (z := (7 : Int32)) d29_5 rfl rfl).icmpY (pc' := 70) d29_7 (flt (by decide : ¬ ((7 : Int32) < (2 : Int32)))).2.2.2 (by decide) rfl).iload (pc' := 72) d29_70 rfl rfl
  replace R := (((((R.iload (pc' := 74) d29_72 rfl rfl).icmpN (pc' := 77) d29_74 (tlt (by decide : (0 : Int32) < (2 : Int32))).2.1 rfl).aloadN (pc' := 78) (v := (.ref t)) d29_77 rfl rfl rfl).iloadN (pc' := 79) d29_78 rfl rfl).iload (pc' := 81) d29_79 rfl rfl).iadd (pc' := 82) d29_81 rfl
  replace R := (((((R.stk (S' := [(.int (1 : Int32)), (.ref t)]) rfl).baload (pc' := 83) (v := (.int x1.toInt8.toInt32)) V_t ⟨by decide, by decide⟩ rfl d29_82 rfl).aloadN (pc' := 84) (v := (.ref u)) d29_83 rfl rfl rfl).iloadN (pc' := 85) d29_84 rfl rfl).iload (pc' := 87) d29_85 rfl rfl).iadd (pc' := 88) d29_87 rfl
  replace R := (((((R.stk (S' := [(.int (0 : Int32)), (.ref u), (.int x1.toInt8.toInt32)]) rfl).baload (pc' := 89) (v := (.int x1.toInt8.toInt32)) V_u ⟨by decide, by decide⟩ rfl d29_88 rfl).icmpY (pc' := 95) d29_89 (teq (rfl : x1.toInt8.toInt32 = x1.toInt8.toInt32)).1 (by decide) rfl).iinc (pc' := 98) (l' := #[.val (.ref t), .val (.int (1 : Int32)), .val (.ref u), .val (.int (0 : Int32)), .val (.int (2 : Int32)), .val (.int (1 : Int32)), .unset, .unset]) d29_95 rfl rfl rfl).goto (pc' := 70) d29_98 (by decide) rfl).iload (pc' := 72) d29_70 rfl rfl
  replace R := (((((R.iload (pc' := 74) d29_72 rfl rfl).icmpN (pc' := 77) d29_74 (tlt (by decide : (1 : Int32) < (2 : Int32))).2.1 rfl).aloadN (pc' := 78) (v := (.ref t)) d29_77 rfl rfl rfl).iloadN (pc' := 79) d29_78 rfl rfl).iload (pc' := 81) d29_79 rfl rfl).iadd (pc' := 82) d29_81 rfl
  replace R := (((((R.stk (S' := [(.int (2 : Int32)), (.ref t)]) rfl).baload (pc' := 83) (v := (.int x2.toInt8.toInt32)) V_t ⟨by decide, by decide⟩ rfl d29_82 rfl).aloadN (pc' := 84) (v := (.ref u)) d29_83 rfl rfl rfl).iloadN (pc' := 85) d29_84 rfl rfl).iload (pc' := 87) d29_85 rfl rfl).iadd (pc' := 88) d29_87 rfl
  replace R := (((((R.stk (S' := [(.int (1 : Int32)), (.ref u), (.int x2.toInt8.toInt32)]) rfl).baload (pc' := 89) (v := (.int x2.toInt8.toInt32)) V_u ⟨by decide, by decide⟩ rfl d29_88 rfl).icmpY (pc' := 95) d29_89 (teq (rfl : x2.toInt8.toInt32 = x2.toInt8.toInt32)).1 (by decide) rfl).iinc (pc' := 98) (l' := #[.val (.ref t), .val (.int (1 : Int32)), .val (.ref u), .val (.int (0 : Int32)), .val (.int (2 : Int32)), .val (.int (2 : Int32)), .unset, .unset]) d29_95 rfl rfl rfl).goto (pc' := 70) d29_98 (by decide) rfl).iload (pc' := 72) d29_70 rfl rfl
  replace R := ((R.iload (pc' := 74) d29_72 rfl rfl).icmpY (pc' := 101) d29_74 (flt (by decide : ¬ ((2 : Int32) < (2 : Int32)))).2.1 (by decide) rfl).iconst (pc' := 102) (z := (-1 : Int32)) d29_101 rfl rfl
  exact R.retI (Ds' := Ds) hret d29_102 (by decide) (by decide) (fun _ q => q) ⟨rfl, rfl, rfl⟩
theorem rm_rme1_3 (l : Launch) (Z : State) (a0 : Array Value) (hw : HW a0 Z) (a b : Addr) (h : Heap) (n0 : Nat) (Ds : List Addr) (own_cs : CompactOn Z) {x0 x1 x2 x3 : Int32} (S_a : IsStr Z h a [x0, x1, x2, x3]) (S_b : IsStr Z h b [x1, x2]) :
    Ctr l Z (⟨"java/lang/String", "regionMatches", "(ILjava/lang/String;II)Z"⟩ : MethodName) jdk_42_method_73_code 8 (some .boolean) [] (rmo 2 0 0 27) #[.ref a, .int (1 : Int32), .ref b, .int (0 : Int32), .int (2 : Int32)] h n0 Ds (fun v h' Ds' => v = some (.int (1 : Int32)) ∧ h = h' ∧ Ds = Ds') := by
  refine ctr_of (Ls := #[.val (.ref a), .val (.int (1 : Int32)), .val (.ref b), .val (.int (0 : Int32)), .val (.int (2 : Int32)), .unset, .unset, .unset]) (plainFor_of_name pn0) (fun m => by first | (simp [entryFrame, mkF, argsToLocals, Value.category]; done) | rfl) ?_
  intro C hl hret hnm R
  subst hl
  have S_0 := S_a
  have S_1 := S_b
  obtain ⟨e1, e2, e3, e4, t, kt, e5, e6⟩ := S_a
  have e7 : Arv Z h t kt .byte (4 : Int32) [(.int x0.toInt8.toInt32), (.int x1.toInt8.toInt32), (.int x2.toInt8.toInt32), (.int x3.toInt8.toInt32)] (.int 0) := e6
  have hok := e3
  obtain ⟨e1_b, e2_b, e3_b, e4_b, t_b, kt_b, e5_b, e6_b⟩ := S_b
  have e7_b : Arv Z h t_b kt_b .byte (2 : Int32) [(.int x1.toInt8.toInt32), (.int x2.toInt8.toInt32)] (.int 0) := e6_b
  have hoy := e3_b
  replace R := (((((R.iloadN (pc' := 1) d17_0 rfl rfl).ifN (pc' := 4) d17_1 (flt (by decide : ¬ ((0 : Int32) < (0 : Int32)))).1 rfl).iloadN (pc' := 5) d17_4 rfl rfl).ifN (pc' := 8) d17_5 (flt (by decide : ¬ ((1 : Int32) < (0 : Int32)))).1 rfl).iloadN (pc' := 9) d17_8 rfl rfl).i2l (pc' := 10) d17_9 rfl
  replace R := (R.stk (S' := [(.long (1 : Int64))]) rfl).aloadN (pc' := 11) (v := (.ref a)) d17_10 rfl rfl rfl
  replace R := own_pure (R.callV (pc' := 14) (y := (⟨"java/lang/String", "length", "()I"⟩ : MethodName)) (z := (⟨"java/lang/String", "length", "()I"⟩ : MethodName)) (argsL := []) (rest := [(.long (1 : Int64))]) (W := 2) (w55 hw) (w56 hw) (fun s' hZ' => notFace_of_selects (args := #[]) (mvT hZ' (w58 hw))) (w58 hw) (w57 hw) (w7 hw) (w59 hw) (by decide) e1 (rm_length C.l Z a0 hw a h n0 Ds own_cs S_0) rfl (lenOf pd6 rfl) rfl rfl d17_11 (by decide) (by decide) (by decide) (by decide) rfl)
  replace R := (((((R.i2l (pc' := 15) d17_14 rfl).stk (S' := [(.long (4 : Int64)), (.long (1 : Int64))]) rfl).iload (pc' := 17) d17_15 rfl rfl).i2l (pc' := 18) d17_17 rfl).stk (S' := [(.long (2 : Int64)), (.long (4 : Int64)), (.long (1 : Int64))]) rfl).lsub (pc' := 19) d17_18 rfl
  replace R := (((((R.stk (S' := [(.long (2 : Int64)), (.long (1 : Int64))]) rfl).lcmp (pc' := 20) d17_19 rfl).stk (S' := [(.int (-1 : Int32))]) rfl).ifN (pc' := 23) d17_20 (flt (by decide : ¬ ((0 : Int32) < (-1 : Int32)))).2.2.1 rfl).iloadN (pc' := 24) d17_23 rfl rfl).i2l (pc' := 25) d17_24 rfl
  replace R := (R.stk (S' := [(.long (0 : Int64))]) rfl).aloadN (pc' := 26) (v := (.ref b)) d17_25 rfl rfl rfl
  replace R := own_pure (R.callV (pc' := 29) (y := (⟨"java/lang/String", "length", "()I"⟩ : MethodName)) (z := (⟨"java/lang/String", "length", "()I"⟩ : MethodName)) (argsL := []) (rest := [(.long (0 : Int64))]) (W := 2) (w55 hw) (w56 hw) (fun s' hZ' => notFace_of_selects (args := #[]) (mvT hZ' (w58 hw))) (w58 hw) (w57 hw) (w7 hw) (w59 hw) (by decide) e1_b (rm_length C.l Z a0 hw b h n0 Ds own_cs S_1) rfl (lenOf pd6 rfl) rfl rfl d17_26 (by decide) (by decide) (by decide) (by decide) rfl)
  replace R := (((((R.i2l (pc' := 30) d17_29 rfl).stk (S' := [(.long (2 : Int64)), (.long (0 : Int64))]) rfl).iload (pc' := 32) d17_30 rfl rfl).i2l (pc' := 33) d17_32 rfl).stk (S' := [(.long (2 : Int64)), (.long (2 : Int64)), (.long (0 : Int64))]) rfl).lsub (pc' := 34) d17_33 rfl
  replace R := (((((R.stk (S' := [(.long (0 : Int64)), (.long (0 : Int64))]) rfl).lcmp (pc' := 35) d17_34 rfl).stk (S' := [(.int (0 : Int32))]) rfl).ifY (pc' := 40) d17_35 (flt (by decide : ¬ ((0 : Int32) < (0 : Int32)))).2.2.2 (by decide) rfl).iload (pc' := 42) d17_40 rfl rfl).ifY (pc' := 47) d17_42 (tlt (by decide : (0 : Int32) < (2 : Int32))).2.2.1 (by decide) rfl
  replace R := (((((R.aloadN (pc' := 48) (v := (.ref a)) d17_47 rfl rfl rfl).getF (pc' := 51) (host := "") (Or.inl (w32 hw)) Via.refl e5 d17_48 rfl).astore (pc' := 53) (l' := #[.val (.ref a), .val (.int (1 : Int32)), .val (.ref b), .val (.int (0 : Int32)), .val (.int (2 : Int32)), .val (.ref t), .unset, .unset]) d17_51 rfl rfl rfl).aloadN (pc' := 54) (v := (.ref b)) d17_53 rfl rfl rfl).getF (pc' := 57) (host := "") (Or.inl (w32 hw)) Via.refl e5_b d17_54 rfl).astore (pc' := 59) (l' := #[.val (.ref a), .val (.int (1 : Int32)), .val (.ref b), .val (.int (0 : Int32)), .val (.int (2 : Int32)), .val (.ref t), .val (.ref t_b), .unset]) d17_57 rfl rfl rfl
  replace R := R.aloadN (pc' := 60) (v := (.ref a)) d17_59 rfl rfl rfl
  replace R := own_pure (R.callV (pc' := 63) (y := (⟨"java/lang/String", "coder", "()B"⟩ : MethodName)) (z := (⟨"java/lang/String", "coder", "()B"⟩ : MethodName)) (argsL := []) (rest := []) (W := 0) (w60 hw) (w61 hw) (fun s' hZ' => notFace_of_selects (args := #[]) (mvT hZ' (w63 hw))) (w63 hw) (w62 hw) (w7 hw) (w64 hw) (by decide) e1 (rm_coder C.l Z a0 hw a h n0 Ds own_cs e2) rfl (lenOf pd0 rfl) rfl rfl d17_60 (by decide) (by decide) (by decide) (by decide) rfl)
  replace R := ((R.istore (pc' := 65) (l' := #[.val (.ref a), .val (.int (1 : Int32)), .val (.ref b), .val (.int (0 : Int32)), .val (.int (2 : Int32)), .val (.ref t), .val (.ref t_b), .val (.int (0 : Int32))]) d17_63 rfl rfl).iload (pc' := 67) d17_65 rfl rfl).aloadN (pc' := 68) (v := (.ref b)) d17_67 rfl rfl rfl
  replace R := own_pure (R.callV (pc' := 71) (y := (⟨"java/lang/String", "coder", "()B"⟩ : MethodName)) (z := (⟨"java/lang/String", "coder", "()B"⟩ : MethodName)) (argsL := []) (rest := [(.int (0 : Int32))]) (W := 1) (w60 hw) (w61 hw) (fun s' hZ' => notFace_of_selects (args := #[]) (mvT hZ' (w63 hw))) (w63 hw) (w62 hw) (w7 hw) (w64 hw) (by decide) e1_b (rm_coder C.l Z a0 hw b h n0 Ds own_cs e2_b) rfl (lenOf pd0 rfl) rfl rfl d17_68 (by decide) (by decide) (by decide) (by decide) rfl)
  replace R := (((((R.icmpN (pc' := 74) d17_71 (teq (by decide : (0 : Int32) = (0 : Int32))).2 rfl).iload (pc' := 76) d17_74 rfl rfl).iconst (pc' := 77) (z := (1 : Int32)) d17_76 rfl rfl).icmpY (pc' := 94) d17_77 (feq (by decide : ¬ ((0 : Int32) = (1 : Int32)))).2 (by decide) rfl).aload (pc' := 96) (v := (.ref t)) d17_94 rfl rfl rfl).iloadN (pc' := 97) d17_96 rfl rfl
  replace R := ((R.aload (pc' := 99) (v := (.ref t_b)) d17_97 rfl rfl rfl).iloadN (pc' := 100) d17_99 rfl rfl).iload (pc' := 102) d17_100 rfl rfl
  replace R := own_pure (R.callS (pc' := 105) (argsL := [(.ref t), (.int (1 : Int32)), (.ref t_b), (.int (0 : Int32)), (.int (2 : Int32))]) (rest := []) (W := 0) (w135 hw) (w136 hw) (w137 hw) (w138 hw) (by decide) (rm_mme1_3 C.l Z a0 hw h n0 Ds hok hoy e7 e7_b) rfl (lenOf pd12 rfl) rfl rfl d17_102 (by decide) (by decide) (by decide) (by decide) rfl)
  replace R := ((R.ifN (pc' := 108) d17_105 (tlt (by decide : (-1 : Int32) < (0 : Int32))).2.1 rfl).iconst (pc' := 109) (z := (1 : Int32)) d17_108 rfl rfl).goto (pc' := 113) d17_109 (by decide) rfl
  exact R.retN (Ds' := Ds) hret (by simp) (show nar .boolean (1 : Int32) = (1 : Int32) from rfl) d17_113 (by decide) (by decide) (fun _ q => q) ⟨rfl, rfl, rfl⟩
theorem rm_mmn1_3 (l : Launch) (Z : State) (a0 : Array Value) (hw : HW a0 Z) (h : Heap) (n0 : Nat) (Ds : List Addr) {x0 x1 x2 x3 : Int32} {y0 y1 : Int32} (hok : ∀ c ∈ ([x0, x1, x2, x3] : List Int32), ¬ c < 0 ∧ ¬ (255 : Int32) < c) (hoy : ∀ c ∈ ([y0, y1] : List Int32), ¬ c < 0 ∧ ¬ (255 : Int32) < c) {t : Addr} {kt : ClassId} (V_t : Arv Z h t kt .byte (4 : Int32) [(.int x0.toInt8.toInt32), (.int x1.toInt8.toInt32), (.int x2.toInt8.toInt32), (.int x3.toInt8.toInt32)] (.int 0)) {u : Addr} {ku : ClassId} (V_u : Arv Z h u ku .byte (2 : Int32) [(.int y0.toInt8.toInt32), (.int y1.toInt8.toInt32)] (.int 0)) (hne : ¬ ([x1, x2] : List Int32) = [y0, y1]) :
    Ctr l Z (⟨"jdk/internal/util/ArraysSupport", "mismatch", "([BI[BII)I"⟩ : MethodName) jdk_48_method_14_code 8 (some .int) [] (rmo 0 0 0 0) #[.ref t, .int (1 : Int32), .ref u, .int (0 : Int32), .int (2 : Int32)] h n0 Ds (fun v h' Ds' => ∃ z : Int32, v = some (.int z) ∧ ¬ z < 0 ∧ h = h' ∧ Ds = Ds') := by
  refine ctr_of (Ls := #[.val (.ref t), .val (.int (1 : Int32)), .val (.ref u), .val (.int (0 : Int32)), .val (.int (2 : Int32)), .unset, .unset, .unset]) (plainFor_of_name pn4) (fun m => by first | (simp [entryFrame, mkF, argsToLocals, Value.category]; done) | rfl) ?_
  intro C hl hret hnm R
  subst hl
  replace R := (((((R.iconst (pc' := 1) (z := (0 : Int32)) d29_0 rfl rfl).istore (pc' := 3) (l' := #[.val (.ref t), .val (.int (1 : Int32)), .val (.ref u), .val (.int (0 : Int32)), .val (.int (2 : Int32)), .val (.int (0 : Int32)), .unset, .unset]) d29_1 rfl rfl).iload (pc' := 5) d29_3 rfl rfl).bipush (pc' := 7) (z := (7 : Int32)) d29_5 rfl rfl).icmpY (pc' := 70) d29_7 (flt (by decide : ¬ ((7 : Int32) < (2 : Int32)))).2.2.2 (by decide) rfl).iload (pc' := 72) d29_70 rfl rfl
  replace R := (((((R.iload (pc' := 74) d29_72 rfl rfl).icmpN (pc' := 77) d29_74 (tlt (by decide : (0 : Int32) < (2 : Int32))).2.1 rfl).aloadN (pc' := 78) (v := (.ref t)) d29_77 rfl rfl rfl).iloadN (pc' := 79) d29_78 rfl rfl).iload (pc' := 81) d29_79 rfl rfl).iadd (pc' := 82) d29_81 rfl
  replace R := (((((R.stk (S' := [(.int (1 : Int32)), (.ref t)]) rfl).baload (pc' := 83) (v := (.int x1.toInt8.toInt32)) V_t ⟨by decide, by decide⟩ rfl d29_82 rfl).aloadN (pc' := 84) (v := (.ref u)) d29_83 rfl rfl rfl).iloadN (pc' := 85) d29_84 rfl rfl).iload (pc' := 87) d29_85 rfl rfl).iadd (pc' := 88) d29_87 rfl
  replace R := (R.stk (S' := [(.int (0 : Int32)), (.ref u), (.int x1.toInt8.toInt32)]) rfl).baload (pc' := 89) (v := (.int y0.toInt8.toInt32)) V_u ⟨by decide, by decide⟩ rfl d29_88 rfl
  by_cases hc1 : x1.toInt8.toInt32 = y0.toInt8.toInt32
  · replace R := R.icmpY (pc' := 95) d29_89 (teq hc1).1 (by decide) rfl
    replace R := (((((R.iinc (pc' := 98) (l' := #[.val (.ref t), .val (.int (1 : Int32)), .val (.ref u), .val (.int (0 : Int32)), .val (.int (2 : Int32)), .val (.int (1 : Int32)), .unset, .unset]) d29_95 rfl rfl rfl).goto (pc' := 70) d29_98 (by decide) rfl).iload (pc' := 72) d29_70 rfl rfl).iload (pc' := 74) d29_72 rfl rfl).icmpN (pc' := 77) d29_74 (tlt (by decide : (1 : Int32) < (2 : Int32))).2.1 rfl).aloadN (pc' := 78) (v := (.ref t)) d29_77 rfl rfl rfl
    replace R := (((((R.iloadN (pc' := 79) d29_78 rfl rfl).iload (pc' := 81) d29_79 rfl rfl).iadd (pc' := 82) d29_81 rfl).stk (S' := [(.int (2 : Int32)), (.ref t)]) rfl).baload (pc' := 83) (v := (.int x2.toInt8.toInt32)) V_t ⟨by decide, by decide⟩ rfl d29_82 rfl).aloadN (pc' := 84) (v := (.ref u)) d29_83 rfl rfl rfl
    replace R := ((((R.iloadN (pc' := 85) d29_84 rfl rfl).iload (pc' := 87) d29_85 rfl rfl).iadd (pc' := 88) d29_87 rfl).stk (S' := [(.int (1 : Int32)), (.ref u), (.int x2.toInt8.toInt32)]) rfl).baload (pc' := 89) (v := (.int y1.toInt8.toInt32)) V_u ⟨by decide, by decide⟩ rfl d29_88 rfl
    by_cases hc2 : x2.toInt8.toInt32 = y1.toInt8.toInt32
    · replace R := R.icmpY (pc' := 95) d29_89 (teq hc2).1 (by decide) rfl
      replace R := (((((R.iinc (pc' := 98) (l' := #[.val (.ref t), .val (.int (1 : Int32)), .val (.ref u), .val (.int (0 : Int32)), .val (.int (2 : Int32)), .val (.int (2 : Int32)), .unset, .unset]) d29_95 rfl rfl rfl).goto (pc' := 70) d29_98 (by decide) rfl).iload (pc' := 72) d29_70 rfl rfl).iload (pc' := 74) d29_72 rfl rfl).icmpY (pc' := 101) d29_74 (flt (by decide : ¬ ((2 : Int32) < (2 : Int32)))).2.1 (by decide) rfl).iconst (pc' := 102) (z := (-1 : Int32)) d29_101 rfl rfl
      exact absurd (show ([x1, x2] : List Int32) = [y0, y1] by rw [sbyte (hok x1 (List.mem_of_getElem? (i := 1) rfl)) (hoy y0 (List.mem_of_getElem? (i := 0) rfl)) hc1, sbyte (hok x2 (List.mem_of_getElem? (i := 2) rfl)) (hoy y1 (List.mem_of_getElem? (i := 1) rfl)) hc2]) hne
    · replace R := R.icmpN (pc' := 92) d29_89 (feq hc2).1 rfl
      replace R := R.iload (pc' := 94) d29_92 rfl rfl
      exact R.retI (Ds' := Ds) hret d29_94 (by decide) (by decide) (fun _ q => q) ⟨_, rfl, by decide, rfl, rfl⟩
  · replace R := R.icmpN (pc' := 92) d29_89 (feq hc1).1 rfl
    replace R := R.iload (pc' := 94) d29_92 rfl rfl
    exact R.retI (Ds' := Ds) hret d29_94 (by decide) (by decide) (fun _ q => q) ⟨_, rfl, by decide, rfl, rfl⟩
theorem rm_rmn1_3 (l : Launch) (Z : State) (a0 : Array Value) (hw : HW a0 Z) (a b : Addr) (h : Heap) (n0 : Nat) (Ds : List Addr) (own_cs : CompactOn Z) {x0 x1 x2 x3 : Int32} {y0 y1 : Int32} (S_a : IsStr Z h a [x0, x1, x2, x3]) (S_b : IsStr Z h b [y0, y1]) (hne : ¬ ([x1, x2] : List Int32) = [y0, y1]) :
    Ctr l Z (⟨"java/lang/String", "regionMatches", "(ILjava/lang/String;II)Z"⟩ : MethodName) jdk_42_method_73_code 8 (some .boolean) [] (rmo 2 0 0 27) #[.ref a, .int (1 : Int32), .ref b, .int (0 : Int32), .int (2 : Int32)] h n0 Ds (fun v h' Ds' => v = some (.int (0 : Int32)) ∧ h = h' ∧ Ds = Ds') := by
  refine ctr_of (Ls := #[.val (.ref a), .val (.int (1 : Int32)), .val (.ref b), .val (.int (0 : Int32)), .val (.int (2 : Int32)), .unset, .unset, .unset]) (plainFor_of_name pn0) (fun m => by first | (simp [entryFrame, mkF, argsToLocals, Value.category]; done) | rfl) ?_
  intro C hl hret hnm R
  subst hl
  have S_0 := S_a
  have S_1 := S_b
  obtain ⟨e1, e2, e3, e4, t, kt, e5, e6⟩ := S_a
  have e7 : Arv Z h t kt .byte (4 : Int32) [(.int x0.toInt8.toInt32), (.int x1.toInt8.toInt32), (.int x2.toInt8.toInt32), (.int x3.toInt8.toInt32)] (.int 0) := e6
  have hok := e3
  obtain ⟨e1_b, e2_b, e3_b, e4_b, t_b, kt_b, e5_b, e6_b⟩ := S_b
  have e7_b : Arv Z h t_b kt_b .byte (2 : Int32) [(.int y0.toInt8.toInt32), (.int y1.toInt8.toInt32)] (.int 0) := e6_b
  have hoy := e3_b
  replace R := (((((R.iloadN (pc' := 1) d17_0 rfl rfl).ifN (pc' := 4) d17_1 (flt (by decide : ¬ ((0 : Int32) < (0 : Int32)))).1 rfl).iloadN (pc' := 5) d17_4 rfl rfl).ifN (pc' := 8) d17_5 (flt (by decide : ¬ ((1 : Int32) < (0 : Int32)))).1 rfl).iloadN (pc' := 9) d17_8 rfl rfl).i2l (pc' := 10) d17_9 rfl
  replace R := (R.stk (S' := [(.long (1 : Int64))]) rfl).aloadN (pc' := 11) (v := (.ref a)) d17_10 rfl rfl rfl
  replace R := own_pure (R.callV (pc' := 14) (y := (⟨"java/lang/String", "length", "()I"⟩ : MethodName)) (z := (⟨"java/lang/String", "length", "()I"⟩ : MethodName)) (argsL := []) (rest := [(.long (1 : Int64))]) (W := 2) (w55 hw) (w56 hw) (fun s' hZ' => notFace_of_selects (args := #[]) (mvT hZ' (w58 hw))) (w58 hw) (w57 hw) (w7 hw) (w59 hw) (by decide) e1 (rm_length C.l Z a0 hw a h n0 Ds own_cs S_0) rfl (lenOf pd6 rfl) rfl rfl d17_11 (by decide) (by decide) (by decide) (by decide) rfl)
  replace R := (((((R.i2l (pc' := 15) d17_14 rfl).stk (S' := [(.long (4 : Int64)), (.long (1 : Int64))]) rfl).iload (pc' := 17) d17_15 rfl rfl).i2l (pc' := 18) d17_17 rfl).stk (S' := [(.long (2 : Int64)), (.long (4 : Int64)), (.long (1 : Int64))]) rfl).lsub (pc' := 19) d17_18 rfl
  replace R := (((((R.stk (S' := [(.long (2 : Int64)), (.long (1 : Int64))]) rfl).lcmp (pc' := 20) d17_19 rfl).stk (S' := [(.int (-1 : Int32))]) rfl).ifN (pc' := 23) d17_20 (flt (by decide : ¬ ((0 : Int32) < (-1 : Int32)))).2.2.1 rfl).iloadN (pc' := 24) d17_23 rfl rfl).i2l (pc' := 25) d17_24 rfl
  replace R := (R.stk (S' := [(.long (0 : Int64))]) rfl).aloadN (pc' := 26) (v := (.ref b)) d17_25 rfl rfl rfl
  replace R := own_pure (R.callV (pc' := 29) (y := (⟨"java/lang/String", "length", "()I"⟩ : MethodName)) (z := (⟨"java/lang/String", "length", "()I"⟩ : MethodName)) (argsL := []) (rest := [(.long (0 : Int64))]) (W := 2) (w55 hw) (w56 hw) (fun s' hZ' => notFace_of_selects (args := #[]) (mvT hZ' (w58 hw))) (w58 hw) (w57 hw) (w7 hw) (w59 hw) (by decide) e1_b (rm_length C.l Z a0 hw b h n0 Ds own_cs S_1) rfl (lenOf pd6 rfl) rfl rfl d17_26 (by decide) (by decide) (by decide) (by decide) rfl)
  replace R := (((((R.i2l (pc' := 30) d17_29 rfl).stk (S' := [(.long (2 : Int64)), (.long (0 : Int64))]) rfl).iload (pc' := 32) d17_30 rfl rfl).i2l (pc' := 33) d17_32 rfl).stk (S' := [(.long (2 : Int64)), (.long (2 : Int64)), (.long (0 : Int64))]) rfl).lsub (pc' := 34) d17_33 rfl
  replace R := (((((R.stk (S' := [(.long (0 : Int64)), (.long (0 : Int64))]) rfl).lcmp (pc' := 35) d17_34 rfl).stk (S' := [(.int (0 : Int32))]) rfl).ifY (pc' := 40) d17_35 (flt (by decide : ¬ ((0 : Int32) < (0 : Int32)))).2.2.2 (by decide) rfl).iload (pc' := 42) d17_40 rfl rfl).ifY (pc' := 47) d17_42 (tlt (by decide : (0 : Int32) < (2 : Int32))).2.2.1 (by decide) rfl
  replace R := (((((R.aloadN (pc' := 48) (v := (.ref a)) d17_47 rfl rfl rfl).getF (pc' := 51) (host := "") (Or.inl (w32 hw)) Via.refl e5 d17_48 rfl).astore (pc' := 53) (l' := #[.val (.ref a), .val (.int (1 : Int32)), .val (.ref b), .val (.int (0 : Int32)), .val (.int (2 : Int32)), .val (.ref t), .unset, .unset]) d17_51 rfl rfl rfl).aloadN (pc' := 54) (v := (.ref b)) d17_53 rfl rfl rfl).getF (pc' := 57) (host := "") (Or.inl (w32 hw)) Via.refl e5_b d17_54 rfl).astore (pc' := 59) (l' := #[.val (.ref a), .val (.int (1 : Int32)), .val (.ref b), .val (.int (0 : Int32)), .val (.int (2 : Int32)), .val (.ref t), .val (.ref t_b), .unset]) d17_57 rfl rfl rfl
  replace R := R.aloadN (pc' := 60) (v := (.ref a)) d17_59 rfl rfl rfl
  replace R := own_pure (R.callV (pc' := 63) (y := (⟨"java/lang/String", "coder", "()B"⟩ : MethodName)) (z := (⟨"java/lang/String", "coder", "()B"⟩ : MethodName)) (argsL := []) (rest := []) (W := 0) (w60 hw) (w61 hw) (fun s' hZ' => notFace_of_selects (args := #[]) (mvT hZ' (w63 hw))) (w63 hw) (w62 hw) (w7 hw) (w64 hw) (by decide) e1 (rm_coder C.l Z a0 hw a h n0 Ds own_cs e2) rfl (lenOf pd0 rfl) rfl rfl d17_60 (by decide) (by decide) (by decide) (by decide) rfl)
  replace R := ((R.istore (pc' := 65) (l' := #[.val (.ref a), .val (.int (1 : Int32)), .val (.ref b), .val (.int (0 : Int32)), .val (.int (2 : Int32)), .val (.ref t), .val (.ref t_b), .val (.int (0 : Int32))]) d17_63 rfl rfl).iload (pc' := 67) d17_65 rfl rfl).aloadN (pc' := 68) (v := (.ref b)) d17_67 rfl rfl rfl
  replace R := own_pure (R.callV (pc' := 71) (y := (⟨"java/lang/String", "coder", "()B"⟩ : MethodName)) (z := (⟨"java/lang/String", "coder", "()B"⟩ : MethodName)) (argsL := []) (rest := [(.int (0 : Int32))]) (W := 1) (w60 hw) (w61 hw) (fun s' hZ' => notFace_of_selects (args := #[]) (mvT hZ' (w63 hw))) (w63 hw) (w62 hw) (w7 hw) (w64 hw) (by decide) e1_b (rm_coder C.l Z a0 hw b h n0 Ds own_cs e2_b) rfl (lenOf pd0 rfl) rfl rfl d17_68 (by decide) (by decide) (by decide) (by decide) rfl)
  replace R := (((((R.icmpN (pc' := 74) d17_71 (teq (by decide : (0 : Int32) = (0 : Int32))).2 rfl).iload (pc' := 76) d17_74 rfl rfl).iconst (pc' := 77) (z := (1 : Int32)) d17_76 rfl rfl).icmpY (pc' := 94) d17_77 (feq (by decide : ¬ ((0 : Int32) = (1 : Int32)))).2 (by decide) rfl).aload (pc' := 96) (v := (.ref t)) d17_94 rfl rfl rfl).iloadN (pc' := 97) d17_96 rfl rfl
  replace R := ((R.aload (pc' := 99) (v := (.ref t_b)) d17_97 rfl rfl rfl).iloadN (pc' := 100) d17_99 rfl rfl).iload (pc' := 102) d17_100 rfl rfl
  obtain ⟨_, _, _, ⟨zz, rfl, hzz, rfl, rfl⟩, R⟩ := R.callS (pc' := 105) (argsL := [(.ref t), (.int (1 : Int32)), (.ref t_b), (.int (0 : Int32)), (.int (2 : Int32))]) (rest := []) (W := 0) (w135 hw) (w136 hw) (w137 hw) (w138 hw) (by decide) (rm_mmn1_3 C.l Z a0 hw h n0 Ds hok hoy e7 e7_b hne) rfl (lenOf pd12 rfl) rfl rfl d17_102 (by decide) (by decide) (by decide) (by decide) rfl
  replace R := (((R.mono (ce' := 0) (sl' := 0) (by decide) (by decide)).stk (S' := [(.int zz)]) rfl).ifY (pc' := 112) d17_105 (flt hzz).2.1 (by decide) rfl).iconst (pc' := 113) (z := (0 : Int32)) d17_112 rfl rfl
  exact R.retN (Ds' := Ds) hret (by simp) (show nar .boolean (0 : Int32) = (0 : Int32) from rfl) d17_113 (by decide) (by decide) (fun _ q => q) ⟨rfl, rfl, rfl⟩
theorem rm_mme1_4 (l : Launch) (Z : State) (a0 : Array Value) (hw : HW a0 Z) (h : Heap) (n0 : Nat) (Ds : List Addr) {x0 x1 x2 x3 : Int32} (hok : ∀ c ∈ ([x0, x1, x2, x3] : List Int32), ¬ c < 0 ∧ ¬ (255 : Int32) < c) (hoy : ∀ c ∈ ([x1, x2, x3] : List Int32), ¬ c < 0 ∧ ¬ (255 : Int32) < c) {t : Addr} {kt : ClassId} (V_t : Arv Z h t kt .byte (4 : Int32) [(.int x0.toInt8.toInt32), (.int x1.toInt8.toInt32), (.int x2.toInt8.toInt32), (.int x3.toInt8.toInt32)] (.int 0)) {u : Addr} {ku : ClassId} (V_u : Arv Z h u ku .byte (3 : Int32) [(.int x1.toInt8.toInt32), (.int x2.toInt8.toInt32), (.int x3.toInt8.toInt32)] (.int 0)) :
    Ctr l Z (⟨"jdk/internal/util/ArraysSupport", "mismatch", "([BI[BII)I"⟩ : MethodName) jdk_48_method_14_code 8 (some .int) [] (rmo 0 0 0 0) #[.ref t, .int (1 : Int32), .ref u, .int (0 : Int32), .int (3 : Int32)] h n0 Ds (fun v h' Ds' => v = some (.int (-1 : Int32)) ∧ h = h' ∧ Ds = Ds') := by
  refine ctr_of (Ls := #[.val (.ref t), .val (.int (1 : Int32)), .val (.ref u), .val (.int (0 : Int32)), .val (.int (3 : Int32)), .unset, .unset, .unset]) (plainFor_of_name pn4) (fun m => by first | (simp [entryFrame, mkF, argsToLocals, Value.category]; done) | rfl) ?_
  intro C hl hret hnm R
  subst hl
  replace R := (((((R.iconst (pc' := 1) (z := (0 : Int32)) d29_0 rfl rfl).istore (pc' := 3) (l' := #[.val (.ref t), .val (.int (1 : Int32)), .val (.ref u), .val (.int (0 : Int32)), .val (.int (3 : Int32)), .val (.int (0 : Int32)), .unset, .unset]) d29_1 rfl rfl).iload (pc' := 5) d29_3 rfl rfl).bipush (pc' := 7) (z := (7 : Int32)) d29_5 rfl rfl).icmpY (pc' := 70) d29_7 (flt (by decide : ¬ ((7 : Int32) < (3 : Int32)))).2.2.2 (by decide) rfl).iload (pc' := 72) d29_70 rfl rfl
  replace R := (((((R.iload (pc' := 74) d29_72 rfl rfl).icmpN (pc' := 77) d29_74 (tlt (by decide : (0 : Int32) < (3 : Int32))).2.1 rfl).aloadN (pc' := 78) (v := (.ref t)) d29_77 rfl rfl rfl).iloadN (pc' := 79) d29_78 rfl rfl).iload (pc' := 81) d29_79 rfl rfl).iadd (pc' := 82) d29_81 rfl
  replace R := (((((R.stk (S' := [(.int (1 : Int32)), (.ref t)]) rfl).baload (pc' := 83) (v := (.int x1.toInt8.toInt32)) V_t ⟨by decide, by decide⟩ rfl d29_82 rfl).aloadN (pc' := 84) (v := (.ref u)) d29_83 rfl rfl rfl).iloadN (pc' := 85) d29_84 rfl rfl).iload (pc' := 87) d29_85 rfl rfl).iadd (pc' := 88) d29_87 rfl
  replace R := (((((R.stk (S' := [(.int (0 : Int32)), (.ref u), (.int x1.toInt8.toInt32)]) rfl).baload (pc' := 89) (v := (.int x1.toInt8.toInt32)) V_u ⟨by decide, by decide⟩ rfl d29_88 rfl).icmpY (pc' := 95) d29_89 (teq (rfl : x1.toInt8.toInt32 = x1.toInt8.toInt32)).1 (by decide) rfl).iinc (pc' := 98) (l' := #[.val (.ref t), .val (.int (1 : Int32)), .val (.ref u), .val (.int (0 : Int32)), .val (.int (3 : Int32)), .val (.int (1 : Int32)), .unset, .unset]) d29_95 rfl rfl rfl).goto (pc' := 70) d29_98 (by decide) rfl).iload (pc' := 72) d29_70 rfl rfl
  replace R := (((((R.iload (pc' := 74) d29_72 rfl rfl).icmpN (pc' := 77) d29_74 (tlt (by decide : (1 : Int32) < (3 : Int32))).2.1 rfl).aloadN (pc' := 78) (v := (.ref t)) d29_77 rfl rfl rfl).iloadN (pc' := 79) d29_78 rfl rfl).iload (pc' := 81) d29_79 rfl rfl).iadd (pc' := 82) d29_81 rfl
  replace R := (((((R.stk (S' := [(.int (2 : Int32)), (.ref t)]) rfl).baload (pc' := 83) (v := (.int x2.toInt8.toInt32)) V_t ⟨by decide, by decide⟩ rfl d29_82 rfl).aloadN (pc' := 84) (v := (.ref u)) d29_83 rfl rfl rfl).iloadN (pc' := 85) d29_84 rfl rfl).iload (pc' := 87) d29_85 rfl rfl).iadd (pc' := 88) d29_87 rfl
  replace R := (((((R.stk (S' := [(.int (1 : Int32)), (.ref u), (.int x2.toInt8.toInt32)]) rfl).baload (pc' := 89) (v := (.int x2.toInt8.toInt32)) V_u ⟨by decide, by decide⟩ rfl d29_88 rfl).icmpY (pc' := 95) d29_89 (teq (rfl : x2.toInt8.toInt32 = x2.toInt8.toInt32)).1 (by decide) rfl).iinc (pc' := 98) (l' := #[.val (.ref t), .val (.int (1 : Int32)), .val (.ref u), .val (.int (0 : Int32)), .val (.int (3 : Int32)), .val (.int (2 : Int32)), .unset, .unset]) d29_95 rfl rfl rfl).goto (pc' := 70) d29_98 (by decide) rfl).iload (pc' := 72) d29_70 rfl rfl
  replace R := (((((R.iload (pc' := 74) d29_72 rfl rfl).icmpN (pc' := 77) d29_74 (tlt (by decide : (2 : Int32) < (3 : Int32))).2.1 rfl).aloadN (pc' := 78) (v := (.ref t)) d29_77 rfl rfl rfl).iloadN (pc' := 79) d29_78 rfl rfl).iload (pc' := 81) d29_79 rfl rfl).iadd (pc' := 82) d29_81 rfl
  replace R := (((((R.stk (S' := [(.int (3 : Int32)), (.ref t)]) rfl).baload (pc' := 83) (v := (.int x3.toInt8.toInt32)) V_t ⟨by decide, by decide⟩ rfl d29_82 rfl).aloadN (pc' := 84) (v := (.ref u)) d29_83 rfl rfl rfl).iloadN (pc' := 85) d29_84 rfl rfl).iload (pc' := 87) d29_85 rfl rfl).iadd (pc' := 88) d29_87 rfl
  replace R := (((((R.stk (S' := [(.int (2 : Int32)), (.ref u), (.int x3.toInt8.toInt32)]) rfl).baload (pc' := 89) (v := (.int x3.toInt8.toInt32)) V_u ⟨by decide, by decide⟩ rfl d29_88 rfl).icmpY (pc' := 95) d29_89 (teq (rfl : x3.toInt8.toInt32 = x3.toInt8.toInt32)).1 (by decide) rfl).iinc (pc' := 98) (l' := #[.val (.ref t), .val (.int (1 : Int32)), .val (.ref u), .val (.int (0 : Int32)), .val (.int (3 : Int32)), .val (.int (3 : Int32)), .unset, .unset]) d29_95 rfl rfl rfl).goto (pc' := 70) d29_98 (by decide) rfl).iload (pc' := 72) d29_70 rfl rfl
  replace R := ((R.iload (pc' := 74) d29_72 rfl rfl).icmpY (pc' := 101) d29_74 (flt (by decide : ¬ ((3 : Int32) < (3 : Int32)))).2.1 (by decide) rfl).iconst (pc' := 102) (z := (-1 : Int32)) d29_101 rfl rfl
  exact R.retI (Ds' := Ds) hret d29_102 (by decide) (by decide) (fun _ q => q) ⟨rfl, rfl, rfl⟩
theorem rm_rme1_4 (l : Launch) (Z : State) (a0 : Array Value) (hw : HW a0 Z) (a b : Addr) (h : Heap) (n0 : Nat) (Ds : List Addr) (own_cs : CompactOn Z) {x0 x1 x2 x3 : Int32} (S_a : IsStr Z h a [x0, x1, x2, x3]) (S_b : IsStr Z h b [x1, x2, x3]) :
    Ctr l Z (⟨"java/lang/String", "regionMatches", "(ILjava/lang/String;II)Z"⟩ : MethodName) jdk_42_method_73_code 8 (some .boolean) [] (rmo 2 0 0 27) #[.ref a, .int (1 : Int32), .ref b, .int (0 : Int32), .int (3 : Int32)] h n0 Ds (fun v h' Ds' => v = some (.int (1 : Int32)) ∧ h = h' ∧ Ds = Ds') := by
  refine ctr_of (Ls := #[.val (.ref a), .val (.int (1 : Int32)), .val (.ref b), .val (.int (0 : Int32)), .val (.int (3 : Int32)), .unset, .unset, .unset]) (plainFor_of_name pn0) (fun m => by first | (simp [entryFrame, mkF, argsToLocals, Value.category]; done) | rfl) ?_
  intro C hl hret hnm R
  subst hl
  have S_0 := S_a
  have S_1 := S_b
  obtain ⟨e1, e2, e3, e4, t, kt, e5, e6⟩ := S_a
  have e7 : Arv Z h t kt .byte (4 : Int32) [(.int x0.toInt8.toInt32), (.int x1.toInt8.toInt32), (.int x2.toInt8.toInt32), (.int x3.toInt8.toInt32)] (.int 0) := e6
  have hok := e3
  obtain ⟨e1_b, e2_b, e3_b, e4_b, t_b, kt_b, e5_b, e6_b⟩ := S_b
  have e7_b : Arv Z h t_b kt_b .byte (3 : Int32) [(.int x1.toInt8.toInt32), (.int x2.toInt8.toInt32), (.int x3.toInt8.toInt32)] (.int 0) := e6_b
  have hoy := e3_b
  replace R := (((((R.iloadN (pc' := 1) d17_0 rfl rfl).ifN (pc' := 4) d17_1 (flt (by decide : ¬ ((0 : Int32) < (0 : Int32)))).1 rfl).iloadN (pc' := 5) d17_4 rfl rfl).ifN (pc' := 8) d17_5 (flt (by decide : ¬ ((1 : Int32) < (0 : Int32)))).1 rfl).iloadN (pc' := 9) d17_8 rfl rfl).i2l (pc' := 10) d17_9 rfl
  replace R := (R.stk (S' := [(.long (1 : Int64))]) rfl).aloadN (pc' := 11) (v := (.ref a)) d17_10 rfl rfl rfl
  replace R := own_pure (R.callV (pc' := 14) (y := (⟨"java/lang/String", "length", "()I"⟩ : MethodName)) (z := (⟨"java/lang/String", "length", "()I"⟩ : MethodName)) (argsL := []) (rest := [(.long (1 : Int64))]) (W := 2) (w55 hw) (w56 hw) (fun s' hZ' => notFace_of_selects (args := #[]) (mvT hZ' (w58 hw))) (w58 hw) (w57 hw) (w7 hw) (w59 hw) (by decide) e1 (rm_length C.l Z a0 hw a h n0 Ds own_cs S_0) rfl (lenOf pd6 rfl) rfl rfl d17_11 (by decide) (by decide) (by decide) (by decide) rfl)
  replace R := (((((R.i2l (pc' := 15) d17_14 rfl).stk (S' := [(.long (4 : Int64)), (.long (1 : Int64))]) rfl).iload (pc' := 17) d17_15 rfl rfl).i2l (pc' := 18) d17_17 rfl).stk (S' := [(.long (3 : Int64)), (.long (4 : Int64)), (.long (1 : Int64))]) rfl).lsub (pc' := 19) d17_18 rfl
  replace R := (((((R.stk (S' := [(.long (1 : Int64)), (.long (1 : Int64))]) rfl).lcmp (pc' := 20) d17_19 rfl).stk (S' := [(.int (0 : Int32))]) rfl).ifN (pc' := 23) d17_20 (flt (by decide : ¬ ((0 : Int32) < (0 : Int32)))).2.2.1 rfl).iloadN (pc' := 24) d17_23 rfl rfl).i2l (pc' := 25) d17_24 rfl
  replace R := (R.stk (S' := [(.long (0 : Int64))]) rfl).aloadN (pc' := 26) (v := (.ref b)) d17_25 rfl rfl rfl
  replace R := own_pure (R.callV (pc' := 29) (y := (⟨"java/lang/String", "length", "()I"⟩ : MethodName)) (z := (⟨"java/lang/String", "length", "()I"⟩ : MethodName)) (argsL := []) (rest := [(.long (0 : Int64))]) (W := 2) (w55 hw) (w56 hw) (fun s' hZ' => notFace_of_selects (args := #[]) (mvT hZ' (w58 hw))) (w58 hw) (w57 hw) (w7 hw) (w59 hw) (by decide) e1_b (rm_length C.l Z a0 hw b h n0 Ds own_cs S_1) rfl (lenOf pd6 rfl) rfl rfl d17_26 (by decide) (by decide) (by decide) (by decide) rfl)
  replace R := (((((R.i2l (pc' := 30) d17_29 rfl).stk (S' := [(.long (3 : Int64)), (.long (0 : Int64))]) rfl).iload (pc' := 32) d17_30 rfl rfl).i2l (pc' := 33) d17_32 rfl).stk (S' := [(.long (3 : Int64)), (.long (3 : Int64)), (.long (0 : Int64))]) rfl).lsub (pc' := 34) d17_33 rfl
  replace R := (((((R.stk (S' := [(.long (0 : Int64)), (.long (0 : Int64))]) rfl).lcmp (pc' := 35) d17_34 rfl).stk (S' := [(.int (0 : Int32))]) rfl).ifY (pc' := 40) d17_35 (flt (by decide : ¬ ((0 : Int32) < (0 : Int32)))).2.2.2 (by decide) rfl).iload (pc' := 42) d17_40 rfl rfl).ifY (pc' := 47) d17_42 (tlt (by decide : (0 : Int32) < (3 : Int32))).2.2.1 (by decide) rfl
  replace R := (((((R.aloadN (pc' := 48) (v := (.ref a)) d17_47 rfl rfl rfl).getF (pc' := 51) (host := "") (Or.inl (w32 hw)) Via.refl e5 d17_48 rfl).astore (pc' := 53) (l' := #[.val (.ref a), .val (.int (1 : Int32)), .val (.ref b), .val (.int (0 : Int32)), .val (.int (3 : Int32)), .val (.ref t), .unset, .unset]) d17_51 rfl rfl rfl).aloadN (pc' := 54) (v := (.ref b)) d17_53 rfl rfl rfl).getF (pc' := 57) (host := "") (Or.inl (w32 hw)) Via.refl e5_b d17_54 rfl).astore (pc' := 59) (l' := #[.val (.ref a), .val (.int (1 : Int32)), .val (.ref b), .val (.int (0 : Int32)), .val (.int (3 : Int32)), .val (.ref t), .val (.ref t_b), .unset]) d17_57 rfl rfl rfl
  replace R := R.aloadN (pc' := 60) (v := (.ref a)) d17_59 rfl rfl rfl
  replace R := own_pure (R.callV (pc' := 63) (y := (⟨"java/lang/String", "coder", "()B"⟩ : MethodName)) (z := (⟨"java/lang/String", "coder", "()B"⟩ : MethodName)) (argsL := []) (rest := []) (W := 0) (w60 hw) (w61 hw) (fun s' hZ' => notFace_of_selects (args := #[]) (mvT hZ' (w63 hw))) (w63 hw) (w62 hw) (w7 hw) (w64 hw) (by decide) e1 (rm_coder C.l Z a0 hw a h n0 Ds own_cs e2) rfl (lenOf pd0 rfl) rfl rfl d17_60 (by decide) (by decide) (by decide) (by decide) rfl)
  replace R := ((R.istore (pc' := 65) (l' := #[.val (.ref a), .val (.int (1 : Int32)), .val (.ref b), .val (.int (0 : Int32)), .val (.int (3 : Int32)), .val (.ref t), .val (.ref t_b), .val (.int (0 : Int32))]) d17_63 rfl rfl).iload (pc' := 67) d17_65 rfl rfl).aloadN (pc' := 68) (v := (.ref b)) d17_67 rfl rfl rfl
  replace R := own_pure (R.callV (pc' := 71) (y := (⟨"java/lang/String", "coder", "()B"⟩ : MethodName)) (z := (⟨"java/lang/String", "coder", "()B"⟩ : MethodName)) (argsL := []) (rest := [(.int (0 : Int32))]) (W := 1) (w60 hw) (w61 hw) (fun s' hZ' => notFace_of_selects (args := #[]) (mvT hZ' (w63 hw))) (w63 hw) (w62 hw) (w7 hw) (w64 hw) (by decide) e1_b (rm_coder C.l Z a0 hw b h n0 Ds own_cs e2_b) rfl (lenOf pd0 rfl) rfl rfl d17_68 (by decide) (by decide) (by decide) (by decide) rfl)
  replace R := (((((R.icmpN (pc' := 74) d17_71 (teq (by decide : (0 : Int32) = (0 : Int32))).2 rfl).iload (pc' := 76) d17_74 rfl rfl).iconst (pc' := 77) (z := (1 : Int32)) d17_76 rfl rfl).icmpY (pc' := 94) d17_77 (feq (by decide : ¬ ((0 : Int32) = (1 : Int32)))).2 (by decide) rfl).aload (pc' := 96) (v := (.ref t)) d17_94 rfl rfl rfl).iloadN (pc' := 97) d17_96 rfl rfl
  replace R := ((R.aload (pc' := 99) (v := (.ref t_b)) d17_97 rfl rfl rfl).iloadN (pc' := 100) d17_99 rfl rfl).iload (pc' := 102) d17_100 rfl rfl
  replace R := own_pure (R.callS (pc' := 105) (argsL := [(.ref t), (.int (1 : Int32)), (.ref t_b), (.int (0 : Int32)), (.int (3 : Int32))]) (rest := []) (W := 0) (w135 hw) (w136 hw) (w137 hw) (w138 hw) (by decide) (rm_mme1_4 C.l Z a0 hw h n0 Ds hok hoy e7 e7_b) rfl (lenOf pd12 rfl) rfl rfl d17_102 (by decide) (by decide) (by decide) (by decide) rfl)
  replace R := ((R.ifN (pc' := 108) d17_105 (tlt (by decide : (-1 : Int32) < (0 : Int32))).2.1 rfl).iconst (pc' := 109) (z := (1 : Int32)) d17_108 rfl rfl).goto (pc' := 113) d17_109 (by decide) rfl
  exact R.retN (Ds' := Ds) hret (by simp) (show nar .boolean (1 : Int32) = (1 : Int32) from rfl) d17_113 (by decide) (by decide) (fun _ q => q) ⟨rfl, rfl, rfl⟩
theorem rm_mmn1_4 (l : Launch) (Z : State) (a0 : Array Value) (hw : HW a0 Z) (h : Heap) (n0 : Nat) (Ds : List Addr) {x0 x1 x2 x3 : Int32} {y0 y1 y2 : Int32} (hok : ∀ c ∈ ([x0, x1, x2, x3] : List Int32), ¬ c < 0 ∧ ¬ (255 : Int32) < c) (hoy : ∀ c ∈ ([y0, y1, y2] : List Int32), ¬ c < 0 ∧ ¬ (255 : Int32) < c) {t : Addr} {kt : ClassId} (V_t : Arv Z h t kt .byte (4 : Int32) [(.int x0.toInt8.toInt32), (.int x1.toInt8.toInt32), (.int x2.toInt8.toInt32), (.int x3.toInt8.toInt32)] (.int 0)) {u : Addr} {ku : ClassId} (V_u : Arv Z h u ku .byte (3 : Int32) [(.int y0.toInt8.toInt32), (.int y1.toInt8.toInt32), (.int y2.toInt8.toInt32)] (.int 0)) (hne : ¬ ([x1, x2, x3] : List Int32) = [y0, y1, y2]) :
    Ctr l Z (⟨"jdk/internal/util/ArraysSupport", "mismatch", "([BI[BII)I"⟩ : MethodName) jdk_48_method_14_code 8 (some .int) [] (rmo 0 0 0 0) #[.ref t, .int (1 : Int32), .ref u, .int (0 : Int32), .int (3 : Int32)] h n0 Ds (fun v h' Ds' => ∃ z : Int32, v = some (.int z) ∧ ¬ z < 0 ∧ h = h' ∧ Ds = Ds') := by
  refine ctr_of (Ls := #[.val (.ref t), .val (.int (1 : Int32)), .val (.ref u), .val (.int (0 : Int32)), .val (.int (3 : Int32)), .unset, .unset, .unset]) (plainFor_of_name pn4) (fun m => by first | (simp [entryFrame, mkF, argsToLocals, Value.category]; done) | rfl) ?_
  intro C hl hret hnm R
  subst hl
  replace R := (((((R.iconst (pc' := 1) (z := (0 : Int32)) d29_0 rfl rfl).istore (pc' := 3) (l' := #[.val (.ref t), .val (.int (1 : Int32)), .val (.ref u), .val (.int (0 : Int32)), .val (.int (3 : Int32)), .val (.int (0 : Int32)), .unset, .unset]) d29_1 rfl rfl).iload (pc' := 5) d29_3 rfl rfl).bipush (pc' := 7) (z := (7 : Int32)) d29_5 rfl rfl).icmpY (pc' := 70) d29_7 (flt (by decide : ¬ ((7 : Int32) < (3 : Int32)))).2.2.2 (by decide) rfl).iload (pc' := 72) d29_70 rfl rfl
  replace R := (((((R.iload (pc' := 74) d29_72 rfl rfl).icmpN (pc' := 77) d29_74 (tlt (by decide : (0 : Int32) < (3 : Int32))).2.1 rfl).aloadN (pc' := 78) (v := (.ref t)) d29_77 rfl rfl rfl).iloadN (pc' := 79) d29_78 rfl rfl).iload (pc' := 81) d29_79 rfl rfl).iadd (pc' := 82) d29_81 rfl
  replace R := (((((R.stk (S' := [(.int (1 : Int32)), (.ref t)]) rfl).baload (pc' := 83) (v := (.int x1.toInt8.toInt32)) V_t ⟨by decide, by decide⟩ rfl d29_82 rfl).aloadN (pc' := 84) (v := (.ref u)) d29_83 rfl rfl rfl).iloadN (pc' := 85) d29_84 rfl rfl).iload (pc' := 87) d29_85 rfl rfl).iadd (pc' := 88) d29_87 rfl
  replace R := (R.stk (S' := [(.int (0 : Int32)), (.ref u), (.int x1.toInt8.toInt32)]) rfl).baload (pc' := 89) (v := (.int y0.toInt8.toInt32)) V_u ⟨by decide, by decide⟩ rfl d29_88 rfl
  by_cases hc1 : x1.toInt8.toInt32 = y0.toInt8.toInt32
  · replace R := R.icmpY (pc' := 95) d29_89 (teq hc1).1 (by decide) rfl
    replace R := (((((R.iinc (pc' := 98) (l' := #[.val (.ref t), .val (.int (1 : Int32)), .val (.ref u), .val (.int (0 : Int32)), .val (.int (3 : Int32)), .val (.int (1 : Int32)), .unset, .unset]) d29_95 rfl rfl rfl).goto (pc' := 70) d29_98 (by decide) rfl).iload (pc' := 72) d29_70 rfl rfl).iload (pc' := 74) d29_72 rfl rfl).icmpN (pc' := 77) d29_74 (tlt (by decide : (1 : Int32) < (3 : Int32))).2.1 rfl).aloadN (pc' := 78) (v := (.ref t)) d29_77 rfl rfl rfl
    replace R := (((((R.iloadN (pc' := 79) d29_78 rfl rfl).iload (pc' := 81) d29_79 rfl rfl).iadd (pc' := 82) d29_81 rfl).stk (S' := [(.int (2 : Int32)), (.ref t)]) rfl).baload (pc' := 83) (v := (.int x2.toInt8.toInt32)) V_t ⟨by decide, by decide⟩ rfl d29_82 rfl).aloadN (pc' := 84) (v := (.ref u)) d29_83 rfl rfl rfl
    replace R := ((((R.iloadN (pc' := 85) d29_84 rfl rfl).iload (pc' := 87) d29_85 rfl rfl).iadd (pc' := 88) d29_87 rfl).stk (S' := [(.int (1 : Int32)), (.ref u), (.int x2.toInt8.toInt32)]) rfl).baload (pc' := 89) (v := (.int y1.toInt8.toInt32)) V_u ⟨by decide, by decide⟩ rfl d29_88 rfl
    by_cases hc2 : x2.toInt8.toInt32 = y1.toInt8.toInt32
    · replace R := R.icmpY (pc' := 95) d29_89 (teq hc2).1 (by decide) rfl
      replace R := (((((R.iinc (pc' := 98) (l' := #[.val (.ref t), .val (.int (1 : Int32)), .val (.ref u), .val (.int (0 : Int32)), .val (.int (3 : Int32)), .val (.int (2 : Int32)), .unset, .unset]) d29_95 rfl rfl rfl).goto (pc' := 70) d29_98 (by decide) rfl).iload (pc' := 72) d29_70 rfl rfl).iload (pc' := 74) d29_72 rfl rfl).icmpN (pc' := 77) d29_74 (tlt (by decide : (2 : Int32) < (3 : Int32))).2.1 rfl).aloadN (pc' := 78) (v := (.ref t)) d29_77 rfl rfl rfl
      replace R := (((((R.iloadN (pc' := 79) d29_78 rfl rfl).iload (pc' := 81) d29_79 rfl rfl).iadd (pc' := 82) d29_81 rfl).stk (S' := [(.int (3 : Int32)), (.ref t)]) rfl).baload (pc' := 83) (v := (.int x3.toInt8.toInt32)) V_t ⟨by decide, by decide⟩ rfl d29_82 rfl).aloadN (pc' := 84) (v := (.ref u)) d29_83 rfl rfl rfl
      replace R := ((((R.iloadN (pc' := 85) d29_84 rfl rfl).iload (pc' := 87) d29_85 rfl rfl).iadd (pc' := 88) d29_87 rfl).stk (S' := [(.int (2 : Int32)), (.ref u), (.int x3.toInt8.toInt32)]) rfl).baload (pc' := 89) (v := (.int y2.toInt8.toInt32)) V_u ⟨by decide, by decide⟩ rfl d29_88 rfl
      by_cases hc3 : x3.toInt8.toInt32 = y2.toInt8.toInt32
      · replace R := R.icmpY (pc' := 95) d29_89 (teq hc3).1 (by decide) rfl
        replace R := (((((R.iinc (pc' := 98) (l' := #[.val (.ref t), .val (.int (1 : Int32)), .val (.ref u), .val (.int (0 : Int32)), .val (.int (3 : Int32)), .val (.int (3 : Int32)), .unset, .unset]) d29_95 rfl rfl rfl).goto (pc' := 70) d29_98 (by decide) rfl).iload (pc' := 72) d29_70 rfl rfl).iload (pc' := 74) d29_72 rfl rfl).icmpY (pc' := 101) d29_74 (flt (by decide : ¬ ((3 : Int32) < (3 : Int32)))).2.1 (by decide) rfl).iconst (pc' := 102) (z := (-1 : Int32)) d29_101 rfl rfl
        exact absurd (show ([x1, x2, x3] : List Int32) = [y0, y1, y2] by rw [sbyte (hok x1 (List.mem_of_getElem? (i := 1) rfl)) (hoy y0 (List.mem_of_getElem? (i := 0) rfl)) hc1, sbyte (hok x2 (List.mem_of_getElem? (i := 2) rfl)) (hoy y1 (List.mem_of_getElem? (i := 1) rfl)) hc2, sbyte (hok x3 (List.mem_of_getElem? (i := 3) rfl)) (hoy y2 (List.mem_of_getElem? (i := 2) rfl)) hc3]) hne
      · replace R := R.icmpN (pc' := 92) d29_89 (feq hc3).1 rfl
        replace R := R.iload (pc' := 94) d29_92 rfl rfl
        exact R.retI (Ds' := Ds) hret d29_94 (by decide) (by decide) (fun _ q => q) ⟨_, rfl, by decide, rfl, rfl⟩
    · replace R := R.icmpN (pc' := 92) d29_89 (feq hc2).1 rfl
      replace R := R.iload (pc' := 94) d29_92 rfl rfl
      exact R.retI (Ds' := Ds) hret d29_94 (by decide) (by decide) (fun _ q => q) ⟨_, rfl, by decide, rfl, rfl⟩
  · replace R := R.icmpN (pc' := 92) d29_89 (feq hc1).1 rfl
    replace R := R.iload (pc' := 94) d29_92 rfl rfl
    exact R.retI (Ds' := Ds) hret d29_94 (by decide) (by decide) (fun _ q => q) ⟨_, rfl, by decide, rfl, rfl⟩
theorem rm_rmn1_4 (l : Launch) (Z : State) (a0 : Array Value) (hw : HW a0 Z) (a b : Addr) (h : Heap) (n0 : Nat) (Ds : List Addr) (own_cs : CompactOn Z) {x0 x1 x2 x3 : Int32} {y0 y1 y2 : Int32} (S_a : IsStr Z h a [x0, x1, x2, x3]) (S_b : IsStr Z h b [y0, y1, y2]) (hne : ¬ ([x1, x2, x3] : List Int32) = [y0, y1, y2]) :
    Ctr l Z (⟨"java/lang/String", "regionMatches", "(ILjava/lang/String;II)Z"⟩ : MethodName) jdk_42_method_73_code 8 (some .boolean) [] (rmo 2 0 0 27) #[.ref a, .int (1 : Int32), .ref b, .int (0 : Int32), .int (3 : Int32)] h n0 Ds (fun v h' Ds' => v = some (.int (0 : Int32)) ∧ h = h' ∧ Ds = Ds') := by
  refine ctr_of (Ls := #[.val (.ref a), .val (.int (1 : Int32)), .val (.ref b), .val (.int (0 : Int32)), .val (.int (3 : Int32)), .unset, .unset, .unset]) (plainFor_of_name pn0) (fun m => by first | (simp [entryFrame, mkF, argsToLocals, Value.category]; done) | rfl) ?_
  intro C hl hret hnm R
  subst hl
  have S_0 := S_a
  have S_1 := S_b
  obtain ⟨e1, e2, e3, e4, t, kt, e5, e6⟩ := S_a
  have e7 : Arv Z h t kt .byte (4 : Int32) [(.int x0.toInt8.toInt32), (.int x1.toInt8.toInt32), (.int x2.toInt8.toInt32), (.int x3.toInt8.toInt32)] (.int 0) := e6
  have hok := e3
  obtain ⟨e1_b, e2_b, e3_b, e4_b, t_b, kt_b, e5_b, e6_b⟩ := S_b
  have e7_b : Arv Z h t_b kt_b .byte (3 : Int32) [(.int y0.toInt8.toInt32), (.int y1.toInt8.toInt32), (.int y2.toInt8.toInt32)] (.int 0) := e6_b
  have hoy := e3_b
  replace R := (((((R.iloadN (pc' := 1) d17_0 rfl rfl).ifN (pc' := 4) d17_1 (flt (by decide : ¬ ((0 : Int32) < (0 : Int32)))).1 rfl).iloadN (pc' := 5) d17_4 rfl rfl).ifN (pc' := 8) d17_5 (flt (by decide : ¬ ((1 : Int32) < (0 : Int32)))).1 rfl).iloadN (pc' := 9) d17_8 rfl rfl).i2l (pc' := 10) d17_9 rfl
  replace R := (R.stk (S' := [(.long (1 : Int64))]) rfl).aloadN (pc' := 11) (v := (.ref a)) d17_10 rfl rfl rfl
  replace R := own_pure (R.callV (pc' := 14) (y := (⟨"java/lang/String", "length", "()I"⟩ : MethodName)) (z := (⟨"java/lang/String", "length", "()I"⟩ : MethodName)) (argsL := []) (rest := [(.long (1 : Int64))]) (W := 2) (w55 hw) (w56 hw) (fun s' hZ' => notFace_of_selects (args := #[]) (mvT hZ' (w58 hw))) (w58 hw) (w57 hw) (w7 hw) (w59 hw) (by decide) e1 (rm_length C.l Z a0 hw a h n0 Ds own_cs S_0) rfl (lenOf pd6 rfl) rfl rfl d17_11 (by decide) (by decide) (by decide) (by decide) rfl)
  replace R := (((((R.i2l (pc' := 15) d17_14 rfl).stk (S' := [(.long (4 : Int64)), (.long (1 : Int64))]) rfl).iload (pc' := 17) d17_15 rfl rfl).i2l (pc' := 18) d17_17 rfl).stk (S' := [(.long (3 : Int64)), (.long (4 : Int64)), (.long (1 : Int64))]) rfl).lsub (pc' := 19) d17_18 rfl
  replace R := (((((R.stk (S' := [(.long (1 : Int64)), (.long (1 : Int64))]) rfl).lcmp (pc' := 20) d17_19 rfl).stk (S' := [(.int (0 : Int32))]) rfl).ifN (pc' := 23) d17_20 (flt (by decide : ¬ ((0 : Int32) < (0 : Int32)))).2.2.1 rfl).iloadN (pc' := 24) d17_23 rfl rfl).i2l (pc' := 25) d17_24 rfl
  replace R := (R.stk (S' := [(.long (0 : Int64))]) rfl).aloadN (pc' := 26) (v := (.ref b)) d17_25 rfl rfl rfl
  replace R := own_pure (R.callV (pc' := 29) (y := (⟨"java/lang/String", "length", "()I"⟩ : MethodName)) (z := (⟨"java/lang/String", "length", "()I"⟩ : MethodName)) (argsL := []) (rest := [(.long (0 : Int64))]) (W := 2) (w55 hw) (w56 hw) (fun s' hZ' => notFace_of_selects (args := #[]) (mvT hZ' (w58 hw))) (w58 hw) (w57 hw) (w7 hw) (w59 hw) (by decide) e1_b (rm_length C.l Z a0 hw b h n0 Ds own_cs S_1) rfl (lenOf pd6 rfl) rfl rfl d17_26 (by decide) (by decide) (by decide) (by decide) rfl)
  replace R := (((((R.i2l (pc' := 30) d17_29 rfl).stk (S' := [(.long (3 : Int64)), (.long (0 : Int64))]) rfl).iload (pc' := 32) d17_30 rfl rfl).i2l (pc' := 33) d17_32 rfl).stk (S' := [(.long (3 : Int64)), (.long (3 : Int64)), (.long (0 : Int64))]) rfl).lsub (pc' := 34) d17_33 rfl
  replace R := (((((R.stk (S' := [(.long (0 : Int64)), (.long (0 : Int64))]) rfl).lcmp (pc' := 35) d17_34 rfl).stk (S' := [(.int (0 : Int32))]) rfl).ifY (pc' := 40) d17_35 (flt (by decide : ¬ ((0 : Int32) < (0 : Int32)))).2.2.2 (by decide) rfl).iload (pc' := 42) d17_40 rfl rfl).ifY (pc' := 47) d17_42 (tlt (by decide : (0 : Int32) < (3 : Int32))).2.2.1 (by decide) rfl
  replace R := (((((R.aloadN (pc' := 48) (v := (.ref a)) d17_47 rfl rfl rfl).getF (pc' := 51) (host := "") (Or.inl (w32 hw)) Via.refl e5 d17_48 rfl).astore (pc' := 53) (l' := #[.val (.ref a), .val (.int (1 : Int32)), .val (.ref b), .val (.int (0 : Int32)), .val (.int (3 : Int32)), .val (.ref t), .unset, .unset]) d17_51 rfl rfl rfl).aloadN (pc' := 54) (v := (.ref b)) d17_53 rfl rfl rfl).getF (pc' := 57) (host := "") (Or.inl (w32 hw)) Via.refl e5_b d17_54 rfl).astore (pc' := 59) (l' := #[.val (.ref a), .val (.int (1 : Int32)), .val (.ref b), .val (.int (0 : Int32)), .val (.int (3 : Int32)), .val (.ref t), .val (.ref t_b), .unset]) d17_57 rfl rfl rfl
  replace R := R.aloadN (pc' := 60) (v := (.ref a)) d17_59 rfl rfl rfl
  replace R := own_pure (R.callV (pc' := 63) (y := (⟨"java/lang/String", "coder", "()B"⟩ : MethodName)) (z := (⟨"java/lang/String", "coder", "()B"⟩ : MethodName)) (argsL := []) (rest := []) (W := 0) (w60 hw) (w61 hw) (fun s' hZ' => notFace_of_selects (args := #[]) (mvT hZ' (w63 hw))) (w63 hw) (w62 hw) (w7 hw) (w64 hw) (by decide) e1 (rm_coder C.l Z a0 hw a h n0 Ds own_cs e2) rfl (lenOf pd0 rfl) rfl rfl d17_60 (by decide) (by decide) (by decide) (by decide) rfl)
  replace R := ((R.istore (pc' := 65) (l' := #[.val (.ref a), .val (.int (1 : Int32)), .val (.ref b), .val (.int (0 : Int32)), .val (.int (3 : Int32)), .val (.ref t), .val (.ref t_b), .val (.int (0 : Int32))]) d17_63 rfl rfl).iload (pc' := 67) d17_65 rfl rfl).aloadN (pc' := 68) (v := (.ref b)) d17_67 rfl rfl rfl
  replace R := own_pure (R.callV (pc' := 71) (y := (⟨"java/lang/String", "coder", "()B"⟩ : MethodName)) (z := (⟨"java/lang/String", "coder", "()B"⟩ : MethodName)) (argsL := []) (rest := [(.int (0 : Int32))]) (W := 1) (w60 hw) (w61 hw) (fun s' hZ' => notFace_of_selects (args := #[]) (mvT hZ' (w63 hw))) (w63 hw) (w62 hw) (w7 hw) (w64 hw) (by decide) e1_b (rm_coder C.l Z a0 hw b h n0 Ds own_cs e2_b) rfl (lenOf pd0 rfl) rfl rfl d17_68 (by decide) (by decide) (by decide) (by decide) rfl)
  replace R := (((((R.icmpN (pc' := 74) d17_71 (teq (by decide : (0 : Int32) = (0 : Int32))).2 rfl).iload (pc' := 76) d17_74 rfl rfl).iconst (pc' := 77) (z := (1 : Int32)) d17_76 rfl rfl).icmpY (pc' := 94) d17_77 (feq (by decide : ¬ ((0 : Int32) = (1 : Int32)))).2 (by decide) rfl).aload (pc' := 96) (v := (.ref t)) d17_94 rfl rfl rfl).iloadN (pc' := 97) d17_96 rfl rfl
  replace R := ((R.aload (pc' := 99) (v := (.ref t_b)) d17_97 rfl rfl rfl).iloadN (pc' := 100) d17_99 rfl rfl).iload (pc' := 102) d17_100 rfl rfl
  obtain ⟨_, _, _, ⟨zz, rfl, hzz, rfl, rfl⟩, R⟩ := R.callS (pc' := 105) (argsL := [(.ref t), (.int (1 : Int32)), (.ref t_b), (.int (0 : Int32)), (.int (3 : Int32))]) (rest := []) (W := 0) (w135 hw) (w136 hw) (w137 hw) (w138 hw) (by decide) (rm_mmn1_4 C.l Z a0 hw h n0 Ds hok hoy e7 e7_b hne) rfl (lenOf pd12 rfl) rfl rfl d17_102 (by decide) (by decide) (by decide) (by decide) rfl
  replace R := (((R.mono (ce' := 0) (sl' := 0) (by decide) (by decide)).stk (S' := [(.int zz)]) rfl).ifY (pc' := 112) d17_105 (flt hzz).2.1 (by decide) rfl).iconst (pc' := 113) (z := (0 : Int32)) d17_112 rfl rfl
  exact R.retN (Ds' := Ds) hret (by simp) (show nar .boolean (0 : Int32) = (0 : Int32) from rfl) d17_113 (by decide) (by decide) (fun _ q => q) ⟨rfl, rfl, rfl⟩
theorem rm_rme2_2 (l : Launch) (Z : State) (a0 : Array Value) (hw : HW a0 Z) (a b : Addr) (h : Heap) (n0 : Nat) (Ds : List Addr) (own_cs : CompactOn Z) {x0 x1 x2 x3 : Int32} (S_a : IsStr Z h a [x0, x1, x2, x3]) (S_b : IsStr Z h b []) :
    Ctr l Z (⟨"java/lang/String", "regionMatches", "(ILjava/lang/String;II)Z"⟩ : MethodName) jdk_42_method_73_code 8 (some .boolean) [] (rmo 2 0 0 27) #[.ref a, .int (2 : Int32), .ref b, .int (0 : Int32), .int (0 : Int32)] h n0 Ds (fun v h' Ds' => v = some (.int (1 : Int32)) ∧ h = h' ∧ Ds = Ds') := by
  refine ctr_of (Ls := #[.val (.ref a), .val (.int (2 : Int32)), .val (.ref b), .val (.int (0 : Int32)), .val (.int (0 : Int32)), .unset, .unset, .unset]) (plainFor_of_name pn0) (fun m => by first | (simp [entryFrame, mkF, argsToLocals, Value.category]; done) | rfl) ?_
  intro C hl hret hnm R
  subst hl
  have S_0 := S_a
  have S_1 := S_b
  obtain ⟨e1, e2, e3, e4, t, kt, e5, e6⟩ := S_a
  have e7 : Arv Z h t kt .byte (4 : Int32) [(.int x0.toInt8.toInt32), (.int x1.toInt8.toInt32), (.int x2.toInt8.toInt32), (.int x3.toInt8.toInt32)] (.int 0) := e6
  have hok := e3
  obtain ⟨e1_b, e2_b, e3_b, e4_b, t_b, kt_b, e5_b, e6_b⟩ := S_b
  have e7_b : Arv Z h t_b kt_b .byte (0 : Int32) [] (.int 0) := e6_b
  have hoy := e3_b
  replace R := (((((R.iloadN (pc' := 1) d17_0 rfl rfl).ifN (pc' := 4) d17_1 (flt (by decide : ¬ ((0 : Int32) < (0 : Int32)))).1 rfl).iloadN (pc' := 5) d17_4 rfl rfl).ifN (pc' := 8) d17_5 (flt (by decide : ¬ ((2 : Int32) < (0 : Int32)))).1 rfl).iloadN (pc' := 9) d17_8 rfl rfl).i2l (pc' := 10) d17_9 rfl
  replace R := (R.stk (S' := [(.long (2 : Int64))]) rfl).aloadN (pc' := 11) (v := (.ref a)) d17_10 rfl rfl rfl
  replace R := own_pure (R.callV (pc' := 14) (y := (⟨"java/lang/String", "length", "()I"⟩ : MethodName)) (z := (⟨"java/lang/String", "length", "()I"⟩ : MethodName)) (argsL := []) (rest := [(.long (2 : Int64))]) (W := 2) (w55 hw) (w56 hw) (fun s' hZ' => notFace_of_selects (args := #[]) (mvT hZ' (w58 hw))) (w58 hw) (w57 hw) (w7 hw) (w59 hw) (by decide) e1 (rm_length C.l Z a0 hw a h n0 Ds own_cs S_0) rfl (lenOf pd6 rfl) rfl rfl d17_11 (by decide) (by decide) (by decide) (by decide) rfl)
  replace R := (((((R.i2l (pc' := 15) d17_14 rfl).stk (S' := [(.long (4 : Int64)), (.long (2 : Int64))]) rfl).iload (pc' := 17) d17_15 rfl rfl).i2l (pc' := 18) d17_17 rfl).stk (S' := [(.long (0 : Int64)), (.long (4 : Int64)), (.long (2 : Int64))]) rfl).lsub (pc' := 19) d17_18 rfl
  replace R := (((((R.stk (S' := [(.long (4 : Int64)), (.long (2 : Int64))]) rfl).lcmp (pc' := 20) d17_19 rfl).stk (S' := [(.int (-1 : Int32))]) rfl).ifN (pc' := 23) d17_20 (flt (by decide : ¬ ((0 : Int32) < (-1 : Int32)))).2.2.1 rfl).iloadN (pc' := 24) d17_23 rfl rfl).i2l (pc' := 25) d17_24 rfl
  replace R := (R.stk (S' := [(.long (0 : Int64))]) rfl).aloadN (pc' := 26) (v := (.ref b)) d17_25 rfl rfl rfl
  replace R := own_pure (R.callV (pc' := 29) (y := (⟨"java/lang/String", "length", "()I"⟩ : MethodName)) (z := (⟨"java/lang/String", "length", "()I"⟩ : MethodName)) (argsL := []) (rest := [(.long (0 : Int64))]) (W := 2) (w55 hw) (w56 hw) (fun s' hZ' => notFace_of_selects (args := #[]) (mvT hZ' (w58 hw))) (w58 hw) (w57 hw) (w7 hw) (w59 hw) (by decide) e1_b (rm_length C.l Z a0 hw b h n0 Ds own_cs S_1) rfl (lenOf pd6 rfl) rfl rfl d17_26 (by decide) (by decide) (by decide) (by decide) rfl)
  replace R := (((((R.i2l (pc' := 30) d17_29 rfl).stk (S' := [(.long (0 : Int64)), (.long (0 : Int64))]) rfl).iload (pc' := 32) d17_30 rfl rfl).i2l (pc' := 33) d17_32 rfl).stk (S' := [(.long (0 : Int64)), (.long (0 : Int64)), (.long (0 : Int64))]) rfl).lsub (pc' := 34) d17_33 rfl
  replace R := (((((R.stk (S' := [(.long (0 : Int64)), (.long (0 : Int64))]) rfl).lcmp (pc' := 35) d17_34 rfl).stk (S' := [(.int (0 : Int32))]) rfl).ifY (pc' := 40) d17_35 (flt (by decide : ¬ ((0 : Int32) < (0 : Int32)))).2.2.2 (by decide) rfl).iload (pc' := 42) d17_40 rfl rfl).ifN (pc' := 45) d17_42 (flt (by decide : ¬ ((0 : Int32) < (0 : Int32)))).2.2.1 rfl
  replace R := R.iconst (pc' := 46) (z := (1 : Int32)) d17_45 rfl rfl
  exact R.retN (Ds' := Ds) hret (by simp) (show nar .boolean (1 : Int32) = (1 : Int32) from rfl) d17_46 (by decide) (by decide) (fun _ q => q) ⟨rfl, rfl, rfl⟩
theorem rm_mme2_3 (l : Launch) (Z : State) (a0 : Array Value) (hw : HW a0 Z) (h : Heap) (n0 : Nat) (Ds : List Addr) {x0 x1 x2 x3 : Int32} (hok : ∀ c ∈ ([x0, x1, x2, x3] : List Int32), ¬ c < 0 ∧ ¬ (255 : Int32) < c) (hoy : ∀ c ∈ ([x2] : List Int32), ¬ c < 0 ∧ ¬ (255 : Int32) < c) {t : Addr} {kt : ClassId} (V_t : Arv Z h t kt .byte (4 : Int32) [(.int x0.toInt8.toInt32), (.int x1.toInt8.toInt32), (.int x2.toInt8.toInt32), (.int x3.toInt8.toInt32)] (.int 0)) {u : Addr} {ku : ClassId} (V_u : Arv Z h u ku .byte (1 : Int32) [(.int x2.toInt8.toInt32)] (.int 0)) :
    Ctr l Z (⟨"jdk/internal/util/ArraysSupport", "mismatch", "([BI[BII)I"⟩ : MethodName) jdk_48_method_14_code 8 (some .int) [] (rmo 0 0 0 0) #[.ref t, .int (2 : Int32), .ref u, .int (0 : Int32), .int (1 : Int32)] h n0 Ds (fun v h' Ds' => v = some (.int (-1 : Int32)) ∧ h = h' ∧ Ds = Ds') := by
  refine ctr_of (Ls := #[.val (.ref t), .val (.int (2 : Int32)), .val (.ref u), .val (.int (0 : Int32)), .val (.int (1 : Int32)), .unset, .unset, .unset]) (plainFor_of_name pn4) (fun m => by first | (simp [entryFrame, mkF, argsToLocals, Value.category]; done) | rfl) ?_
  intro C hl hret hnm R
  subst hl
  replace R := (((((R.iconst (pc' := 1) (z := (0 : Int32)) d29_0 rfl rfl).istore (pc' := 3) (l' := #[.val (.ref t), .val (.int (2 : Int32)), .val (.ref u), .val (.int (0 : Int32)), .val (.int (1 : Int32)), .val (.int (0 : Int32)), .unset, .unset]) d29_1 rfl rfl).iload (pc' := 5) d29_3 rfl rfl).bipush (pc' := 7) (z := (7 : Int32)) d29_5 rfl rfl).icmpY (pc' := 70) d29_7 (flt (by decide : ¬ ((7 : Int32) < (1 : Int32)))).2.2.2 (by decide) rfl).iload (pc' := 72) d29_70 rfl rfl
  replace R := (((((R.iload (pc' := 74) d29_72 rfl rfl).icmpN (pc' := 77) d29_74 (tlt (by decide : (0 : Int32) < (1 : Int32))).2.1 rfl).aloadN (pc' := 78) (v := (.ref t)) d29_77 rfl rfl rfl).iloadN (pc' := 79) d29_78 rfl rfl).iload (pc' := 81) d29_79 rfl rfl).iadd (pc' := 82) d29_81 rfl
  replace R := (((((R.stk (S' := [(.int (2 : Int32)), (.ref t)]) rfl).baload (pc' := 83) (v := (.int x2.toInt8.toInt32)) V_t ⟨by decide, by decide⟩ rfl d29_82 rfl).aloadN (pc' := 84) (v := (.ref u)) d29_83 rfl rfl rfl).iloadN (pc' := 85) d29_84 rfl rfl).iload (pc' := 87) d29_85 rfl rfl).iadd (pc' := 88) d29_87 rfl
  replace R := (((((R.stk (S' := [(.int (0 : Int32)), (.ref u), (.int x2.toInt8.toInt32)]) rfl).baload (pc' := 89) (v := (.int x2.toInt8.toInt32)) V_u ⟨by decide, by decide⟩ rfl d29_88 rfl).icmpY (pc' := 95) d29_89 (teq (rfl : x2.toInt8.toInt32 = x2.toInt8.toInt32)).1 (by decide) rfl).iinc (pc' := 98) (l' := #[.val (.ref t), .val (.int (2 : Int32)), .val (.ref u), .val (.int (0 : Int32)), .val (.int (1 : Int32)), .val (.int (1 : Int32)), .unset, .unset]) d29_95 rfl rfl rfl).goto (pc' := 70) d29_98 (by decide) rfl).iload (pc' := 72) d29_70 rfl rfl
  replace R := ((R.iload (pc' := 74) d29_72 rfl rfl).icmpY (pc' := 101) d29_74 (flt (by decide : ¬ ((1 : Int32) < (1 : Int32)))).2.1 (by decide) rfl).iconst (pc' := 102) (z := (-1 : Int32)) d29_101 rfl rfl
  exact R.retI (Ds' := Ds) hret d29_102 (by decide) (by decide) (fun _ q => q) ⟨rfl, rfl, rfl⟩
theorem rm_rme2_3 (l : Launch) (Z : State) (a0 : Array Value) (hw : HW a0 Z) (a b : Addr) (h : Heap) (n0 : Nat) (Ds : List Addr) (own_cs : CompactOn Z) {x0 x1 x2 x3 : Int32} (S_a : IsStr Z h a [x0, x1, x2, x3]) (S_b : IsStr Z h b [x2]) :
    Ctr l Z (⟨"java/lang/String", "regionMatches", "(ILjava/lang/String;II)Z"⟩ : MethodName) jdk_42_method_73_code 8 (some .boolean) [] (rmo 2 0 0 27) #[.ref a, .int (2 : Int32), .ref b, .int (0 : Int32), .int (1 : Int32)] h n0 Ds (fun v h' Ds' => v = some (.int (1 : Int32)) ∧ h = h' ∧ Ds = Ds') := by
  refine ctr_of (Ls := #[.val (.ref a), .val (.int (2 : Int32)), .val (.ref b), .val (.int (0 : Int32)), .val (.int (1 : Int32)), .unset, .unset, .unset]) (plainFor_of_name pn0) (fun m => by first | (simp [entryFrame, mkF, argsToLocals, Value.category]; done) | rfl) ?_
  intro C hl hret hnm R
  subst hl
  have S_0 := S_a
  have S_1 := S_b
  obtain ⟨e1, e2, e3, e4, t, kt, e5, e6⟩ := S_a
  have e7 : Arv Z h t kt .byte (4 : Int32) [(.int x0.toInt8.toInt32), (.int x1.toInt8.toInt32), (.int x2.toInt8.toInt32), (.int x3.toInt8.toInt32)] (.int 0) := e6
  have hok := e3
  obtain ⟨e1_b, e2_b, e3_b, e4_b, t_b, kt_b, e5_b, e6_b⟩ := S_b
  have e7_b : Arv Z h t_b kt_b .byte (1 : Int32) [(.int x2.toInt8.toInt32)] (.int 0) := e6_b
  have hoy := e3_b
  replace R := (((((R.iloadN (pc' := 1) d17_0 rfl rfl).ifN (pc' := 4) d17_1 (flt (by decide : ¬ ((0 : Int32) < (0 : Int32)))).1 rfl).iloadN (pc' := 5) d17_4 rfl rfl).ifN (pc' := 8) d17_5 (flt (by decide : ¬ ((2 : Int32) < (0 : Int32)))).1 rfl).iloadN (pc' := 9) d17_8 rfl rfl).i2l (pc' := 10) d17_9 rfl
  replace R := (R.stk (S' := [(.long (2 : Int64))]) rfl).aloadN (pc' := 11) (v := (.ref a)) d17_10 rfl rfl rfl
  replace R := own_pure (R.callV (pc' := 14) (y := (⟨"java/lang/String", "length", "()I"⟩ : MethodName)) (z := (⟨"java/lang/String", "length", "()I"⟩ : MethodName)) (argsL := []) (rest := [(.long (2 : Int64))]) (W := 2) (w55 hw) (w56 hw) (fun s' hZ' => notFace_of_selects (args := #[]) (mvT hZ' (w58 hw))) (w58 hw) (w57 hw) (w7 hw) (w59 hw) (by decide) e1 (rm_length C.l Z a0 hw a h n0 Ds own_cs S_0) rfl (lenOf pd6 rfl) rfl rfl d17_11 (by decide) (by decide) (by decide) (by decide) rfl)
  replace R := (((((R.i2l (pc' := 15) d17_14 rfl).stk (S' := [(.long (4 : Int64)), (.long (2 : Int64))]) rfl).iload (pc' := 17) d17_15 rfl rfl).i2l (pc' := 18) d17_17 rfl).stk (S' := [(.long (1 : Int64)), (.long (4 : Int64)), (.long (2 : Int64))]) rfl).lsub (pc' := 19) d17_18 rfl
  replace R := (((((R.stk (S' := [(.long (3 : Int64)), (.long (2 : Int64))]) rfl).lcmp (pc' := 20) d17_19 rfl).stk (S' := [(.int (-1 : Int32))]) rfl).ifN (pc' := 23) d17_20 (flt (by decide : ¬ ((0 : Int32) < (-1 : Int32)))).2.2.1 rfl).iloadN (pc' := 24) d17_23 rfl rfl).i2l (pc' := 25) d17_24 rfl
  replace R := (R.stk (S' := [(.long (0 : Int64))]) rfl).aloadN (pc' := 26) (v := (.ref b)) d17_25 rfl rfl rfl
  replace R := own_pure (R.callV (pc' := 29) (y := (⟨"java/lang/String", "length", "()I"⟩ : MethodName)) (z := (⟨"java/lang/String", "length", "()I"⟩ : MethodName)) (argsL := []) (rest := [(.long (0 : Int64))]) (W := 2) (w55 hw) (w56 hw) (fun s' hZ' => notFace_of_selects (args := #[]) (mvT hZ' (w58 hw))) (w58 hw) (w57 hw) (w7 hw) (w59 hw) (by decide) e1_b (rm_length C.l Z a0 hw b h n0 Ds own_cs S_1) rfl (lenOf pd6 rfl) rfl rfl d17_26 (by decide) (by decide) (by decide) (by decide) rfl)
  replace R := (((((R.i2l (pc' := 30) d17_29 rfl).stk (S' := [(.long (1 : Int64)), (.long (0 : Int64))]) rfl).iload (pc' := 32) d17_30 rfl rfl).i2l (pc' := 33) d17_32 rfl).stk (S' := [(.long (1 : Int64)), (.long (1 : Int64)), (.long (0 : Int64))]) rfl).lsub (pc' := 34) d17_33 rfl
  replace R := (((((R.stk (S' := [(.long (0 : Int64)), (.long (0 : Int64))]) rfl).lcmp (pc' := 35) d17_34 rfl).stk (S' := [(.int (0 : Int32))]) rfl).ifY (pc' := 40) d17_35 (flt (by decide : ¬ ((0 : Int32) < (0 : Int32)))).2.2.2 (by decide) rfl).iload (pc' := 42) d17_40 rfl rfl).ifY (pc' := 47) d17_42 (tlt (by decide : (0 : Int32) < (1 : Int32))).2.2.1 (by decide) rfl
  replace R := (((((R.aloadN (pc' := 48) (v := (.ref a)) d17_47 rfl rfl rfl).getF (pc' := 51) (host := "") (Or.inl (w32 hw)) Via.refl e5 d17_48 rfl).astore (pc' := 53) (l' := #[.val (.ref a), .val (.int (2 : Int32)), .val (.ref b), .val (.int (0 : Int32)), .val (.int (1 : Int32)), .val (.ref t), .unset, .unset]) d17_51 rfl rfl rfl).aloadN (pc' := 54) (v := (.ref b)) d17_53 rfl rfl rfl).getF (pc' := 57) (host := "") (Or.inl (w32 hw)) Via.refl e5_b d17_54 rfl).astore (pc' := 59) (l' := #[.val (.ref a), .val (.int (2 : Int32)), .val (.ref b), .val (.int (0 : Int32)), .val (.int (1 : Int32)), .val (.ref t), .val (.ref t_b), .unset]) d17_57 rfl rfl rfl
  replace R := R.aloadN (pc' := 60) (v := (.ref a)) d17_59 rfl rfl rfl
  replace R := own_pure (R.callV (pc' := 63) (y := (⟨"java/lang/String", "coder", "()B"⟩ : MethodName)) (z := (⟨"java/lang/String", "coder", "()B"⟩ : MethodName)) (argsL := []) (rest := []) (W := 0) (w60 hw) (w61 hw) (fun s' hZ' => notFace_of_selects (args := #[]) (mvT hZ' (w63 hw))) (w63 hw) (w62 hw) (w7 hw) (w64 hw) (by decide) e1 (rm_coder C.l Z a0 hw a h n0 Ds own_cs e2) rfl (lenOf pd0 rfl) rfl rfl d17_60 (by decide) (by decide) (by decide) (by decide) rfl)
  replace R := ((R.istore (pc' := 65) (l' := #[.val (.ref a), .val (.int (2 : Int32)), .val (.ref b), .val (.int (0 : Int32)), .val (.int (1 : Int32)), .val (.ref t), .val (.ref t_b), .val (.int (0 : Int32))]) d17_63 rfl rfl).iload (pc' := 67) d17_65 rfl rfl).aloadN (pc' := 68) (v := (.ref b)) d17_67 rfl rfl rfl
  replace R := own_pure (R.callV (pc' := 71) (y := (⟨"java/lang/String", "coder", "()B"⟩ : MethodName)) (z := (⟨"java/lang/String", "coder", "()B"⟩ : MethodName)) (argsL := []) (rest := [(.int (0 : Int32))]) (W := 1) (w60 hw) (w61 hw) (fun s' hZ' => notFace_of_selects (args := #[]) (mvT hZ' (w63 hw))) (w63 hw) (w62 hw) (w7 hw) (w64 hw) (by decide) e1_b (rm_coder C.l Z a0 hw b h n0 Ds own_cs e2_b) rfl (lenOf pd0 rfl) rfl rfl d17_68 (by decide) (by decide) (by decide) (by decide) rfl)
  replace R := (((((R.icmpN (pc' := 74) d17_71 (teq (by decide : (0 : Int32) = (0 : Int32))).2 rfl).iload (pc' := 76) d17_74 rfl rfl).iconst (pc' := 77) (z := (1 : Int32)) d17_76 rfl rfl).icmpY (pc' := 94) d17_77 (feq (by decide : ¬ ((0 : Int32) = (1 : Int32)))).2 (by decide) rfl).aload (pc' := 96) (v := (.ref t)) d17_94 rfl rfl rfl).iloadN (pc' := 97) d17_96 rfl rfl
  replace R := ((R.aload (pc' := 99) (v := (.ref t_b)) d17_97 rfl rfl rfl).iloadN (pc' := 100) d17_99 rfl rfl).iload (pc' := 102) d17_100 rfl rfl
  replace R := own_pure (R.callS (pc' := 105) (argsL := [(.ref t), (.int (2 : Int32)), (.ref t_b), (.int (0 : Int32)), (.int (1 : Int32))]) (rest := []) (W := 0) (w135 hw) (w136 hw) (w137 hw) (w138 hw) (by decide) (rm_mme2_3 C.l Z a0 hw h n0 Ds hok hoy e7 e7_b) rfl (lenOf pd12 rfl) rfl rfl d17_102 (by decide) (by decide) (by decide) (by decide) rfl)
  replace R := ((R.ifN (pc' := 108) d17_105 (tlt (by decide : (-1 : Int32) < (0 : Int32))).2.1 rfl).iconst (pc' := 109) (z := (1 : Int32)) d17_108 rfl rfl).goto (pc' := 113) d17_109 (by decide) rfl
  exact R.retN (Ds' := Ds) hret (by simp) (show nar .boolean (1 : Int32) = (1 : Int32) from rfl) d17_113 (by decide) (by decide) (fun _ q => q) ⟨rfl, rfl, rfl⟩
theorem rm_mmn2_3 (l : Launch) (Z : State) (a0 : Array Value) (hw : HW a0 Z) (h : Heap) (n0 : Nat) (Ds : List Addr) {x0 x1 x2 x3 : Int32} {y0 : Int32} (hok : ∀ c ∈ ([x0, x1, x2, x3] : List Int32), ¬ c < 0 ∧ ¬ (255 : Int32) < c) (hoy : ∀ c ∈ ([y0] : List Int32), ¬ c < 0 ∧ ¬ (255 : Int32) < c) {t : Addr} {kt : ClassId} (V_t : Arv Z h t kt .byte (4 : Int32) [(.int x0.toInt8.toInt32), (.int x1.toInt8.toInt32), (.int x2.toInt8.toInt32), (.int x3.toInt8.toInt32)] (.int 0)) {u : Addr} {ku : ClassId} (V_u : Arv Z h u ku .byte (1 : Int32) [(.int y0.toInt8.toInt32)] (.int 0)) (hne : ¬ ([x2] : List Int32) = [y0]) :
    Ctr l Z (⟨"jdk/internal/util/ArraysSupport", "mismatch", "([BI[BII)I"⟩ : MethodName) jdk_48_method_14_code 8 (some .int) [] (rmo 0 0 0 0) #[.ref t, .int (2 : Int32), .ref u, .int (0 : Int32), .int (1 : Int32)] h n0 Ds (fun v h' Ds' => ∃ z : Int32, v = some (.int z) ∧ ¬ z < 0 ∧ h = h' ∧ Ds = Ds') := by
  refine ctr_of (Ls := #[.val (.ref t), .val (.int (2 : Int32)), .val (.ref u), .val (.int (0 : Int32)), .val (.int (1 : Int32)), .unset, .unset, .unset]) (plainFor_of_name pn4) (fun m => by first | (simp [entryFrame, mkF, argsToLocals, Value.category]; done) | rfl) ?_
  intro C hl hret hnm R
  subst hl
  replace R := (((((R.iconst (pc' := 1) (z := (0 : Int32)) d29_0 rfl rfl).istore (pc' := 3) (l' := #[.val (.ref t), .val (.int (2 : Int32)), .val (.ref u), .val (.int (0 : Int32)), .val (.int (1 : Int32)), .val (.int (0 : Int32)), .unset, .unset]) d29_1 rfl rfl).iload (pc' := 5) d29_3 rfl rfl).bipush (pc' := 7) (z := (7 : Int32)) d29_5 rfl rfl).icmpY (pc' := 70) d29_7 (flt (by decide : ¬ ((7 : Int32) < (1 : Int32)))).2.2.2 (by decide) rfl).iload (pc' := 72) d29_70 rfl rfl
  replace R := (((((R.iload (pc' := 74) d29_72 rfl rfl).icmpN (pc' := 77) d29_74 (tlt (by decide : (0 : Int32) < (1 : Int32))).2.1 rfl).aloadN (pc' := 78) (v := (.ref t)) d29_77 rfl rfl rfl).iloadN (pc' := 79) d29_78 rfl rfl).iload (pc' := 81) d29_79 rfl rfl).iadd (pc' := 82) d29_81 rfl
  replace R := (((((R.stk (S' := [(.int (2 : Int32)), (.ref t)]) rfl).baload (pc' := 83) (v := (.int x2.toInt8.toInt32)) V_t ⟨by decide, by decide⟩ rfl d29_82 rfl).aloadN (pc' := 84) (v := (.ref u)) d29_83 rfl rfl rfl).iloadN (pc' := 85) d29_84 rfl rfl).iload (pc' := 87) d29_85 rfl rfl).iadd (pc' := 88) d29_87 rfl
  replace R := (R.stk (S' := [(.int (0 : Int32)), (.ref u), (.int x2.toInt8.toInt32)]) rfl).baload (pc' := 89) (v := (.int y0.toInt8.toInt32)) V_u ⟨by decide, by decide⟩ rfl d29_88 rfl
  by_cases hc1 : x2.toInt8.toInt32 = y0.toInt8.toInt32
  · replace R := R.icmpY (pc' := 95) d29_89 (teq hc1).1 (by decide) rfl
    replace R := (((((R.iinc (pc' := 98) (l' := #[.val (.ref t), .val (.int (2 : Int32)), .val (.ref u), .val (.int (0 : Int32)), .val (.int (1 : Int32)), .val (.int (1 : Int32)), .unset, .unset]) d29_95 rfl rfl rfl).goto (pc' := 70) d29_98 (by decide) rfl).iload (pc' := 72) d29_70 rfl rfl).iload (pc' := 74) d29_72 rfl rfl).icmpY (pc' := 101) d29_74 (flt (by decide : ¬ ((1 : Int32) < (1 : Int32)))).2.1 (by decide) rfl).iconst (pc' := 102) (z := (-1 : Int32)) d29_101 rfl rfl
    exact absurd (show ([x2] : List Int32) = [y0] by rw [sbyte (hok x2 (List.mem_of_getElem? (i := 2) rfl)) (hoy y0 (List.mem_of_getElem? (i := 0) rfl)) hc1]) hne
  · replace R := R.icmpN (pc' := 92) d29_89 (feq hc1).1 rfl
    replace R := R.iload (pc' := 94) d29_92 rfl rfl
    exact R.retI (Ds' := Ds) hret d29_94 (by decide) (by decide) (fun _ q => q) ⟨_, rfl, by decide, rfl, rfl⟩
theorem rm_rmn2_3 (l : Launch) (Z : State) (a0 : Array Value) (hw : HW a0 Z) (a b : Addr) (h : Heap) (n0 : Nat) (Ds : List Addr) (own_cs : CompactOn Z) {x0 x1 x2 x3 : Int32} {y0 : Int32} (S_a : IsStr Z h a [x0, x1, x2, x3]) (S_b : IsStr Z h b [y0]) (hne : ¬ ([x2] : List Int32) = [y0]) :
    Ctr l Z (⟨"java/lang/String", "regionMatches", "(ILjava/lang/String;II)Z"⟩ : MethodName) jdk_42_method_73_code 8 (some .boolean) [] (rmo 2 0 0 27) #[.ref a, .int (2 : Int32), .ref b, .int (0 : Int32), .int (1 : Int32)] h n0 Ds (fun v h' Ds' => v = some (.int (0 : Int32)) ∧ h = h' ∧ Ds = Ds') := by
  refine ctr_of (Ls := #[.val (.ref a), .val (.int (2 : Int32)), .val (.ref b), .val (.int (0 : Int32)), .val (.int (1 : Int32)), .unset, .unset, .unset]) (plainFor_of_name pn0) (fun m => by first | (simp [entryFrame, mkF, argsToLocals, Value.category]; done) | rfl) ?_
  intro C hl hret hnm R
  subst hl
  have S_0 := S_a
  have S_1 := S_b
  obtain ⟨e1, e2, e3, e4, t, kt, e5, e6⟩ := S_a
  have e7 : Arv Z h t kt .byte (4 : Int32) [(.int x0.toInt8.toInt32), (.int x1.toInt8.toInt32), (.int x2.toInt8.toInt32), (.int x3.toInt8.toInt32)] (.int 0) := e6
  have hok := e3
  obtain ⟨e1_b, e2_b, e3_b, e4_b, t_b, kt_b, e5_b, e6_b⟩ := S_b
  have e7_b : Arv Z h t_b kt_b .byte (1 : Int32) [(.int y0.toInt8.toInt32)] (.int 0) := e6_b
  have hoy := e3_b
  replace R := (((((R.iloadN (pc' := 1) d17_0 rfl rfl).ifN (pc' := 4) d17_1 (flt (by decide : ¬ ((0 : Int32) < (0 : Int32)))).1 rfl).iloadN (pc' := 5) d17_4 rfl rfl).ifN (pc' := 8) d17_5 (flt (by decide : ¬ ((2 : Int32) < (0 : Int32)))).1 rfl).iloadN (pc' := 9) d17_8 rfl rfl).i2l (pc' := 10) d17_9 rfl
  replace R := (R.stk (S' := [(.long (2 : Int64))]) rfl).aloadN (pc' := 11) (v := (.ref a)) d17_10 rfl rfl rfl
  replace R := own_pure (R.callV (pc' := 14) (y := (⟨"java/lang/String", "length", "()I"⟩ : MethodName)) (z := (⟨"java/lang/String", "length", "()I"⟩ : MethodName)) (argsL := []) (rest := [(.long (2 : Int64))]) (W := 2) (w55 hw) (w56 hw) (fun s' hZ' => notFace_of_selects (args := #[]) (mvT hZ' (w58 hw))) (w58 hw) (w57 hw) (w7 hw) (w59 hw) (by decide) e1 (rm_length C.l Z a0 hw a h n0 Ds own_cs S_0) rfl (lenOf pd6 rfl) rfl rfl d17_11 (by decide) (by decide) (by decide) (by decide) rfl)
  replace R := (((((R.i2l (pc' := 15) d17_14 rfl).stk (S' := [(.long (4 : Int64)), (.long (2 : Int64))]) rfl).iload (pc' := 17) d17_15 rfl rfl).i2l (pc' := 18) d17_17 rfl).stk (S' := [(.long (1 : Int64)), (.long (4 : Int64)), (.long (2 : Int64))]) rfl).lsub (pc' := 19) d17_18 rfl
  replace R := (((((R.stk (S' := [(.long (3 : Int64)), (.long (2 : Int64))]) rfl).lcmp (pc' := 20) d17_19 rfl).stk (S' := [(.int (-1 : Int32))]) rfl).ifN (pc' := 23) d17_20 (flt (by decide : ¬ ((0 : Int32) < (-1 : Int32)))).2.2.1 rfl).iloadN (pc' := 24) d17_23 rfl rfl).i2l (pc' := 25) d17_24 rfl
  replace R := (R.stk (S' := [(.long (0 : Int64))]) rfl).aloadN (pc' := 26) (v := (.ref b)) d17_25 rfl rfl rfl
  replace R := own_pure (R.callV (pc' := 29) (y := (⟨"java/lang/String", "length", "()I"⟩ : MethodName)) (z := (⟨"java/lang/String", "length", "()I"⟩ : MethodName)) (argsL := []) (rest := [(.long (0 : Int64))]) (W := 2) (w55 hw) (w56 hw) (fun s' hZ' => notFace_of_selects (args := #[]) (mvT hZ' (w58 hw))) (w58 hw) (w57 hw) (w7 hw) (w59 hw) (by decide) e1_b (rm_length C.l Z a0 hw b h n0 Ds own_cs S_1) rfl (lenOf pd6 rfl) rfl rfl d17_26 (by decide) (by decide) (by decide) (by decide) rfl)
  replace R := (((((R.i2l (pc' := 30) d17_29 rfl).stk (S' := [(.long (1 : Int64)), (.long (0 : Int64))]) rfl).iload (pc' := 32) d17_30 rfl rfl).i2l (pc' := 33) d17_32 rfl).stk (S' := [(.long (1 : Int64)), (.long (1 : Int64)), (.long (0 : Int64))]) rfl).lsub (pc' := 34) d17_33 rfl
  replace R := (((((R.stk (S' := [(.long (0 : Int64)), (.long (0 : Int64))]) rfl).lcmp (pc' := 35) d17_34 rfl).stk (S' := [(.int (0 : Int32))]) rfl).ifY (pc' := 40) d17_35 (flt (by decide : ¬ ((0 : Int32) < (0 : Int32)))).2.2.2 (by decide) rfl).iload (pc' := 42) d17_40 rfl rfl).ifY (pc' := 47) d17_42 (tlt (by decide : (0 : Int32) < (1 : Int32))).2.2.1 (by decide) rfl
  replace R := (((((R.aloadN (pc' := 48) (v := (.ref a)) d17_47 rfl rfl rfl).getF (pc' := 51) (host := "") (Or.inl (w32 hw)) Via.refl e5 d17_48 rfl).astore (pc' := 53) (l' := #[.val (.ref a), .val (.int (2 : Int32)), .val (.ref b), .val (.int (0 : Int32)), .val (.int (1 : Int32)), .val (.ref t), .unset, .unset]) d17_51 rfl rfl rfl).aloadN (pc' := 54) (v := (.ref b)) d17_53 rfl rfl rfl).getF (pc' := 57) (host := "") (Or.inl (w32 hw)) Via.refl e5_b d17_54 rfl).astore (pc' := 59) (l' := #[.val (.ref a), .val (.int (2 : Int32)), .val (.ref b), .val (.int (0 : Int32)), .val (.int (1 : Int32)), .val (.ref t), .val (.ref t_b), .unset]) d17_57 rfl rfl rfl
  replace R := R.aloadN (pc' := 60) (v := (.ref a)) d17_59 rfl rfl rfl
  replace R := own_pure (R.callV (pc' := 63) (y := (⟨"java/lang/String", "coder", "()B"⟩ : MethodName)) (z := (⟨"java/lang/String", "coder", "()B"⟩ : MethodName)) (argsL := []) (rest := []) (W := 0) (w60 hw) (w61 hw) (fun s' hZ' => notFace_of_selects (args := #[]) (mvT hZ' (w63 hw))) (w63 hw) (w62 hw) (w7 hw) (w64 hw) (by decide) e1 (rm_coder C.l Z a0 hw a h n0 Ds own_cs e2) rfl (lenOf pd0 rfl) rfl rfl d17_60 (by decide) (by decide) (by decide) (by decide) rfl)
  replace R := ((R.istore (pc' := 65) (l' := #[.val (.ref a), .val (.int (2 : Int32)), .val (.ref b), .val (.int (0 : Int32)), .val (.int (1 : Int32)), .val (.ref t), .val (.ref t_b), .val (.int (0 : Int32))]) d17_63 rfl rfl).iload (pc' := 67) d17_65 rfl rfl).aloadN (pc' := 68) (v := (.ref b)) d17_67 rfl rfl rfl
  replace R := own_pure (R.callV (pc' := 71) (y := (⟨"java/lang/String", "coder", "()B"⟩ : MethodName)) (z := (⟨"java/lang/String", "coder", "()B"⟩ : MethodName)) (argsL := []) (rest := [(.int (0 : Int32))]) (W := 1) (w60 hw) (w61 hw) (fun s' hZ' => notFace_of_selects (args := #[]) (mvT hZ' (w63 hw))) (w63 hw) (w62 hw) (w7 hw) (w64 hw) (by decide) e1_b (rm_coder C.l Z a0 hw b h n0 Ds own_cs e2_b) rfl (lenOf pd0 rfl) rfl rfl d17_68 (by decide) (by decide) (by decide) (by decide) rfl)
  replace R := (((((R.icmpN (pc' := 74) d17_71 (teq (by decide : (0 : Int32) = (0 : Int32))).2 rfl).iload (pc' := 76) d17_74 rfl rfl).iconst (pc' := 77) (z := (1 : Int32)) d17_76 rfl rfl).icmpY (pc' := 94) d17_77 (feq (by decide : ¬ ((0 : Int32) = (1 : Int32)))).2 (by decide) rfl).aload (pc' := 96) (v := (.ref t)) d17_94 rfl rfl rfl).iloadN (pc' := 97) d17_96 rfl rfl
  replace R := ((R.aload (pc' := 99) (v := (.ref t_b)) d17_97 rfl rfl rfl).iloadN (pc' := 100) d17_99 rfl rfl).iload (pc' := 102) d17_100 rfl rfl
  obtain ⟨_, _, _, ⟨zz, rfl, hzz, rfl, rfl⟩, R⟩ := R.callS (pc' := 105) (argsL := [(.ref t), (.int (2 : Int32)), (.ref t_b), (.int (0 : Int32)), (.int (1 : Int32))]) (rest := []) (W := 0) (w135 hw) (w136 hw) (w137 hw) (w138 hw) (by decide) (rm_mmn2_3 C.l Z a0 hw h n0 Ds hok hoy e7 e7_b hne) rfl (lenOf pd12 rfl) rfl rfl d17_102 (by decide) (by decide) (by decide) (by decide) rfl
  replace R := (((R.mono (ce' := 0) (sl' := 0) (by decide) (by decide)).stk (S' := [(.int zz)]) rfl).ifY (pc' := 112) d17_105 (flt hzz).2.1 (by decide) rfl).iconst (pc' := 113) (z := (0 : Int32)) d17_112 rfl rfl
  exact R.retN (Ds' := Ds) hret (by simp) (show nar .boolean (0 : Int32) = (0 : Int32) from rfl) d17_113 (by decide) (by decide) (fun _ q => q) ⟨rfl, rfl, rfl⟩
theorem rm_mme2_4 (l : Launch) (Z : State) (a0 : Array Value) (hw : HW a0 Z) (h : Heap) (n0 : Nat) (Ds : List Addr) {x0 x1 x2 x3 : Int32} (hok : ∀ c ∈ ([x0, x1, x2, x3] : List Int32), ¬ c < 0 ∧ ¬ (255 : Int32) < c) (hoy : ∀ c ∈ ([x2, x3] : List Int32), ¬ c < 0 ∧ ¬ (255 : Int32) < c) {t : Addr} {kt : ClassId} (V_t : Arv Z h t kt .byte (4 : Int32) [(.int x0.toInt8.toInt32), (.int x1.toInt8.toInt32), (.int x2.toInt8.toInt32), (.int x3.toInt8.toInt32)] (.int 0)) {u : Addr} {ku : ClassId} (V_u : Arv Z h u ku .byte (2 : Int32) [(.int x2.toInt8.toInt32), (.int x3.toInt8.toInt32)] (.int 0)) :
    Ctr l Z (⟨"jdk/internal/util/ArraysSupport", "mismatch", "([BI[BII)I"⟩ : MethodName) jdk_48_method_14_code 8 (some .int) [] (rmo 0 0 0 0) #[.ref t, .int (2 : Int32), .ref u, .int (0 : Int32), .int (2 : Int32)] h n0 Ds (fun v h' Ds' => v = some (.int (-1 : Int32)) ∧ h = h' ∧ Ds = Ds') := by
  refine ctr_of (Ls := #[.val (.ref t), .val (.int (2 : Int32)), .val (.ref u), .val (.int (0 : Int32)), .val (.int (2 : Int32)), .unset, .unset, .unset]) (plainFor_of_name pn4) (fun m => by first | (simp [entryFrame, mkF, argsToLocals, Value.category]; done) | rfl) ?_
  intro C hl hret hnm R
  subst hl
  replace R := (((((R.iconst (pc' := 1) (z := (0 : Int32)) d29_0 rfl rfl).istore (pc' := 3) (l' := #[.val (.ref t), .val (.int (2 : Int32)), .val (.ref u), .val (.int (0 : Int32)), .val (.int (2 : Int32)), .val (.int (0 : Int32)), .unset, .unset]) d29_1 rfl rfl).iload (pc' := 5) d29_3 rfl rfl).bipush (pc' := 7) (z := (7 : Int32)) d29_5 rfl rfl).icmpY (pc' := 70) d29_7 (flt (by decide : ¬ ((7 : Int32) < (2 : Int32)))).2.2.2 (by decide) rfl).iload (pc' := 72) d29_70 rfl rfl
  replace R := (((((R.iload (pc' := 74) d29_72 rfl rfl).icmpN (pc' := 77) d29_74 (tlt (by decide : (0 : Int32) < (2 : Int32))).2.1 rfl).aloadN (pc' := 78) (v := (.ref t)) d29_77 rfl rfl rfl).iloadN (pc' := 79) d29_78 rfl rfl).iload (pc' := 81) d29_79 rfl rfl).iadd (pc' := 82) d29_81 rfl
  replace R := (((((R.stk (S' := [(.int (2 : Int32)), (.ref t)]) rfl).baload (pc' := 83) (v := (.int x2.toInt8.toInt32)) V_t ⟨by decide, by decide⟩ rfl d29_82 rfl).aloadN (pc' := 84) (v := (.ref u)) d29_83 rfl rfl rfl).iloadN (pc' := 85) d29_84 rfl rfl).iload (pc' := 87) d29_85 rfl rfl).iadd (pc' := 88) d29_87 rfl
  replace R := (((((R.stk (S' := [(.int (0 : Int32)), (.ref u), (.int x2.toInt8.toInt32)]) rfl).baload (pc' := 89) (v := (.int x2.toInt8.toInt32)) V_u ⟨by decide, by decide⟩ rfl d29_88 rfl).icmpY (pc' := 95) d29_89 (teq (rfl : x2.toInt8.toInt32 = x2.toInt8.toInt32)).1 (by decide) rfl).iinc (pc' := 98) (l' := #[.val (.ref t), .val (.int (2 : Int32)), .val (.ref u), .val (.int (0 : Int32)), .val (.int (2 : Int32)), .val (.int (1 : Int32)), .unset, .unset]) d29_95 rfl rfl rfl).goto (pc' := 70) d29_98 (by decide) rfl).iload (pc' := 72) d29_70 rfl rfl
  replace R := (((((R.iload (pc' := 74) d29_72 rfl rfl).icmpN (pc' := 77) d29_74 (tlt (by decide : (1 : Int32) < (2 : Int32))).2.1 rfl).aloadN (pc' := 78) (v := (.ref t)) d29_77 rfl rfl rfl).iloadN (pc' := 79) d29_78 rfl rfl).iload (pc' := 81) d29_79 rfl rfl).iadd (pc' := 82) d29_81 rfl
  replace R := (((((R.stk (S' := [(.int (3 : Int32)), (.ref t)]) rfl).baload (pc' := 83) (v := (.int x3.toInt8.toInt32)) V_t ⟨by decide, by decide⟩ rfl d29_82 rfl).aloadN (pc' := 84) (v := (.ref u)) d29_83 rfl rfl rfl).iloadN (pc' := 85) d29_84 rfl rfl).iload (pc' := 87) d29_85 rfl rfl).iadd (pc' := 88) d29_87 rfl
  replace R := (((((R.stk (S' := [(.int (1 : Int32)), (.ref u), (.int x3.toInt8.toInt32)]) rfl).baload (pc' := 89) (v := (.int x3.toInt8.toInt32)) V_u ⟨by decide, by decide⟩ rfl d29_88 rfl).icmpY (pc' := 95) d29_89 (teq (rfl : x3.toInt8.toInt32 = x3.toInt8.toInt32)).1 (by decide) rfl).iinc (pc' := 98) (l' := #[.val (.ref t), .val (.int (2 : Int32)), .val (.ref u), .val (.int (0 : Int32)), .val (.int (2 : Int32)), .val (.int (2 : Int32)), .unset, .unset]) d29_95 rfl rfl rfl).goto (pc' := 70) d29_98 (by decide) rfl).iload (pc' := 72) d29_70 rfl rfl
  replace R := ((R.iload (pc' := 74) d29_72 rfl rfl).icmpY (pc' := 101) d29_74 (flt (by decide : ¬ ((2 : Int32) < (2 : Int32)))).2.1 (by decide) rfl).iconst (pc' := 102) (z := (-1 : Int32)) d29_101 rfl rfl
  exact R.retI (Ds' := Ds) hret d29_102 (by decide) (by decide) (fun _ q => q) ⟨rfl, rfl, rfl⟩
theorem rm_rme2_4 (l : Launch) (Z : State) (a0 : Array Value) (hw : HW a0 Z) (a b : Addr) (h : Heap) (n0 : Nat) (Ds : List Addr) (own_cs : CompactOn Z) {x0 x1 x2 x3 : Int32} (S_a : IsStr Z h a [x0, x1, x2, x3]) (S_b : IsStr Z h b [x2, x3]) :
    Ctr l Z (⟨"java/lang/String", "regionMatches", "(ILjava/lang/String;II)Z"⟩ : MethodName) jdk_42_method_73_code 8 (some .boolean) [] (rmo 2 0 0 27) #[.ref a, .int (2 : Int32), .ref b, .int (0 : Int32), .int (2 : Int32)] h n0 Ds (fun v h' Ds' => v = some (.int (1 : Int32)) ∧ h = h' ∧ Ds = Ds') := by
  refine ctr_of (Ls := #[.val (.ref a), .val (.int (2 : Int32)), .val (.ref b), .val (.int (0 : Int32)), .val (.int (2 : Int32)), .unset, .unset, .unset]) (plainFor_of_name pn0) (fun m => by first | (simp [entryFrame, mkF, argsToLocals, Value.category]; done) | rfl) ?_
  intro C hl hret hnm R
  subst hl
  have S_0 := S_a
  have S_1 := S_b
  obtain ⟨e1, e2, e3, e4, t, kt, e5, e6⟩ := S_a
  have e7 : Arv Z h t kt .byte (4 : Int32) [(.int x0.toInt8.toInt32), (.int x1.toInt8.toInt32), (.int x2.toInt8.toInt32), (.int x3.toInt8.toInt32)] (.int 0) := e6
  have hok := e3
  obtain ⟨e1_b, e2_b, e3_b, e4_b, t_b, kt_b, e5_b, e6_b⟩ := S_b
  have e7_b : Arv Z h t_b kt_b .byte (2 : Int32) [(.int x2.toInt8.toInt32), (.int x3.toInt8.toInt32)] (.int 0) := e6_b
  have hoy := e3_b
  replace R := (((((R.iloadN (pc' := 1) d17_0 rfl rfl).ifN (pc' := 4) d17_1 (flt (by decide : ¬ ((0 : Int32) < (0 : Int32)))).1 rfl).iloadN (pc' := 5) d17_4 rfl rfl).ifN (pc' := 8) d17_5 (flt (by decide : ¬ ((2 : Int32) < (0 : Int32)))).1 rfl).iloadN (pc' := 9) d17_8 rfl rfl).i2l (pc' := 10) d17_9 rfl
  replace R := (R.stk (S' := [(.long (2 : Int64))]) rfl).aloadN (pc' := 11) (v := (.ref a)) d17_10 rfl rfl rfl
  replace R := own_pure (R.callV (pc' := 14) (y := (⟨"java/lang/String", "length", "()I"⟩ : MethodName)) (z := (⟨"java/lang/String", "length", "()I"⟩ : MethodName)) (argsL := []) (rest := [(.long (2 : Int64))]) (W := 2) (w55 hw) (w56 hw) (fun s' hZ' => notFace_of_selects (args := #[]) (mvT hZ' (w58 hw))) (w58 hw) (w57 hw) (w7 hw) (w59 hw) (by decide) e1 (rm_length C.l Z a0 hw a h n0 Ds own_cs S_0) rfl (lenOf pd6 rfl) rfl rfl d17_11 (by decide) (by decide) (by decide) (by decide) rfl)
  replace R := (((((R.i2l (pc' := 15) d17_14 rfl).stk (S' := [(.long (4 : Int64)), (.long (2 : Int64))]) rfl).iload (pc' := 17) d17_15 rfl rfl).i2l (pc' := 18) d17_17 rfl).stk (S' := [(.long (2 : Int64)), (.long (4 : Int64)), (.long (2 : Int64))]) rfl).lsub (pc' := 19) d17_18 rfl
  replace R := (((((R.stk (S' := [(.long (2 : Int64)), (.long (2 : Int64))]) rfl).lcmp (pc' := 20) d17_19 rfl).stk (S' := [(.int (0 : Int32))]) rfl).ifN (pc' := 23) d17_20 (flt (by decide : ¬ ((0 : Int32) < (0 : Int32)))).2.2.1 rfl).iloadN (pc' := 24) d17_23 rfl rfl).i2l (pc' := 25) d17_24 rfl
  replace R := (R.stk (S' := [(.long (0 : Int64))]) rfl).aloadN (pc' := 26) (v := (.ref b)) d17_25 rfl rfl rfl
  replace R := own_pure (R.callV (pc' := 29) (y := (⟨"java/lang/String", "length", "()I"⟩ : MethodName)) (z := (⟨"java/lang/String", "length", "()I"⟩ : MethodName)) (argsL := []) (rest := [(.long (0 : Int64))]) (W := 2) (w55 hw) (w56 hw) (fun s' hZ' => notFace_of_selects (args := #[]) (mvT hZ' (w58 hw))) (w58 hw) (w57 hw) (w7 hw) (w59 hw) (by decide) e1_b (rm_length C.l Z a0 hw b h n0 Ds own_cs S_1) rfl (lenOf pd6 rfl) rfl rfl d17_26 (by decide) (by decide) (by decide) (by decide) rfl)
  replace R := (((((R.i2l (pc' := 30) d17_29 rfl).stk (S' := [(.long (2 : Int64)), (.long (0 : Int64))]) rfl).iload (pc' := 32) d17_30 rfl rfl).i2l (pc' := 33) d17_32 rfl).stk (S' := [(.long (2 : Int64)), (.long (2 : Int64)), (.long (0 : Int64))]) rfl).lsub (pc' := 34) d17_33 rfl
  replace R := (((((R.stk (S' := [(.long (0 : Int64)), (.long (0 : Int64))]) rfl).lcmp (pc' := 35) d17_34 rfl).stk (S' := [(.int (0 : Int32))]) rfl).ifY (pc' := 40) d17_35 (flt (by decide : ¬ ((0 : Int32) < (0 : Int32)))).2.2.2 (by decide) rfl).iload (pc' := 42) d17_40 rfl rfl).ifY (pc' := 47) d17_42 (tlt (by decide : (0 : Int32) < (2 : Int32))).2.2.1 (by decide) rfl
  replace R := (((((R.aloadN (pc' := 48) (v := (.ref a)) d17_47 rfl rfl rfl).getF (pc' := 51) (host := "") (Or.inl (w32 hw)) Via.refl e5 d17_48 rfl).astore (pc' := 53) (l' := #[.val (.ref a), .val (.int (2 : Int32)), .val (.ref b), .val (.int (0 : Int32)), .val (.int (2 : Int32)), .val (.ref t), .unset, .unset]) d17_51 rfl rfl rfl).aloadN (pc' := 54) (v := (.ref b)) d17_53 rfl rfl rfl).getF (pc' := 57) (host := "") (Or.inl (w32 hw)) Via.refl e5_b d17_54 rfl).astore (pc' := 59) (l' := #[.val (.ref a), .val (.int (2 : Int32)), .val (.ref b), .val (.int (0 : Int32)), .val (.int (2 : Int32)), .val (.ref t), .val (.ref t_b), .unset]) d17_57 rfl rfl rfl
  replace R := R.aloadN (pc' := 60) (v := (.ref a)) d17_59 rfl rfl rfl
  replace R := own_pure (R.callV (pc' := 63) (y := (⟨"java/lang/String", "coder", "()B"⟩ : MethodName)) (z := (⟨"java/lang/String", "coder", "()B"⟩ : MethodName)) (argsL := []) (rest := []) (W := 0) (w60 hw) (w61 hw) (fun s' hZ' => notFace_of_selects (args := #[]) (mvT hZ' (w63 hw))) (w63 hw) (w62 hw) (w7 hw) (w64 hw) (by decide) e1 (rm_coder C.l Z a0 hw a h n0 Ds own_cs e2) rfl (lenOf pd0 rfl) rfl rfl d17_60 (by decide) (by decide) (by decide) (by decide) rfl)
  replace R := ((R.istore (pc' := 65) (l' := #[.val (.ref a), .val (.int (2 : Int32)), .val (.ref b), .val (.int (0 : Int32)), .val (.int (2 : Int32)), .val (.ref t), .val (.ref t_b), .val (.int (0 : Int32))]) d17_63 rfl rfl).iload (pc' := 67) d17_65 rfl rfl).aloadN (pc' := 68) (v := (.ref b)) d17_67 rfl rfl rfl
  replace R := own_pure (R.callV (pc' := 71) (y := (⟨"java/lang/String", "coder", "()B"⟩ : MethodName)) (z := (⟨"java/lang/String", "coder", "()B"⟩ : MethodName)) (argsL := []) (rest := [(.int (0 : Int32))]) (W := 1) (w60 hw) (w61 hw) (fun s' hZ' => notFace_of_selects (args := #[]) (mvT hZ' (w63 hw))) (w63 hw) (w62 hw) (w7 hw) (w64 hw) (by decide) e1_b (rm_coder C.l Z a0 hw b h n0 Ds own_cs e2_b) rfl (lenOf pd0 rfl) rfl rfl d17_68 (by decide) (by decide) (by decide) (by decide) rfl)
  replace R := (((((R.icmpN (pc' := 74) d17_71 (teq (by decide : (0 : Int32) = (0 : Int32))).2 rfl).iload (pc' := 76) d17_74 rfl rfl).iconst (pc' := 77) (z := (1 : Int32)) d17_76 rfl rfl).icmpY (pc' := 94) d17_77 (feq (by decide : ¬ ((0 : Int32) = (1 : Int32)))).2 (by decide) rfl).aload (pc' := 96) (v := (.ref t)) d17_94 rfl rfl rfl).iloadN (pc' := 97) d17_96 rfl rfl
  replace R := ((R.aload (pc' := 99) (v := (.ref t_b)) d17_97 rfl rfl rfl).iloadN (pc' := 100) d17_99 rfl rfl).iload (pc' := 102) d17_100 rfl rfl
  replace R := own_pure (R.callS (pc' := 105) (argsL := [(.ref t), (.int (2 : Int32)), (.ref t_b), (.int (0 : Int32)), (.int (2 : Int32))]) (rest := []) (W := 0) (w135 hw) (w136 hw) (w137 hw) (w138 hw) (by decide) (rm_mme2_4 C.l Z a0 hw h n0 Ds hok hoy e7 e7_b) rfl (lenOf pd12 rfl) rfl rfl d17_102 (by decide) (by decide) (by decide) (by decide) rfl)
  replace R := ((R.ifN (pc' := 108) d17_105 (tlt (by decide : (-1 : Int32) < (0 : Int32))).2.1 rfl).iconst (pc' := 109) (z := (1 : Int32)) d17_108 rfl rfl).goto (pc' := 113) d17_109 (by decide) rfl
  exact R.retN (Ds' := Ds) hret (by simp) (show nar .boolean (1 : Int32) = (1 : Int32) from rfl) d17_113 (by decide) (by decide) (fun _ q => q) ⟨rfl, rfl, rfl⟩
theorem rm_mmn2_4 (l : Launch) (Z : State) (a0 : Array Value) (hw : HW a0 Z) (h : Heap) (n0 : Nat) (Ds : List Addr) {x0 x1 x2 x3 : Int32} {y0 y1 : Int32} (hok : ∀ c ∈ ([x0, x1, x2, x3] : List Int32), ¬ c < 0 ∧ ¬ (255 : Int32) < c) (hoy : ∀ c ∈ ([y0, y1] : List Int32), ¬ c < 0 ∧ ¬ (255 : Int32) < c) {t : Addr} {kt : ClassId} (V_t : Arv Z h t kt .byte (4 : Int32) [(.int x0.toInt8.toInt32), (.int x1.toInt8.toInt32), (.int x2.toInt8.toInt32), (.int x3.toInt8.toInt32)] (.int 0)) {u : Addr} {ku : ClassId} (V_u : Arv Z h u ku .byte (2 : Int32) [(.int y0.toInt8.toInt32), (.int y1.toInt8.toInt32)] (.int 0)) (hne : ¬ ([x2, x3] : List Int32) = [y0, y1]) :
    Ctr l Z (⟨"jdk/internal/util/ArraysSupport", "mismatch", "([BI[BII)I"⟩ : MethodName) jdk_48_method_14_code 8 (some .int) [] (rmo 0 0 0 0) #[.ref t, .int (2 : Int32), .ref u, .int (0 : Int32), .int (2 : Int32)] h n0 Ds (fun v h' Ds' => ∃ z : Int32, v = some (.int z) ∧ ¬ z < 0 ∧ h = h' ∧ Ds = Ds') := by
  refine ctr_of (Ls := #[.val (.ref t), .val (.int (2 : Int32)), .val (.ref u), .val (.int (0 : Int32)), .val (.int (2 : Int32)), .unset, .unset, .unset]) (plainFor_of_name pn4) (fun m => by first | (simp [entryFrame, mkF, argsToLocals, Value.category]; done) | rfl) ?_
  intro C hl hret hnm R
  subst hl
  replace R := (((((R.iconst (pc' := 1) (z := (0 : Int32)) d29_0 rfl rfl).istore (pc' := 3) (l' := #[.val (.ref t), .val (.int (2 : Int32)), .val (.ref u), .val (.int (0 : Int32)), .val (.int (2 : Int32)), .val (.int (0 : Int32)), .unset, .unset]) d29_1 rfl rfl).iload (pc' := 5) d29_3 rfl rfl).bipush (pc' := 7) (z := (7 : Int32)) d29_5 rfl rfl).icmpY (pc' := 70) d29_7 (flt (by decide : ¬ ((7 : Int32) < (2 : Int32)))).2.2.2 (by decide) rfl).iload (pc' := 72) d29_70 rfl rfl
  replace R := (((((R.iload (pc' := 74) d29_72 rfl rfl).icmpN (pc' := 77) d29_74 (tlt (by decide : (0 : Int32) < (2 : Int32))).2.1 rfl).aloadN (pc' := 78) (v := (.ref t)) d29_77 rfl rfl rfl).iloadN (pc' := 79) d29_78 rfl rfl).iload (pc' := 81) d29_79 rfl rfl).iadd (pc' := 82) d29_81 rfl
  replace R := (((((R.stk (S' := [(.int (2 : Int32)), (.ref t)]) rfl).baload (pc' := 83) (v := (.int x2.toInt8.toInt32)) V_t ⟨by decide, by decide⟩ rfl d29_82 rfl).aloadN (pc' := 84) (v := (.ref u)) d29_83 rfl rfl rfl).iloadN (pc' := 85) d29_84 rfl rfl).iload (pc' := 87) d29_85 rfl rfl).iadd (pc' := 88) d29_87 rfl
  replace R := (R.stk (S' := [(.int (0 : Int32)), (.ref u), (.int x2.toInt8.toInt32)]) rfl).baload (pc' := 89) (v := (.int y0.toInt8.toInt32)) V_u ⟨by decide, by decide⟩ rfl d29_88 rfl
  by_cases hc1 : x2.toInt8.toInt32 = y0.toInt8.toInt32
  · replace R := R.icmpY (pc' := 95) d29_89 (teq hc1).1 (by decide) rfl
    replace R := (((((R.iinc (pc' := 98) (l' := #[.val (.ref t), .val (.int (2 : Int32)), .val (.ref u), .val (.int (0 : Int32)), .val (.int (2 : Int32)), .val (.int (1 : Int32)), .unset, .unset]) d29_95 rfl rfl rfl).goto (pc' := 70) d29_98 (by decide) rfl).iload (pc' := 72) d29_70 rfl rfl).iload (pc' := 74) d29_72 rfl rfl).icmpN (pc' := 77) d29_74 (tlt (by decide : (1 : Int32) < (2 : Int32))).2.1 rfl).aloadN (pc' := 78) (v := (.ref t)) d29_77 rfl rfl rfl
    replace R := (((((R.iloadN (pc' := 79) d29_78 rfl rfl).iload (pc' := 81) d29_79 rfl rfl).iadd (pc' := 82) d29_81 rfl).stk (S' := [(.int (3 : Int32)), (.ref t)]) rfl).baload (pc' := 83) (v := (.int x3.toInt8.toInt32)) V_t ⟨by decide, by decide⟩ rfl d29_82 rfl).aloadN (pc' := 84) (v := (.ref u)) d29_83 rfl rfl rfl
    replace R := ((((R.iloadN (pc' := 85) d29_84 rfl rfl).iload (pc' := 87) d29_85 rfl rfl).iadd (pc' := 88) d29_87 rfl).stk (S' := [(.int (1 : Int32)), (.ref u), (.int x3.toInt8.toInt32)]) rfl).baload (pc' := 89) (v := (.int y1.toInt8.toInt32)) V_u ⟨by decide, by decide⟩ rfl d29_88 rfl
    by_cases hc2 : x3.toInt8.toInt32 = y1.toInt8.toInt32
    · replace R := R.icmpY (pc' := 95) d29_89 (teq hc2).1 (by decide) rfl
      replace R := (((((R.iinc (pc' := 98) (l' := #[.val (.ref t), .val (.int (2 : Int32)), .val (.ref u), .val (.int (0 : Int32)), .val (.int (2 : Int32)), .val (.int (2 : Int32)), .unset, .unset]) d29_95 rfl rfl rfl).goto (pc' := 70) d29_98 (by decide) rfl).iload (pc' := 72) d29_70 rfl rfl).iload (pc' := 74) d29_72 rfl rfl).icmpY (pc' := 101) d29_74 (flt (by decide : ¬ ((2 : Int32) < (2 : Int32)))).2.1 (by decide) rfl).iconst (pc' := 102) (z := (-1 : Int32)) d29_101 rfl rfl
      exact absurd (show ([x2, x3] : List Int32) = [y0, y1] by rw [sbyte (hok x2 (List.mem_of_getElem? (i := 2) rfl)) (hoy y0 (List.mem_of_getElem? (i := 0) rfl)) hc1, sbyte (hok x3 (List.mem_of_getElem? (i := 3) rfl)) (hoy y1 (List.mem_of_getElem? (i := 1) rfl)) hc2]) hne
    · replace R := R.icmpN (pc' := 92) d29_89 (feq hc2).1 rfl
      replace R := R.iload (pc' := 94) d29_92 rfl rfl
      exact R.retI (Ds' := Ds) hret d29_94 (by decide) (by decide) (fun _ q => q) ⟨_, rfl, by decide, rfl, rfl⟩
  · replace R := R.icmpN (pc' := 92) d29_89 (feq hc1).1 rfl
    replace R := R.iload (pc' := 94) d29_92 rfl rfl
    exact R.retI (Ds' := Ds) hret d29_94 (by decide) (by decide) (fun _ q => q) ⟨_, rfl, by decide, rfl, rfl⟩
theorem rm_rmn2_4 (l : Launch) (Z : State) (a0 : Array Value) (hw : HW a0 Z) (a b : Addr) (h : Heap) (n0 : Nat) (Ds : List Addr) (own_cs : CompactOn Z) {x0 x1 x2 x3 : Int32} {y0 y1 : Int32} (S_a : IsStr Z h a [x0, x1, x2, x3]) (S_b : IsStr Z h b [y0, y1]) (hne : ¬ ([x2, x3] : List Int32) = [y0, y1]) :
    Ctr l Z (⟨"java/lang/String", "regionMatches", "(ILjava/lang/String;II)Z"⟩ : MethodName) jdk_42_method_73_code 8 (some .boolean) [] (rmo 2 0 0 27) #[.ref a, .int (2 : Int32), .ref b, .int (0 : Int32), .int (2 : Int32)] h n0 Ds (fun v h' Ds' => v = some (.int (0 : Int32)) ∧ h = h' ∧ Ds = Ds') := by
  refine ctr_of (Ls := #[.val (.ref a), .val (.int (2 : Int32)), .val (.ref b), .val (.int (0 : Int32)), .val (.int (2 : Int32)), .unset, .unset, .unset]) (plainFor_of_name pn0) (fun m => by first | (simp [entryFrame, mkF, argsToLocals, Value.category]; done) | rfl) ?_
  intro C hl hret hnm R
  subst hl
  have S_0 := S_a
  have S_1 := S_b
  obtain ⟨e1, e2, e3, e4, t, kt, e5, e6⟩ := S_a
  have e7 : Arv Z h t kt .byte (4 : Int32) [(.int x0.toInt8.toInt32), (.int x1.toInt8.toInt32), (.int x2.toInt8.toInt32), (.int x3.toInt8.toInt32)] (.int 0) := e6
  have hok := e3
  obtain ⟨e1_b, e2_b, e3_b, e4_b, t_b, kt_b, e5_b, e6_b⟩ := S_b
  have e7_b : Arv Z h t_b kt_b .byte (2 : Int32) [(.int y0.toInt8.toInt32), (.int y1.toInt8.toInt32)] (.int 0) := e6_b
  have hoy := e3_b
  replace R := (((((R.iloadN (pc' := 1) d17_0 rfl rfl).ifN (pc' := 4) d17_1 (flt (by decide : ¬ ((0 : Int32) < (0 : Int32)))).1 rfl).iloadN (pc' := 5) d17_4 rfl rfl).ifN (pc' := 8) d17_5 (flt (by decide : ¬ ((2 : Int32) < (0 : Int32)))).1 rfl).iloadN (pc' := 9) d17_8 rfl rfl).i2l (pc' := 10) d17_9 rfl
  replace R := (R.stk (S' := [(.long (2 : Int64))]) rfl).aloadN (pc' := 11) (v := (.ref a)) d17_10 rfl rfl rfl
  replace R := own_pure (R.callV (pc' := 14) (y := (⟨"java/lang/String", "length", "()I"⟩ : MethodName)) (z := (⟨"java/lang/String", "length", "()I"⟩ : MethodName)) (argsL := []) (rest := [(.long (2 : Int64))]) (W := 2) (w55 hw) (w56 hw) (fun s' hZ' => notFace_of_selects (args := #[]) (mvT hZ' (w58 hw))) (w58 hw) (w57 hw) (w7 hw) (w59 hw) (by decide) e1 (rm_length C.l Z a0 hw a h n0 Ds own_cs S_0) rfl (lenOf pd6 rfl) rfl rfl d17_11 (by decide) (by decide) (by decide) (by decide) rfl)
  replace R := (((((R.i2l (pc' := 15) d17_14 rfl).stk (S' := [(.long (4 : Int64)), (.long (2 : Int64))]) rfl).iload (pc' := 17) d17_15 rfl rfl).i2l (pc' := 18) d17_17 rfl).stk (S' := [(.long (2 : Int64)), (.long (4 : Int64)), (.long (2 : Int64))]) rfl).lsub (pc' := 19) d17_18 rfl
  replace R := (((((R.stk (S' := [(.long (2 : Int64)), (.long (2 : Int64))]) rfl).lcmp (pc' := 20) d17_19 rfl).stk (S' := [(.int (0 : Int32))]) rfl).ifN (pc' := 23) d17_20 (flt (by decide : ¬ ((0 : Int32) < (0 : Int32)))).2.2.1 rfl).iloadN (pc' := 24) d17_23 rfl rfl).i2l (pc' := 25) d17_24 rfl
  replace R := (R.stk (S' := [(.long (0 : Int64))]) rfl).aloadN (pc' := 26) (v := (.ref b)) d17_25 rfl rfl rfl
  replace R := own_pure (R.callV (pc' := 29) (y := (⟨"java/lang/String", "length", "()I"⟩ : MethodName)) (z := (⟨"java/lang/String", "length", "()I"⟩ : MethodName)) (argsL := []) (rest := [(.long (0 : Int64))]) (W := 2) (w55 hw) (w56 hw) (fun s' hZ' => notFace_of_selects (args := #[]) (mvT hZ' (w58 hw))) (w58 hw) (w57 hw) (w7 hw) (w59 hw) (by decide) e1_b (rm_length C.l Z a0 hw b h n0 Ds own_cs S_1) rfl (lenOf pd6 rfl) rfl rfl d17_26 (by decide) (by decide) (by decide) (by decide) rfl)
  replace R := (((((R.i2l (pc' := 30) d17_29 rfl).stk (S' := [(.long (2 : Int64)), (.long (0 : Int64))]) rfl).iload (pc' := 32) d17_30 rfl rfl).i2l (pc' := 33) d17_32 rfl).stk (S' := [(.long (2 : Int64)), (.long (2 : Int64)), (.long (0 : Int64))]) rfl).lsub (pc' := 34) d17_33 rfl
  replace R := (((((R.stk (S' := [(.long (0 : Int64)), (.long (0 : Int64))]) rfl).lcmp (pc' := 35) d17_34 rfl).stk (S' := [(.int (0 : Int32))]) rfl).ifY (pc' := 40) d17_35 (flt (by decide : ¬ ((0 : Int32) < (0 : Int32)))).2.2.2 (by decide) rfl).iload (pc' := 42) d17_40 rfl rfl).ifY (pc' := 47) d17_42 (tlt (by decide : (0 : Int32) < (2 : Int32))).2.2.1 (by decide) rfl
  replace R := (((((R.aloadN (pc' := 48) (v := (.ref a)) d17_47 rfl rfl rfl).getF (pc' := 51) (host := "") (Or.inl (w32 hw)) Via.refl e5 d17_48 rfl).astore (pc' := 53) (l' := #[.val (.ref a), .val (.int (2 : Int32)), .val (.ref b), .val (.int (0 : Int32)), .val (.int (2 : Int32)), .val (.ref t), .unset, .unset]) d17_51 rfl rfl rfl).aloadN (pc' := 54) (v := (.ref b)) d17_53 rfl rfl rfl).getF (pc' := 57) (host := "") (Or.inl (w32 hw)) Via.refl e5_b d17_54 rfl).astore (pc' := 59) (l' := #[.val (.ref a), .val (.int (2 : Int32)), .val (.ref b), .val (.int (0 : Int32)), .val (.int (2 : Int32)), .val (.ref t), .val (.ref t_b), .unset]) d17_57 rfl rfl rfl
  replace R := R.aloadN (pc' := 60) (v := (.ref a)) d17_59 rfl rfl rfl
  replace R := own_pure (R.callV (pc' := 63) (y := (⟨"java/lang/String", "coder", "()B"⟩ : MethodName)) (z := (⟨"java/lang/String", "coder", "()B"⟩ : MethodName)) (argsL := []) (rest := []) (W := 0) (w60 hw) (w61 hw) (fun s' hZ' => notFace_of_selects (args := #[]) (mvT hZ' (w63 hw))) (w63 hw) (w62 hw) (w7 hw) (w64 hw) (by decide) e1 (rm_coder C.l Z a0 hw a h n0 Ds own_cs e2) rfl (lenOf pd0 rfl) rfl rfl d17_60 (by decide) (by decide) (by decide) (by decide) rfl)
  replace R := ((R.istore (pc' := 65) (l' := #[.val (.ref a), .val (.int (2 : Int32)), .val (.ref b), .val (.int (0 : Int32)), .val (.int (2 : Int32)), .val (.ref t), .val (.ref t_b), .val (.int (0 : Int32))]) d17_63 rfl rfl).iload (pc' := 67) d17_65 rfl rfl).aloadN (pc' := 68) (v := (.ref b)) d17_67 rfl rfl rfl
  replace R := own_pure (R.callV (pc' := 71) (y := (⟨"java/lang/String", "coder", "()B"⟩ : MethodName)) (z := (⟨"java/lang/String", "coder", "()B"⟩ : MethodName)) (argsL := []) (rest := [(.int (0 : Int32))]) (W := 1) (w60 hw) (w61 hw) (fun s' hZ' => notFace_of_selects (args := #[]) (mvT hZ' (w63 hw))) (w63 hw) (w62 hw) (w7 hw) (w64 hw) (by decide) e1_b (rm_coder C.l Z a0 hw b h n0 Ds own_cs e2_b) rfl (lenOf pd0 rfl) rfl rfl d17_68 (by decide) (by decide) (by decide) (by decide) rfl)
  replace R := (((((R.icmpN (pc' := 74) d17_71 (teq (by decide : (0 : Int32) = (0 : Int32))).2 rfl).iload (pc' := 76) d17_74 rfl rfl).iconst (pc' := 77) (z := (1 : Int32)) d17_76 rfl rfl).icmpY (pc' := 94) d17_77 (feq (by decide : ¬ ((0 : Int32) = (1 : Int32)))).2 (by decide) rfl).aload (pc' := 96) (v := (.ref t)) d17_94 rfl rfl rfl).iloadN (pc' := 97) d17_96 rfl rfl
  replace R := ((R.aload (pc' := 99) (v := (.ref t_b)) d17_97 rfl rfl rfl).iloadN (pc' := 100) d17_99 rfl rfl).iload (pc' := 102) d17_100 rfl rfl
  obtain ⟨_, _, _, ⟨zz, rfl, hzz, rfl, rfl⟩, R⟩ := R.callS (pc' := 105) (argsL := [(.ref t), (.int (2 : Int32)), (.ref t_b), (.int (0 : Int32)), (.int (2 : Int32))]) (rest := []) (W := 0) (w135 hw) (w136 hw) (w137 hw) (w138 hw) (by decide) (rm_mmn2_4 C.l Z a0 hw h n0 Ds hok hoy e7 e7_b hne) rfl (lenOf pd12 rfl) rfl rfl d17_102 (by decide) (by decide) (by decide) (by decide) rfl
  replace R := (((R.mono (ce' := 0) (sl' := 0) (by decide) (by decide)).stk (S' := [(.int zz)]) rfl).ifY (pc' := 112) d17_105 (flt hzz).2.1 (by decide) rfl).iconst (pc' := 113) (z := (0 : Int32)) d17_112 rfl rfl
  exact R.retN (Ds' := Ds) hret (by simp) (show nar .boolean (0 : Int32) = (0 : Int32) from rfl) d17_113 (by decide) (by decide) (fun _ q => q) ⟨rfl, rfl, rfl⟩
theorem rm_rme3_3 (l : Launch) (Z : State) (a0 : Array Value) (hw : HW a0 Z) (a b : Addr) (h : Heap) (n0 : Nat) (Ds : List Addr) (own_cs : CompactOn Z) {x0 x1 x2 x3 : Int32} (S_a : IsStr Z h a [x0, x1, x2, x3]) (S_b : IsStr Z h b []) :
    Ctr l Z (⟨"java/lang/String", "regionMatches", "(ILjava/lang/String;II)Z"⟩ : MethodName) jdk_42_method_73_code 8 (some .boolean) [] (rmo 2 0 0 27) #[.ref a, .int (3 : Int32), .ref b, .int (0 : Int32), .int (0 : Int32)] h n0 Ds (fun v h' Ds' => v = some (.int (1 : Int32)) ∧ h = h' ∧ Ds = Ds') := by
  refine ctr_of (Ls := #[.val (.ref a), .val (.int (3 : Int32)), .val (.ref b), .val (.int (0 : Int32)), .val (.int (0 : Int32)), .unset, .unset, .unset]) (plainFor_of_name pn0) (fun m => by first | (simp [entryFrame, mkF, argsToLocals, Value.category]; done) | rfl) ?_
  intro C hl hret hnm R
  subst hl
  have S_0 := S_a
  have S_1 := S_b
  obtain ⟨e1, e2, e3, e4, t, kt, e5, e6⟩ := S_a
  have e7 : Arv Z h t kt .byte (4 : Int32) [(.int x0.toInt8.toInt32), (.int x1.toInt8.toInt32), (.int x2.toInt8.toInt32), (.int x3.toInt8.toInt32)] (.int 0) := e6
  have hok := e3
  obtain ⟨e1_b, e2_b, e3_b, e4_b, t_b, kt_b, e5_b, e6_b⟩ := S_b
  have e7_b : Arv Z h t_b kt_b .byte (0 : Int32) [] (.int 0) := e6_b
  have hoy := e3_b
  replace R := (((((R.iloadN (pc' := 1) d17_0 rfl rfl).ifN (pc' := 4) d17_1 (flt (by decide : ¬ ((0 : Int32) < (0 : Int32)))).1 rfl).iloadN (pc' := 5) d17_4 rfl rfl).ifN (pc' := 8) d17_5 (flt (by decide : ¬ ((3 : Int32) < (0 : Int32)))).1 rfl).iloadN (pc' := 9) d17_8 rfl rfl).i2l (pc' := 10) d17_9 rfl
  replace R := (R.stk (S' := [(.long (3 : Int64))]) rfl).aloadN (pc' := 11) (v := (.ref a)) d17_10 rfl rfl rfl
  replace R := own_pure (R.callV (pc' := 14) (y := (⟨"java/lang/String", "length", "()I"⟩ : MethodName)) (z := (⟨"java/lang/String", "length", "()I"⟩ : MethodName)) (argsL := []) (rest := [(.long (3 : Int64))]) (W := 2) (w55 hw) (w56 hw) (fun s' hZ' => notFace_of_selects (args := #[]) (mvT hZ' (w58 hw))) (w58 hw) (w57 hw) (w7 hw) (w59 hw) (by decide) e1 (rm_length C.l Z a0 hw a h n0 Ds own_cs S_0) rfl (lenOf pd6 rfl) rfl rfl d17_11 (by decide) (by decide) (by decide) (by decide) rfl)
  replace R := (((((R.i2l (pc' := 15) d17_14 rfl).stk (S' := [(.long (4 : Int64)), (.long (3 : Int64))]) rfl).iload (pc' := 17) d17_15 rfl rfl).i2l (pc' := 18) d17_17 rfl).stk (S' := [(.long (0 : Int64)), (.long (4 : Int64)), (.long (3 : Int64))]) rfl).lsub (pc' := 19) d17_18 rfl
  replace R := (((((R.stk (S' := [(.long (4 : Int64)), (.long (3 : Int64))]) rfl).lcmp (pc' := 20) d17_19 rfl).stk (S' := [(.int (-1 : Int32))]) rfl).ifN (pc' := 23) d17_20 (flt (by decide : ¬ ((0 : Int32) < (-1 : Int32)))).2.2.1 rfl).iloadN (pc' := 24) d17_23 rfl rfl).i2l (pc' := 25) d17_24 rfl
  replace R := (R.stk (S' := [(.long (0 : Int64))]) rfl).aloadN (pc' := 26) (v := (.ref b)) d17_25 rfl rfl rfl
  replace R := own_pure (R.callV (pc' := 29) (y := (⟨"java/lang/String", "length", "()I"⟩ : MethodName)) (z := (⟨"java/lang/String", "length", "()I"⟩ : MethodName)) (argsL := []) (rest := [(.long (0 : Int64))]) (W := 2) (w55 hw) (w56 hw) (fun s' hZ' => notFace_of_selects (args := #[]) (mvT hZ' (w58 hw))) (w58 hw) (w57 hw) (w7 hw) (w59 hw) (by decide) e1_b (rm_length C.l Z a0 hw b h n0 Ds own_cs S_1) rfl (lenOf pd6 rfl) rfl rfl d17_26 (by decide) (by decide) (by decide) (by decide) rfl)
  replace R := (((((R.i2l (pc' := 30) d17_29 rfl).stk (S' := [(.long (0 : Int64)), (.long (0 : Int64))]) rfl).iload (pc' := 32) d17_30 rfl rfl).i2l (pc' := 33) d17_32 rfl).stk (S' := [(.long (0 : Int64)), (.long (0 : Int64)), (.long (0 : Int64))]) rfl).lsub (pc' := 34) d17_33 rfl
  replace R := (((((R.stk (S' := [(.long (0 : Int64)), (.long (0 : Int64))]) rfl).lcmp (pc' := 35) d17_34 rfl).stk (S' := [(.int (0 : Int32))]) rfl).ifY (pc' := 40) d17_35 (flt (by decide : ¬ ((0 : Int32) < (0 : Int32)))).2.2.2 (by decide) rfl).iload (pc' := 42) d17_40 rfl rfl).ifN (pc' := 45) d17_42 (flt (by decide : ¬ ((0 : Int32) < (0 : Int32)))).2.2.1 rfl
  replace R := R.iconst (pc' := 46) (z := (1 : Int32)) d17_45 rfl rfl
  exact R.retN (Ds' := Ds) hret (by simp) (show nar .boolean (1 : Int32) = (1 : Int32) from rfl) d17_46 (by decide) (by decide) (fun _ q => q) ⟨rfl, rfl, rfl⟩
theorem rm_mme3_4 (l : Launch) (Z : State) (a0 : Array Value) (hw : HW a0 Z) (h : Heap) (n0 : Nat) (Ds : List Addr) {x0 x1 x2 x3 : Int32} (hok : ∀ c ∈ ([x0, x1, x2, x3] : List Int32), ¬ c < 0 ∧ ¬ (255 : Int32) < c) (hoy : ∀ c ∈ ([x3] : List Int32), ¬ c < 0 ∧ ¬ (255 : Int32) < c) {t : Addr} {kt : ClassId} (V_t : Arv Z h t kt .byte (4 : Int32) [(.int x0.toInt8.toInt32), (.int x1.toInt8.toInt32), (.int x2.toInt8.toInt32), (.int x3.toInt8.toInt32)] (.int 0)) {u : Addr} {ku : ClassId} (V_u : Arv Z h u ku .byte (1 : Int32) [(.int x3.toInt8.toInt32)] (.int 0)) :
    Ctr l Z (⟨"jdk/internal/util/ArraysSupport", "mismatch", "([BI[BII)I"⟩ : MethodName) jdk_48_method_14_code 8 (some .int) [] (rmo 0 0 0 0) #[.ref t, .int (3 : Int32), .ref u, .int (0 : Int32), .int (1 : Int32)] h n0 Ds (fun v h' Ds' => v = some (.int (-1 : Int32)) ∧ h = h' ∧ Ds = Ds') := by
  refine ctr_of (Ls := #[.val (.ref t), .val (.int (3 : Int32)), .val (.ref u), .val (.int (0 : Int32)), .val (.int (1 : Int32)), .unset, .unset, .unset]) (plainFor_of_name pn4) (fun m => by first | (simp [entryFrame, mkF, argsToLocals, Value.category]; done) | rfl) ?_
  intro C hl hret hnm R
  subst hl
  replace R := (((((R.iconst (pc' := 1) (z := (0 : Int32)) d29_0 rfl rfl).istore (pc' := 3) (l' := #[.val (.ref t), .val (.int (3 : Int32)), .val (.ref u), .val (.int (0 : Int32)), .val (.int (1 : Int32)), .val (.int (0 : Int32)), .unset, .unset]) d29_1 rfl rfl).iload (pc' := 5) d29_3 rfl rfl).bipush (pc' := 7) (z := (7 : Int32)) d29_5 rfl rfl).icmpY (pc' := 70) d29_7 (flt (by decide : ¬ ((7 : Int32) < (1 : Int32)))).2.2.2 (by decide) rfl).iload (pc' := 72) d29_70 rfl rfl
  replace R := (((((R.iload (pc' := 74) d29_72 rfl rfl).icmpN (pc' := 77) d29_74 (tlt (by decide : (0 : Int32) < (1 : Int32))).2.1 rfl).aloadN (pc' := 78) (v := (.ref t)) d29_77 rfl rfl rfl).iloadN (pc' := 79) d29_78 rfl rfl).iload (pc' := 81) d29_79 rfl rfl).iadd (pc' := 82) d29_81 rfl
  replace R := (((((R.stk (S' := [(.int (3 : Int32)), (.ref t)]) rfl).baload (pc' := 83) (v := (.int x3.toInt8.toInt32)) V_t ⟨by decide, by decide⟩ rfl d29_82 rfl).aloadN (pc' := 84) (v := (.ref u)) d29_83 rfl rfl rfl).iloadN (pc' := 85) d29_84 rfl rfl).iload (pc' := 87) d29_85 rfl rfl).iadd (pc' := 88) d29_87 rfl
  replace R := (((((R.stk (S' := [(.int (0 : Int32)), (.ref u), (.int x3.toInt8.toInt32)]) rfl).baload (pc' := 89) (v := (.int x3.toInt8.toInt32)) V_u ⟨by decide, by decide⟩ rfl d29_88 rfl).icmpY (pc' := 95) d29_89 (teq (rfl : x3.toInt8.toInt32 = x3.toInt8.toInt32)).1 (by decide) rfl).iinc (pc' := 98) (l' := #[.val (.ref t), .val (.int (3 : Int32)), .val (.ref u), .val (.int (0 : Int32)), .val (.int (1 : Int32)), .val (.int (1 : Int32)), .unset, .unset]) d29_95 rfl rfl rfl).goto (pc' := 70) d29_98 (by decide) rfl).iload (pc' := 72) d29_70 rfl rfl
  replace R := ((R.iload (pc' := 74) d29_72 rfl rfl).icmpY (pc' := 101) d29_74 (flt (by decide : ¬ ((1 : Int32) < (1 : Int32)))).2.1 (by decide) rfl).iconst (pc' := 102) (z := (-1 : Int32)) d29_101 rfl rfl
  exact R.retI (Ds' := Ds) hret d29_102 (by decide) (by decide) (fun _ q => q) ⟨rfl, rfl, rfl⟩
theorem rm_rme3_4 (l : Launch) (Z : State) (a0 : Array Value) (hw : HW a0 Z) (a b : Addr) (h : Heap) (n0 : Nat) (Ds : List Addr) (own_cs : CompactOn Z) {x0 x1 x2 x3 : Int32} (S_a : IsStr Z h a [x0, x1, x2, x3]) (S_b : IsStr Z h b [x3]) :
    Ctr l Z (⟨"java/lang/String", "regionMatches", "(ILjava/lang/String;II)Z"⟩ : MethodName) jdk_42_method_73_code 8 (some .boolean) [] (rmo 2 0 0 27) #[.ref a, .int (3 : Int32), .ref b, .int (0 : Int32), .int (1 : Int32)] h n0 Ds (fun v h' Ds' => v = some (.int (1 : Int32)) ∧ h = h' ∧ Ds = Ds') := by
  refine ctr_of (Ls := #[.val (.ref a), .val (.int (3 : Int32)), .val (.ref b), .val (.int (0 : Int32)), .val (.int (1 : Int32)), .unset, .unset, .unset]) (plainFor_of_name pn0) (fun m => by first | (simp [entryFrame, mkF, argsToLocals, Value.category]; done) | rfl) ?_
  intro C hl hret hnm R
  subst hl
  have S_0 := S_a
  have S_1 := S_b
  obtain ⟨e1, e2, e3, e4, t, kt, e5, e6⟩ := S_a
  have e7 : Arv Z h t kt .byte (4 : Int32) [(.int x0.toInt8.toInt32), (.int x1.toInt8.toInt32), (.int x2.toInt8.toInt32), (.int x3.toInt8.toInt32)] (.int 0) := e6
  have hok := e3
  obtain ⟨e1_b, e2_b, e3_b, e4_b, t_b, kt_b, e5_b, e6_b⟩ := S_b
  have e7_b : Arv Z h t_b kt_b .byte (1 : Int32) [(.int x3.toInt8.toInt32)] (.int 0) := e6_b
  have hoy := e3_b
  replace R := (((((R.iloadN (pc' := 1) d17_0 rfl rfl).ifN (pc' := 4) d17_1 (flt (by decide : ¬ ((0 : Int32) < (0 : Int32)))).1 rfl).iloadN (pc' := 5) d17_4 rfl rfl).ifN (pc' := 8) d17_5 (flt (by decide : ¬ ((3 : Int32) < (0 : Int32)))).1 rfl).iloadN (pc' := 9) d17_8 rfl rfl).i2l (pc' := 10) d17_9 rfl
  replace R := (R.stk (S' := [(.long (3 : Int64))]) rfl).aloadN (pc' := 11) (v := (.ref a)) d17_10 rfl rfl rfl
  replace R := own_pure (R.callV (pc' := 14) (y := (⟨"java/lang/String", "length", "()I"⟩ : MethodName)) (z := (⟨"java/lang/String", "length", "()I"⟩ : MethodName)) (argsL := []) (rest := [(.long (3 : Int64))]) (W := 2) (w55 hw) (w56 hw) (fun s' hZ' => notFace_of_selects (args := #[]) (mvT hZ' (w58 hw))) (w58 hw) (w57 hw) (w7 hw) (w59 hw) (by decide) e1 (rm_length C.l Z a0 hw a h n0 Ds own_cs S_0) rfl (lenOf pd6 rfl) rfl rfl d17_11 (by decide) (by decide) (by decide) (by decide) rfl)
  replace R := (((((R.i2l (pc' := 15) d17_14 rfl).stk (S' := [(.long (4 : Int64)), (.long (3 : Int64))]) rfl).iload (pc' := 17) d17_15 rfl rfl).i2l (pc' := 18) d17_17 rfl).stk (S' := [(.long (1 : Int64)), (.long (4 : Int64)), (.long (3 : Int64))]) rfl).lsub (pc' := 19) d17_18 rfl
  replace R := (((((R.stk (S' := [(.long (3 : Int64)), (.long (3 : Int64))]) rfl).lcmp (pc' := 20) d17_19 rfl).stk (S' := [(.int (0 : Int32))]) rfl).ifN (pc' := 23) d17_20 (flt (by decide : ¬ ((0 : Int32) < (0 : Int32)))).2.2.1 rfl).iloadN (pc' := 24) d17_23 rfl rfl).i2l (pc' := 25) d17_24 rfl
  replace R := (R.stk (S' := [(.long (0 : Int64))]) rfl).aloadN (pc' := 26) (v := (.ref b)) d17_25 rfl rfl rfl
  replace R := own_pure (R.callV (pc' := 29) (y := (⟨"java/lang/String", "length", "()I"⟩ : MethodName)) (z := (⟨"java/lang/String", "length", "()I"⟩ : MethodName)) (argsL := []) (rest := [(.long (0 : Int64))]) (W := 2) (w55 hw) (w56 hw) (fun s' hZ' => notFace_of_selects (args := #[]) (mvT hZ' (w58 hw))) (w58 hw) (w57 hw) (w7 hw) (w59 hw) (by decide) e1_b (rm_length C.l Z a0 hw b h n0 Ds own_cs S_1) rfl (lenOf pd6 rfl) rfl rfl d17_26 (by decide) (by decide) (by decide) (by decide) rfl)
  replace R := (((((R.i2l (pc' := 30) d17_29 rfl).stk (S' := [(.long (1 : Int64)), (.long (0 : Int64))]) rfl).iload (pc' := 32) d17_30 rfl rfl).i2l (pc' := 33) d17_32 rfl).stk (S' := [(.long (1 : Int64)), (.long (1 : Int64)), (.long (0 : Int64))]) rfl).lsub (pc' := 34) d17_33 rfl
  replace R := (((((R.stk (S' := [(.long (0 : Int64)), (.long (0 : Int64))]) rfl).lcmp (pc' := 35) d17_34 rfl).stk (S' := [(.int (0 : Int32))]) rfl).ifY (pc' := 40) d17_35 (flt (by decide : ¬ ((0 : Int32) < (0 : Int32)))).2.2.2 (by decide) rfl).iload (pc' := 42) d17_40 rfl rfl).ifY (pc' := 47) d17_42 (tlt (by decide : (0 : Int32) < (1 : Int32))).2.2.1 (by decide) rfl
  replace R := (((((R.aloadN (pc' := 48) (v := (.ref a)) d17_47 rfl rfl rfl).getF (pc' := 51) (host := "") (Or.inl (w32 hw)) Via.refl e5 d17_48 rfl).astore (pc' := 53) (l' := #[.val (.ref a), .val (.int (3 : Int32)), .val (.ref b), .val (.int (0 : Int32)), .val (.int (1 : Int32)), .val (.ref t), .unset, .unset]) d17_51 rfl rfl rfl).aloadN (pc' := 54) (v := (.ref b)) d17_53 rfl rfl rfl).getF (pc' := 57) (host := "") (Or.inl (w32 hw)) Via.refl e5_b d17_54 rfl).astore (pc' := 59) (l' := #[.val (.ref a), .val (.int (3 : Int32)), .val (.ref b), .val (.int (0 : Int32)), .val (.int (1 : Int32)), .val (.ref t), .val (.ref t_b), .unset]) d17_57 rfl rfl rfl
  replace R := R.aloadN (pc' := 60) (v := (.ref a)) d17_59 rfl rfl rfl
  replace R := own_pure (R.callV (pc' := 63) (y := (⟨"java/lang/String", "coder", "()B"⟩ : MethodName)) (z := (⟨"java/lang/String", "coder", "()B"⟩ : MethodName)) (argsL := []) (rest := []) (W := 0) (w60 hw) (w61 hw) (fun s' hZ' => notFace_of_selects (args := #[]) (mvT hZ' (w63 hw))) (w63 hw) (w62 hw) (w7 hw) (w64 hw) (by decide) e1 (rm_coder C.l Z a0 hw a h n0 Ds own_cs e2) rfl (lenOf pd0 rfl) rfl rfl d17_60 (by decide) (by decide) (by decide) (by decide) rfl)
  replace R := ((R.istore (pc' := 65) (l' := #[.val (.ref a), .val (.int (3 : Int32)), .val (.ref b), .val (.int (0 : Int32)), .val (.int (1 : Int32)), .val (.ref t), .val (.ref t_b), .val (.int (0 : Int32))]) d17_63 rfl rfl).iload (pc' := 67) d17_65 rfl rfl).aloadN (pc' := 68) (v := (.ref b)) d17_67 rfl rfl rfl
  replace R := own_pure (R.callV (pc' := 71) (y := (⟨"java/lang/String", "coder", "()B"⟩ : MethodName)) (z := (⟨"java/lang/String", "coder", "()B"⟩ : MethodName)) (argsL := []) (rest := [(.int (0 : Int32))]) (W := 1) (w60 hw) (w61 hw) (fun s' hZ' => notFace_of_selects (args := #[]) (mvT hZ' (w63 hw))) (w63 hw) (w62 hw) (w7 hw) (w64 hw) (by decide) e1_b (rm_coder C.l Z a0 hw b h n0 Ds own_cs e2_b) rfl (lenOf pd0 rfl) rfl rfl d17_68 (by decide) (by decide) (by decide) (by decide) rfl)
  replace R := (((((R.icmpN (pc' := 74) d17_71 (teq (by decide : (0 : Int32) = (0 : Int32))).2 rfl).iload (pc' := 76) d17_74 rfl rfl).iconst (pc' := 77) (z := (1 : Int32)) d17_76 rfl rfl).icmpY (pc' := 94) d17_77 (feq (by decide : ¬ ((0 : Int32) = (1 : Int32)))).2 (by decide) rfl).aload (pc' := 96) (v := (.ref t)) d17_94 rfl rfl rfl).iloadN (pc' := 97) d17_96 rfl rfl
  replace R := ((R.aload (pc' := 99) (v := (.ref t_b)) d17_97 rfl rfl rfl).iloadN (pc' := 100) d17_99 rfl rfl).iload (pc' := 102) d17_100 rfl rfl
  replace R := own_pure (R.callS (pc' := 105) (argsL := [(.ref t), (.int (3 : Int32)), (.ref t_b), (.int (0 : Int32)), (.int (1 : Int32))]) (rest := []) (W := 0) (w135 hw) (w136 hw) (w137 hw) (w138 hw) (by decide) (rm_mme3_4 C.l Z a0 hw h n0 Ds hok hoy e7 e7_b) rfl (lenOf pd12 rfl) rfl rfl d17_102 (by decide) (by decide) (by decide) (by decide) rfl)
  replace R := ((R.ifN (pc' := 108) d17_105 (tlt (by decide : (-1 : Int32) < (0 : Int32))).2.1 rfl).iconst (pc' := 109) (z := (1 : Int32)) d17_108 rfl rfl).goto (pc' := 113) d17_109 (by decide) rfl
  exact R.retN (Ds' := Ds) hret (by simp) (show nar .boolean (1 : Int32) = (1 : Int32) from rfl) d17_113 (by decide) (by decide) (fun _ q => q) ⟨rfl, rfl, rfl⟩
theorem rm_mmn3_4 (l : Launch) (Z : State) (a0 : Array Value) (hw : HW a0 Z) (h : Heap) (n0 : Nat) (Ds : List Addr) {x0 x1 x2 x3 : Int32} {y0 : Int32} (hok : ∀ c ∈ ([x0, x1, x2, x3] : List Int32), ¬ c < 0 ∧ ¬ (255 : Int32) < c) (hoy : ∀ c ∈ ([y0] : List Int32), ¬ c < 0 ∧ ¬ (255 : Int32) < c) {t : Addr} {kt : ClassId} (V_t : Arv Z h t kt .byte (4 : Int32) [(.int x0.toInt8.toInt32), (.int x1.toInt8.toInt32), (.int x2.toInt8.toInt32), (.int x3.toInt8.toInt32)] (.int 0)) {u : Addr} {ku : ClassId} (V_u : Arv Z h u ku .byte (1 : Int32) [(.int y0.toInt8.toInt32)] (.int 0)) (hne : ¬ ([x3] : List Int32) = [y0]) :
    Ctr l Z (⟨"jdk/internal/util/ArraysSupport", "mismatch", "([BI[BII)I"⟩ : MethodName) jdk_48_method_14_code 8 (some .int) [] (rmo 0 0 0 0) #[.ref t, .int (3 : Int32), .ref u, .int (0 : Int32), .int (1 : Int32)] h n0 Ds (fun v h' Ds' => ∃ z : Int32, v = some (.int z) ∧ ¬ z < 0 ∧ h = h' ∧ Ds = Ds') := by
  refine ctr_of (Ls := #[.val (.ref t), .val (.int (3 : Int32)), .val (.ref u), .val (.int (0 : Int32)), .val (.int (1 : Int32)), .unset, .unset, .unset]) (plainFor_of_name pn4) (fun m => by first | (simp [entryFrame, mkF, argsToLocals, Value.category]; done) | rfl) ?_
  intro C hl hret hnm R
  subst hl
  replace R := (((((R.iconst (pc' := 1) (z := (0 : Int32)) d29_0 rfl rfl).istore (pc' := 3) (l' := #[.val (.ref t), .val (.int (3 : Int32)), .val (.ref u), .val (.int (0 : Int32)), .val (.int (1 : Int32)), .val (.int (0 : Int32)), .unset, .unset]) d29_1 rfl rfl).iload (pc' := 5) d29_3 rfl rfl).bipush (pc' := 7) (z := (7 : Int32)) d29_5 rfl rfl).icmpY (pc' := 70) d29_7 (flt (by decide : ¬ ((7 : Int32) < (1 : Int32)))).2.2.2 (by decide) rfl).iload (pc' := 72) d29_70 rfl rfl
  replace R := (((((R.iload (pc' := 74) d29_72 rfl rfl).icmpN (pc' := 77) d29_74 (tlt (by decide : (0 : Int32) < (1 : Int32))).2.1 rfl).aloadN (pc' := 78) (v := (.ref t)) d29_77 rfl rfl rfl).iloadN (pc' := 79) d29_78 rfl rfl).iload (pc' := 81) d29_79 rfl rfl).iadd (pc' := 82) d29_81 rfl
  replace R := (((((R.stk (S' := [(.int (3 : Int32)), (.ref t)]) rfl).baload (pc' := 83) (v := (.int x3.toInt8.toInt32)) V_t ⟨by decide, by decide⟩ rfl d29_82 rfl).aloadN (pc' := 84) (v := (.ref u)) d29_83 rfl rfl rfl).iloadN (pc' := 85) d29_84 rfl rfl).iload (pc' := 87) d29_85 rfl rfl).iadd (pc' := 88) d29_87 rfl
  replace R := (R.stk (S' := [(.int (0 : Int32)), (.ref u), (.int x3.toInt8.toInt32)]) rfl).baload (pc' := 89) (v := (.int y0.toInt8.toInt32)) V_u ⟨by decide, by decide⟩ rfl d29_88 rfl
  by_cases hc1 : x3.toInt8.toInt32 = y0.toInt8.toInt32
  · replace R := R.icmpY (pc' := 95) d29_89 (teq hc1).1 (by decide) rfl
    replace R := (((((R.iinc (pc' := 98) (l' := #[.val (.ref t), .val (.int (3 : Int32)), .val (.ref u), .val (.int (0 : Int32)), .val (.int (1 : Int32)), .val (.int (1 : Int32)), .unset, .unset]) d29_95 rfl rfl rfl).goto (pc' := 70) d29_98 (by decide) rfl).iload (pc' := 72) d29_70 rfl rfl).iload (pc' := 74) d29_72 rfl rfl).icmpY (pc' := 101) d29_74 (flt (by decide : ¬ ((1 : Int32) < (1 : Int32)))).2.1 (by decide) rfl).iconst (pc' := 102) (z := (-1 : Int32)) d29_101 rfl rfl
    exact absurd (show ([x3] : List Int32) = [y0] by rw [sbyte (hok x3 (List.mem_of_getElem? (i := 3) rfl)) (hoy y0 (List.mem_of_getElem? (i := 0) rfl)) hc1]) hne
  · replace R := R.icmpN (pc' := 92) d29_89 (feq hc1).1 rfl
    replace R := R.iload (pc' := 94) d29_92 rfl rfl
    exact R.retI (Ds' := Ds) hret d29_94 (by decide) (by decide) (fun _ q => q) ⟨_, rfl, by decide, rfl, rfl⟩
theorem rm_rmn3_4 (l : Launch) (Z : State) (a0 : Array Value) (hw : HW a0 Z) (a b : Addr) (h : Heap) (n0 : Nat) (Ds : List Addr) (own_cs : CompactOn Z) {x0 x1 x2 x3 : Int32} {y0 : Int32} (S_a : IsStr Z h a [x0, x1, x2, x3]) (S_b : IsStr Z h b [y0]) (hne : ¬ ([x3] : List Int32) = [y0]) :
    Ctr l Z (⟨"java/lang/String", "regionMatches", "(ILjava/lang/String;II)Z"⟩ : MethodName) jdk_42_method_73_code 8 (some .boolean) [] (rmo 2 0 0 27) #[.ref a, .int (3 : Int32), .ref b, .int (0 : Int32), .int (1 : Int32)] h n0 Ds (fun v h' Ds' => v = some (.int (0 : Int32)) ∧ h = h' ∧ Ds = Ds') := by
  refine ctr_of (Ls := #[.val (.ref a), .val (.int (3 : Int32)), .val (.ref b), .val (.int (0 : Int32)), .val (.int (1 : Int32)), .unset, .unset, .unset]) (plainFor_of_name pn0) (fun m => by first | (simp [entryFrame, mkF, argsToLocals, Value.category]; done) | rfl) ?_
  intro C hl hret hnm R
  subst hl
  have S_0 := S_a
  have S_1 := S_b
  obtain ⟨e1, e2, e3, e4, t, kt, e5, e6⟩ := S_a
  have e7 : Arv Z h t kt .byte (4 : Int32) [(.int x0.toInt8.toInt32), (.int x1.toInt8.toInt32), (.int x2.toInt8.toInt32), (.int x3.toInt8.toInt32)] (.int 0) := e6
  have hok := e3
  obtain ⟨e1_b, e2_b, e3_b, e4_b, t_b, kt_b, e5_b, e6_b⟩ := S_b
  have e7_b : Arv Z h t_b kt_b .byte (1 : Int32) [(.int y0.toInt8.toInt32)] (.int 0) := e6_b
  have hoy := e3_b
  replace R := (((((R.iloadN (pc' := 1) d17_0 rfl rfl).ifN (pc' := 4) d17_1 (flt (by decide : ¬ ((0 : Int32) < (0 : Int32)))).1 rfl).iloadN (pc' := 5) d17_4 rfl rfl).ifN (pc' := 8) d17_5 (flt (by decide : ¬ ((3 : Int32) < (0 : Int32)))).1 rfl).iloadN (pc' := 9) d17_8 rfl rfl).i2l (pc' := 10) d17_9 rfl
  replace R := (R.stk (S' := [(.long (3 : Int64))]) rfl).aloadN (pc' := 11) (v := (.ref a)) d17_10 rfl rfl rfl
  replace R := own_pure (R.callV (pc' := 14) (y := (⟨"java/lang/String", "length", "()I"⟩ : MethodName)) (z := (⟨"java/lang/String", "length", "()I"⟩ : MethodName)) (argsL := []) (rest := [(.long (3 : Int64))]) (W := 2) (w55 hw) (w56 hw) (fun s' hZ' => notFace_of_selects (args := #[]) (mvT hZ' (w58 hw))) (w58 hw) (w57 hw) (w7 hw) (w59 hw) (by decide) e1 (rm_length C.l Z a0 hw a h n0 Ds own_cs S_0) rfl (lenOf pd6 rfl) rfl rfl d17_11 (by decide) (by decide) (by decide) (by decide) rfl)
  replace R := (((((R.i2l (pc' := 15) d17_14 rfl).stk (S' := [(.long (4 : Int64)), (.long (3 : Int64))]) rfl).iload (pc' := 17) d17_15 rfl rfl).i2l (pc' := 18) d17_17 rfl).stk (S' := [(.long (1 : Int64)), (.long (4 : Int64)), (.long (3 : Int64))]) rfl).lsub (pc' := 19) d17_18 rfl
  replace R := (((((R.stk (S' := [(.long (3 : Int64)), (.long (3 : Int64))]) rfl).lcmp (pc' := 20) d17_19 rfl).stk (S' := [(.int (0 : Int32))]) rfl).ifN (pc' := 23) d17_20 (flt (by decide : ¬ ((0 : Int32) < (0 : Int32)))).2.2.1 rfl).iloadN (pc' := 24) d17_23 rfl rfl).i2l (pc' := 25) d17_24 rfl
  replace R := (R.stk (S' := [(.long (0 : Int64))]) rfl).aloadN (pc' := 26) (v := (.ref b)) d17_25 rfl rfl rfl
  replace R := own_pure (R.callV (pc' := 29) (y := (⟨"java/lang/String", "length", "()I"⟩ : MethodName)) (z := (⟨"java/lang/String", "length", "()I"⟩ : MethodName)) (argsL := []) (rest := [(.long (0 : Int64))]) (W := 2) (w55 hw) (w56 hw) (fun s' hZ' => notFace_of_selects (args := #[]) (mvT hZ' (w58 hw))) (w58 hw) (w57 hw) (w7 hw) (w59 hw) (by decide) e1_b (rm_length C.l Z a0 hw b h n0 Ds own_cs S_1) rfl (lenOf pd6 rfl) rfl rfl d17_26 (by decide) (by decide) (by decide) (by decide) rfl)
  replace R := (((((R.i2l (pc' := 30) d17_29 rfl).stk (S' := [(.long (1 : Int64)), (.long (0 : Int64))]) rfl).iload (pc' := 32) d17_30 rfl rfl).i2l (pc' := 33) d17_32 rfl).stk (S' := [(.long (1 : Int64)), (.long (1 : Int64)), (.long (0 : Int64))]) rfl).lsub (pc' := 34) d17_33 rfl
  replace R := (((((R.stk (S' := [(.long (0 : Int64)), (.long (0 : Int64))]) rfl).lcmp (pc' := 35) d17_34 rfl).stk (S' := [(.int (0 : Int32))]) rfl).ifY (pc' := 40) d17_35 (flt (by decide : ¬ ((0 : Int32) < (0 : Int32)))).2.2.2 (by decide) rfl).iload (pc' := 42) d17_40 rfl rfl).ifY (pc' := 47) d17_42 (tlt (by decide : (0 : Int32) < (1 : Int32))).2.2.1 (by decide) rfl
  replace R := (((((R.aloadN (pc' := 48) (v := (.ref a)) d17_47 rfl rfl rfl).getF (pc' := 51) (host := "") (Or.inl (w32 hw)) Via.refl e5 d17_48 rfl).astore (pc' := 53) (l' := #[.val (.ref a), .val (.int (3 : Int32)), .val (.ref b), .val (.int (0 : Int32)), .val (.int (1 : Int32)), .val (.ref t), .unset, .unset]) d17_51 rfl rfl rfl).aloadN (pc' := 54) (v := (.ref b)) d17_53 rfl rfl rfl).getF (pc' := 57) (host := "") (Or.inl (w32 hw)) Via.refl e5_b d17_54 rfl).astore (pc' := 59) (l' := #[.val (.ref a), .val (.int (3 : Int32)), .val (.ref b), .val (.int (0 : Int32)), .val (.int (1 : Int32)), .val (.ref t), .val (.ref t_b), .unset]) d17_57 rfl rfl rfl
  replace R := R.aloadN (pc' := 60) (v := (.ref a)) d17_59 rfl rfl rfl
  replace R := own_pure (R.callV (pc' := 63) (y := (⟨"java/lang/String", "coder", "()B"⟩ : MethodName)) (z := (⟨"java/lang/String", "coder", "()B"⟩ : MethodName)) (argsL := []) (rest := []) (W := 0) (w60 hw) (w61 hw) (fun s' hZ' => notFace_of_selects (args := #[]) (mvT hZ' (w63 hw))) (w63 hw) (w62 hw) (w7 hw) (w64 hw) (by decide) e1 (rm_coder C.l Z a0 hw a h n0 Ds own_cs e2) rfl (lenOf pd0 rfl) rfl rfl d17_60 (by decide) (by decide) (by decide) (by decide) rfl)
  replace R := ((R.istore (pc' := 65) (l' := #[.val (.ref a), .val (.int (3 : Int32)), .val (.ref b), .val (.int (0 : Int32)), .val (.int (1 : Int32)), .val (.ref t), .val (.ref t_b), .val (.int (0 : Int32))]) d17_63 rfl rfl).iload (pc' := 67) d17_65 rfl rfl).aloadN (pc' := 68) (v := (.ref b)) d17_67 rfl rfl rfl
  replace R := own_pure (R.callV (pc' := 71) (y := (⟨"java/lang/String", "coder", "()B"⟩ : MethodName)) (z := (⟨"java/lang/String", "coder", "()B"⟩ : MethodName)) (argsL := []) (rest := [(.int (0 : Int32))]) (W := 1) (w60 hw) (w61 hw) (fun s' hZ' => notFace_of_selects (args := #[]) (mvT hZ' (w63 hw))) (w63 hw) (w62 hw) (w7 hw) (w64 hw) (by decide) e1_b (rm_coder C.l Z a0 hw b h n0 Ds own_cs e2_b) rfl (lenOf pd0 rfl) rfl rfl d17_68 (by decide) (by decide) (by decide) (by decide) rfl)
  replace R := (((((R.icmpN (pc' := 74) d17_71 (teq (by decide : (0 : Int32) = (0 : Int32))).2 rfl).iload (pc' := 76) d17_74 rfl rfl).iconst (pc' := 77) (z := (1 : Int32)) d17_76 rfl rfl).icmpY (pc' := 94) d17_77 (feq (by decide : ¬ ((0 : Int32) = (1 : Int32)))).2 (by decide) rfl).aload (pc' := 96) (v := (.ref t)) d17_94 rfl rfl rfl).iloadN (pc' := 97) d17_96 rfl rfl
  replace R := ((R.aload (pc' := 99) (v := (.ref t_b)) d17_97 rfl rfl rfl).iloadN (pc' := 100) d17_99 rfl rfl).iload (pc' := 102) d17_100 rfl rfl
  obtain ⟨_, _, _, ⟨zz, rfl, hzz, rfl, rfl⟩, R⟩ := R.callS (pc' := 105) (argsL := [(.ref t), (.int (3 : Int32)), (.ref t_b), (.int (0 : Int32)), (.int (1 : Int32))]) (rest := []) (W := 0) (w135 hw) (w136 hw) (w137 hw) (w138 hw) (by decide) (rm_mmn3_4 C.l Z a0 hw h n0 Ds hok hoy e7 e7_b hne) rfl (lenOf pd12 rfl) rfl rfl d17_102 (by decide) (by decide) (by decide) (by decide) rfl
  replace R := (((R.mono (ce' := 0) (sl' := 0) (by decide) (by decide)).stk (S' := [(.int zz)]) rfl).ifY (pc' := 112) d17_105 (flt hzz).2.1 (by decide) rfl).iconst (pc' := 113) (z := (0 : Int32)) d17_112 rfl rfl
  exact R.retN (Ds' := Ds) hret (by simp) (show nar .boolean (0 : Int32) = (0 : Int32) from rfl) d17_113 (by decide) (by decide) (fun _ q => q) ⟨rfl, rfl, rfl⟩
theorem rm_rme4_4 (l : Launch) (Z : State) (a0 : Array Value) (hw : HW a0 Z) (a b : Addr) (h : Heap) (n0 : Nat) (Ds : List Addr) (own_cs : CompactOn Z) {x0 x1 x2 x3 : Int32} (S_a : IsStr Z h a [x0, x1, x2, x3]) (S_b : IsStr Z h b []) :
    Ctr l Z (⟨"java/lang/String", "regionMatches", "(ILjava/lang/String;II)Z"⟩ : MethodName) jdk_42_method_73_code 8 (some .boolean) [] (rmo 2 0 0 27) #[.ref a, .int (4 : Int32), .ref b, .int (0 : Int32), .int (0 : Int32)] h n0 Ds (fun v h' Ds' => v = some (.int (1 : Int32)) ∧ h = h' ∧ Ds = Ds') := by
  refine ctr_of (Ls := #[.val (.ref a), .val (.int (4 : Int32)), .val (.ref b), .val (.int (0 : Int32)), .val (.int (0 : Int32)), .unset, .unset, .unset]) (plainFor_of_name pn0) (fun m => by first | (simp [entryFrame, mkF, argsToLocals, Value.category]; done) | rfl) ?_
  intro C hl hret hnm R
  subst hl
  have S_0 := S_a
  have S_1 := S_b
  obtain ⟨e1, e2, e3, e4, t, kt, e5, e6⟩ := S_a
  have e7 : Arv Z h t kt .byte (4 : Int32) [(.int x0.toInt8.toInt32), (.int x1.toInt8.toInt32), (.int x2.toInt8.toInt32), (.int x3.toInt8.toInt32)] (.int 0) := e6
  have hok := e3
  obtain ⟨e1_b, e2_b, e3_b, e4_b, t_b, kt_b, e5_b, e6_b⟩ := S_b
  have e7_b : Arv Z h t_b kt_b .byte (0 : Int32) [] (.int 0) := e6_b
  have hoy := e3_b
  replace R := (((((R.iloadN (pc' := 1) d17_0 rfl rfl).ifN (pc' := 4) d17_1 (flt (by decide : ¬ ((0 : Int32) < (0 : Int32)))).1 rfl).iloadN (pc' := 5) d17_4 rfl rfl).ifN (pc' := 8) d17_5 (flt (by decide : ¬ ((4 : Int32) < (0 : Int32)))).1 rfl).iloadN (pc' := 9) d17_8 rfl rfl).i2l (pc' := 10) d17_9 rfl
  replace R := (R.stk (S' := [(.long (4 : Int64))]) rfl).aloadN (pc' := 11) (v := (.ref a)) d17_10 rfl rfl rfl
  replace R := own_pure (R.callV (pc' := 14) (y := (⟨"java/lang/String", "length", "()I"⟩ : MethodName)) (z := (⟨"java/lang/String", "length", "()I"⟩ : MethodName)) (argsL := []) (rest := [(.long (4 : Int64))]) (W := 2) (w55 hw) (w56 hw) (fun s' hZ' => notFace_of_selects (args := #[]) (mvT hZ' (w58 hw))) (w58 hw) (w57 hw) (w7 hw) (w59 hw) (by decide) e1 (rm_length C.l Z a0 hw a h n0 Ds own_cs S_0) rfl (lenOf pd6 rfl) rfl rfl d17_11 (by decide) (by decide) (by decide) (by decide) rfl)
  replace R := (((((R.i2l (pc' := 15) d17_14 rfl).stk (S' := [(.long (4 : Int64)), (.long (4 : Int64))]) rfl).iload (pc' := 17) d17_15 rfl rfl).i2l (pc' := 18) d17_17 rfl).stk (S' := [(.long (0 : Int64)), (.long (4 : Int64)), (.long (4 : Int64))]) rfl).lsub (pc' := 19) d17_18 rfl
  replace R := (((((R.stk (S' := [(.long (4 : Int64)), (.long (4 : Int64))]) rfl).lcmp (pc' := 20) d17_19 rfl).stk (S' := [(.int (0 : Int32))]) rfl).ifN (pc' := 23) d17_20 (flt (by decide : ¬ ((0 : Int32) < (0 : Int32)))).2.2.1 rfl).iloadN (pc' := 24) d17_23 rfl rfl).i2l (pc' := 25) d17_24 rfl
  replace R := (R.stk (S' := [(.long (0 : Int64))]) rfl).aloadN (pc' := 26) (v := (.ref b)) d17_25 rfl rfl rfl
  replace R := own_pure (R.callV (pc' := 29) (y := (⟨"java/lang/String", "length", "()I"⟩ : MethodName)) (z := (⟨"java/lang/String", "length", "()I"⟩ : MethodName)) (argsL := []) (rest := [(.long (0 : Int64))]) (W := 2) (w55 hw) (w56 hw) (fun s' hZ' => notFace_of_selects (args := #[]) (mvT hZ' (w58 hw))) (w58 hw) (w57 hw) (w7 hw) (w59 hw) (by decide) e1_b (rm_length C.l Z a0 hw b h n0 Ds own_cs S_1) rfl (lenOf pd6 rfl) rfl rfl d17_26 (by decide) (by decide) (by decide) (by decide) rfl)
  replace R := (((((R.i2l (pc' := 30) d17_29 rfl).stk (S' := [(.long (0 : Int64)), (.long (0 : Int64))]) rfl).iload (pc' := 32) d17_30 rfl rfl).i2l (pc' := 33) d17_32 rfl).stk (S' := [(.long (0 : Int64)), (.long (0 : Int64)), (.long (0 : Int64))]) rfl).lsub (pc' := 34) d17_33 rfl
  replace R := (((((R.stk (S' := [(.long (0 : Int64)), (.long (0 : Int64))]) rfl).lcmp (pc' := 35) d17_34 rfl).stk (S' := [(.int (0 : Int32))]) rfl).ifY (pc' := 40) d17_35 (flt (by decide : ¬ ((0 : Int32) < (0 : Int32)))).2.2.2 (by decide) rfl).iload (pc' := 42) d17_40 rfl rfl).ifN (pc' := 45) d17_42 (flt (by decide : ¬ ((0 : Int32) < (0 : Int32)))).2.2.1 rfl
  replace R := R.iconst (pc' := 46) (z := (1 : Int32)) d17_45 rfl rfl
  exact R.retN (Ds' := Ds) hret (by simp) (show nar .boolean (1 : Int32) = (1 : Int32) from rfl) d17_46 (by decide) (by decide) (fun _ q => q) ⟨rfl, rfl, rfl⟩
theorem rm_fi (l : Launch) (Z : State) (a0 : Array Value) (hw : HW a0 Z) (a : Addr) (h : Heap) (n0 : Nat) (Ds : List Addr) (ha : a ∈ Ds) (E_a : Exa Z h a "provento/files/FieldTexts") (F_k : Fld Z h a "provento/files/FieldTexts" "kept" "[Ljava/lang/String;" .null) :
    Ctr l Z (⟨"provento/files/FieldTexts", "<init>", "()V"⟩ : MethodName) prog_36_method_1_code 1 none [] (rmo 1 1 16384 12) #[.ref a] h n0 Ds (fun v h' Ds' => ∃ (q : Addr) (kq : ClassId), v = none ∧ Keep h h' [a] ∧ a ≠ q ∧ Exa Z h' a "provento/files/FieldTexts" ∧ Fld Z h' a "provento/files/FieldTexts" "kept" "[Ljava/lang/String;" (.ref q) ∧ Arv Z h' q kq (.object "java/lang/String") (16384 : Int32) [] .null ∧ Ovr Z kq "java/lang/String" ∧ q :: Ds = Ds') := by
  refine ctr_of (Ls := #[.val (.ref a)]) (plainFor_of_name pn5) (fun m => by first | (simp [entryFrame, mkF, argsToLocals, Value.category]; done) | rfl) ?_
  intro C hl hret hnm R
  subst hl
  replace R := (((R.aloadN (pc' := 1) (v := (.ref a)) d8_0 rfl rfl rfl).initO (pc' := 4) (W := 0) (w40 hw) (w16 hw) (w17 hw) rfl d8_1 (by decide) rfl (by decide) rfl).aloadN (pc' := 5) (v := (.ref a)) d8_4 rfl rfl rfl).sipush (pc' := 8) (z := (16384 : Int32)) d8_5 rfl rfl
  obtain ⟨h1, b1, k1, g1, E1, V1, O1, R⟩ := R.newR (pc' := 11) (cap := 16384) (w41 hw) (w42 hw) d8_8 (by decide) (by decide) (by decide) (by decide) (by decide) rfl
  have K2 := ((Keep.refl h []).trans ((Keep.refl h []).ext E1) all0)
  have F3 := E_a.keep K2
  have nab : a ≠ b1 := Exa.neArv F3 V1 (w35 hw)
  have K4 := ((Keep.refl h []).trans ((Keep.refl h []).ext E1) all0)
  have F5 := F_k.keep K4 nin0
  obtain ⟨h6, W6, R⟩ := R.putF (pc' := 14) (ty := (.array (.object "java/lang/String"))) (host := "") (Or.inl (w43 hw)) Via.refl F5 F3 (Or.inr ⟨(w44 hw), rfl, hnm⟩) (w35 hw) (by decide) rfl rfl (List.mem_cons_of_mem _ ha) d8_11 rfl
  have F6 := F5.same W6
  have hK := (((Keep.refl h [a]).trans ((Keep.refl h []).ext E1) all0).trans (Keep.of_wr W6) (allS (Or.inl (List.mem_of_getElem? (i := 0) rfl)) all0))
  have K7 := ((Keep.refl h1 [a]).trans (Keep.of_wr W6) (allS (Or.inl (List.mem_of_getElem? (i := 0) rfl)) all0))
  have F8 := F3.keep K7
  have K9 := ((Keep.refl h1 [a]).trans (Keep.of_wr W6) (allS (Or.inl (List.mem_of_getElem? (i := 0) rfl)) all0))
  have F10 := V1.keep K9 (ninS (Ne.symm nab) nin0)
  exact R.retV (Ds' := b1 :: Ds) hret d8_14 (by decide) (by decide) (fun _ q => q) ⟨b1, _, rfl, hK, nab, F8, F6, F10, O1, rfl⟩
theorem rm_su (l : Launch) (Z : State) (a0 : Array Value) (hw : HW a0 Z) (a : Addr) (h : Heap) (n0 : Nat) (Ds : List Addr) (own_cs : CompactOn Z) (own_si : SiooOk Z) {x0 x1 x2 x3 : Int32} {s e : Nat} (hse : s ≤ e) (he : e ≤ 4) (S_a : IsStr Z h a [x0, x1, x2, x3]) :
    Ctr l Z (⟨"java/lang/String", "substring", "(II)Ljava/lang/String;"⟩ : MethodName) jdk_42_method_92_code 5 (some (.object "java/lang/String")) [] (rmo 4 2 7 126) #[.ref a, .int (Int32.ofNat s), .int (Int32.ofNat e)] h n0 Ds (fun v h' Ds' => ∃ r : Addr, v = some (.ref r) ∧ IsStr Z h' r (seg [x0, x1, x2, x3] s e) ∧ Keep h h' [] ∧ Ds = Ds') := by
  have hs5 : s = 0 ∨ s = 1 ∨ s = 2 ∨ s = 3 ∨ s = 4 := by omega
  have he5 : e = 0 ∨ e = 1 ∨ e = 2 ∨ e = 3 ∨ e = 4 := by omega
  rcases hs5 with rfl | rfl | rfl | rfl | rfl
  · rcases he5 with rfl | rfl | rfl | rfl | rfl
    · exact rm_su0_0 l Z a0 hw a h n0 Ds own_cs own_si S_a
    · exact rm_su0_1 l Z a0 hw a h n0 Ds own_cs own_si S_a
    · exact rm_su0_2 l Z a0 hw a h n0 Ds own_cs own_si S_a
    · exact rm_su0_3 l Z a0 hw a h n0 Ds own_cs own_si S_a
    · exact rm_su0_4 l Z a0 hw a h n0 Ds own_cs own_si S_a
  · rcases he5 with rfl | rfl | rfl | rfl | rfl
    · exact absurd hse (by decide)
    · exact rm_su1_1 l Z a0 hw a h n0 Ds own_cs own_si S_a
    · exact rm_su1_2 l Z a0 hw a h n0 Ds own_cs own_si S_a
    · exact rm_su1_3 l Z a0 hw a h n0 Ds own_cs own_si S_a
    · exact rm_su1_4 l Z a0 hw a h n0 Ds own_cs own_si S_a
  · rcases he5 with rfl | rfl | rfl | rfl | rfl
    · exact absurd hse (by decide)
    · exact absurd hse (by decide)
    · exact rm_su2_2 l Z a0 hw a h n0 Ds own_cs own_si S_a
    · exact rm_su2_3 l Z a0 hw a h n0 Ds own_cs own_si S_a
    · exact rm_su2_4 l Z a0 hw a h n0 Ds own_cs own_si S_a
  · rcases he5 with rfl | rfl | rfl | rfl | rfl
    · exact absurd hse (by decide)
    · exact absurd hse (by decide)
    · exact absurd hse (by decide)
    · exact rm_su3_3 l Z a0 hw a h n0 Ds own_cs own_si S_a
    · exact rm_su3_4 l Z a0 hw a h n0 Ds own_cs own_si S_a
  · rcases he5 with rfl | rfl | rfl | rfl | rfl
    · exact absurd hse (by decide)
    · exact absurd hse (by decide)
    · exact absurd hse (by decide)
    · exact absurd hse (by decide)
    · exact rm_su4_4 l Z a0 hw a h n0 Ds own_cs own_si S_a
theorem rm_rmU (l : Launch) (Z : State) (a0 : Array Value) (hw : HW a0 Z) (a b : Addr) (h : Heap) (n0 : Nat) (Ds : List Addr) (own_cs : CompactOn Z) {x0 x1 x2 x3 : Int32} {s e : Nat} (hse : s ≤ e) (he : e ≤ 4) {ds : List Int32} (hlen : ds.length = e - s) (S_a : IsStr Z h a [x0, x1, x2, x3]) (S_b : IsStr Z h b ds) :
    Ctr l Z (⟨"java/lang/String", "regionMatches", "(ILjava/lang/String;II)Z"⟩ : MethodName) jdk_42_method_73_code 8 (some .boolean) [] (rmo 2 0 0 27) #[.ref a, .int (Int32.ofNat s), .ref b, .int (0 : Int32), .int (Int32.ofNat (e - s))] h n0 Ds (fun v h' Ds' => v = some (.int (bi (decide ((seg [x0, x1, x2, x3] s e) = ds)))) ∧ h = h' ∧ Ds = Ds') := by
  have hs5 : s = 0 ∨ s = 1 ∨ s = 2 ∨ s = 3 ∨ s = 4 := by omega
  have he5 : e = 0 ∨ e = 1 ∨ e = 2 ∨ e = 3 ∨ e = 4 := by omega
  rcases hs5 with rfl | rfl | rfl | rfl | rfl
  · rcases he5 with rfl | rfl | rfl | rfl | rfl
    · cases own_len0 S_b.2.2.2.1 (congrArg Int32.ofNat hlen); rw [decide_eq_true (show seg [x0, x1, x2, x3] 0 0 = [] from rfl)]; exact rm_rme0_0 l Z a0 hw a b h n0 Ds own_cs S_a S_b
    · obtain ⟨y0, rfl⟩ := own_len1 S_b.2.2.2.1 (congrArg Int32.ofNat hlen)
      by_cases hne : ([x0] : List Int32) = [y0]
      · rw [decide_eq_true (show seg [x0, x1, x2, x3] 0 1 = _ from hne)]; exact rm_rme0_1 l Z a0 hw a b h n0 Ds own_cs S_a (hne ▸ S_b)
      · rw [decide_eq_false (show ¬ seg [x0, x1, x2, x3] 0 1 = _ from hne)]; exact rm_rmn0_1 l Z a0 hw a b h n0 Ds own_cs S_a S_b hne
    · obtain ⟨y0, y1, rfl⟩ := own_len2 S_b.2.2.2.1 (congrArg Int32.ofNat hlen)
      by_cases hne : ([x0, x1] : List Int32) = [y0, y1]
      · rw [decide_eq_true (show seg [x0, x1, x2, x3] 0 2 = _ from hne)]; exact rm_rme0_2 l Z a0 hw a b h n0 Ds own_cs S_a (hne ▸ S_b)
      · rw [decide_eq_false (show ¬ seg [x0, x1, x2, x3] 0 2 = _ from hne)]; exact rm_rmn0_2 l Z a0 hw a b h n0 Ds own_cs S_a S_b hne
    · obtain ⟨y0, y1, y2, rfl⟩ := own_len3 S_b.2.2.2.1 (congrArg Int32.ofNat hlen)
      by_cases hne : ([x0, x1, x2] : List Int32) = [y0, y1, y2]
      · rw [decide_eq_true (show seg [x0, x1, x2, x3] 0 3 = _ from hne)]; exact rm_rme0_3 l Z a0 hw a b h n0 Ds own_cs S_a (hne ▸ S_b)
      · rw [decide_eq_false (show ¬ seg [x0, x1, x2, x3] 0 3 = _ from hne)]; exact rm_rmn0_3 l Z a0 hw a b h n0 Ds own_cs S_a S_b hne
    · obtain ⟨y0, y1, y2, y3, rfl⟩ := own_len4 S_b.2.2.2.1 (congrArg Int32.ofNat hlen)
      by_cases hne : ([x0, x1, x2, x3] : List Int32) = [y0, y1, y2, y3]
      · rw [decide_eq_true (show seg [x0, x1, x2, x3] 0 4 = _ from hne)]; exact rm_rme0_4 l Z a0 hw a b h n0 Ds own_cs S_a (hne ▸ S_b)
      · rw [decide_eq_false (show ¬ seg [x0, x1, x2, x3] 0 4 = _ from hne)]; exact rm_rmn0_4 l Z a0 hw a b h n0 Ds own_cs S_a S_b hne
  · rcases he5 with rfl | rfl | rfl | rfl | rfl
    · exact absurd hse (by decide)
    · cases own_len0 S_b.2.2.2.1 (congrArg Int32.ofNat hlen); rw [decide_eq_true (show seg [x0, x1, x2, x3] 1 1 = [] from rfl)]; exact rm_rme1_1 l Z a0 hw a b h n0 Ds own_cs S_a S_b
    · obtain ⟨y0, rfl⟩ := own_len1 S_b.2.2.2.1 (congrArg Int32.ofNat hlen)
      by_cases hne : ([x1] : List Int32) = [y0]
      · rw [decide_eq_true (show seg [x0, x1, x2, x3] 1 2 = _ from hne)]; exact rm_rme1_2 l Z a0 hw a b h n0 Ds own_cs S_a (hne ▸ S_b)
      · rw [decide_eq_false (show ¬ seg [x0, x1, x2, x3] 1 2 = _ from hne)]; exact rm_rmn1_2 l Z a0 hw a b h n0 Ds own_cs S_a S_b hne
    · obtain ⟨y0, y1, rfl⟩ := own_len2 S_b.2.2.2.1 (congrArg Int32.ofNat hlen)
      by_cases hne : ([x1, x2] : List Int32) = [y0, y1]
      · rw [decide_eq_true (show seg [x0, x1, x2, x3] 1 3 = _ from hne)]; exact rm_rme1_3 l Z a0 hw a b h n0 Ds own_cs S_a (hne ▸ S_b)
      · rw [decide_eq_false (show ¬ seg [x0, x1, x2, x3] 1 3 = _ from hne)]; exact rm_rmn1_3 l Z a0 hw a b h n0 Ds own_cs S_a S_b hne
    · obtain ⟨y0, y1, y2, rfl⟩ := own_len3 S_b.2.2.2.1 (congrArg Int32.ofNat hlen)
      by_cases hne : ([x1, x2, x3] : List Int32) = [y0, y1, y2]
      · rw [decide_eq_true (show seg [x0, x1, x2, x3] 1 4 = _ from hne)]; exact rm_rme1_4 l Z a0 hw a b h n0 Ds own_cs S_a (hne ▸ S_b)
      · rw [decide_eq_false (show ¬ seg [x0, x1, x2, x3] 1 4 = _ from hne)]; exact rm_rmn1_4 l Z a0 hw a b h n0 Ds own_cs S_a S_b hne
  · rcases he5 with rfl | rfl | rfl | rfl | rfl
    · exact absurd hse (by decide)
    · exact absurd hse (by decide)
    · cases own_len0 S_b.2.2.2.1 (congrArg Int32.ofNat hlen); rw [decide_eq_true (show seg [x0, x1, x2, x3] 2 2 = [] from rfl)]; exact rm_rme2_2 l Z a0 hw a b h n0 Ds own_cs S_a S_b
    · obtain ⟨y0, rfl⟩ := own_len1 S_b.2.2.2.1 (congrArg Int32.ofNat hlen)
      by_cases hne : ([x2] : List Int32) = [y0]
      · rw [decide_eq_true (show seg [x0, x1, x2, x3] 2 3 = _ from hne)]; exact rm_rme2_3 l Z a0 hw a b h n0 Ds own_cs S_a (hne ▸ S_b)
      · rw [decide_eq_false (show ¬ seg [x0, x1, x2, x3] 2 3 = _ from hne)]; exact rm_rmn2_3 l Z a0 hw a b h n0 Ds own_cs S_a S_b hne
    · obtain ⟨y0, y1, rfl⟩ := own_len2 S_b.2.2.2.1 (congrArg Int32.ofNat hlen)
      by_cases hne : ([x2, x3] : List Int32) = [y0, y1]
      · rw [decide_eq_true (show seg [x0, x1, x2, x3] 2 4 = _ from hne)]; exact rm_rme2_4 l Z a0 hw a b h n0 Ds own_cs S_a (hne ▸ S_b)
      · rw [decide_eq_false (show ¬ seg [x0, x1, x2, x3] 2 4 = _ from hne)]; exact rm_rmn2_4 l Z a0 hw a b h n0 Ds own_cs S_a S_b hne
  · rcases he5 with rfl | rfl | rfl | rfl | rfl
    · exact absurd hse (by decide)
    · exact absurd hse (by decide)
    · exact absurd hse (by decide)
    · cases own_len0 S_b.2.2.2.1 (congrArg Int32.ofNat hlen); rw [decide_eq_true (show seg [x0, x1, x2, x3] 3 3 = [] from rfl)]; exact rm_rme3_3 l Z a0 hw a b h n0 Ds own_cs S_a S_b
    · obtain ⟨y0, rfl⟩ := own_len1 S_b.2.2.2.1 (congrArg Int32.ofNat hlen)
      by_cases hne : ([x3] : List Int32) = [y0]
      · rw [decide_eq_true (show seg [x0, x1, x2, x3] 3 4 = _ from hne)]; exact rm_rme3_4 l Z a0 hw a b h n0 Ds own_cs S_a (hne ▸ S_b)
      · rw [decide_eq_false (show ¬ seg [x0, x1, x2, x3] 3 4 = _ from hne)]; exact rm_rmn3_4 l Z a0 hw a b h n0 Ds own_cs S_a S_b hne
  · rcases he5 with rfl | rfl | rfl | rfl | rfl
    · exact absurd hse (by decide)
    · exact absurd hse (by decide)
    · exact absurd hse (by decide)
    · exact absurd hse (by decide)
    · cases own_len0 S_b.2.2.2.1 (congrArg Int32.ofNat hlen); rw [decide_eq_true (show seg [x0, x1, x2, x3] 4 4 = [] from rfl)]; exact rm_rme4_4 l Z a0 hw a b h n0 Ds own_cs S_a S_b
theorem of_it {C : Cx} {Z : State} {a0 : Array Value} (hw : HW a0 Z) {n0 : Nat} {h : Heap} {Ds : List Addr} (own_cs : CompactOn Z) (own_si : SiooOk Z) {x0 x1 x2 x3 s0 : Int32} {a li : Addr} {e : Nat} (he : e ≤ 4) (S_l : IsStr Z h li [x0, x1, x2, x3]) {z : Int32} {k : Nat} (hk : k < e) (R : Rc C (rmo 5 2 7 142) "provento/files/FieldTexts" prog_36_method_2_code 8 Z n0 0 0 6 #[.val (.ref a), .val (.ref li), .val (.int s0), .val (.int (Int32.ofNat e)), .val (.int z), .val (.int (Int32.ofNat k)), .unset, .unset] [] h Ds) : Rc C (rmo 5 2 7 142) "provento/files/FieldTexts" prog_36_method_2_code 8 Z n0 0 0 6 #[.val (.ref a), .val (.ref li), .val (.int s0), .val (.int (Int32.ofNat e)), .val (.int (((31 : Int32) * z) + ([x0, x1, x2, x3].getD k 0))), .val (.int (Int32.ofNat (k + 1))), .unset, .unset] [] h Ds := by
  replace R := (((((R.iload (pc' := 8) d9_6 rfl rfl).iloadN (pc' := 9) d9_8 rfl rfl).icmpN (pc' := 12) d9_9 (tlt (own_lt (by omega) hk)).2.1 rfl).bipush (pc' := 14) (z := (31 : Int32)) d9_12 rfl rfl).iload (pc' := 16) d9_14 rfl rfl).imul (pc' := 17) d9_16 rfl
  replace R := (R.aloadN (pc' := 18) (v := (.ref li)) d9_17 rfl rfl rfl).iload (pc' := 20) d9_18 rfl rfl
  replace R := own_pure (R.callV (pc' := 23) (y := (⟨"java/lang/String", "charAt", "(I)C"⟩ : MethodName)) (z := (⟨"java/lang/String", "charAt", "(I)C"⟩ : MethodName)) (argsL := [(.int (Int32.ofNat k))]) (rest := [(.int ((31 : Int32) * z))]) (W := 1) (w98 hw) (w99 hw) (fun s' hZ' => notFace_of_selects (args := #[]) (mvT hZ' (w101 hw))) (w101 hw) (w100 hw) (w7 hw) (w102 hw) (by decide) S_l.1 (rm_charAt C.l Z a0 hw li (Int32.ofNat k) h n0 Ds own_cs own_si (k := k) rfl (show k < ([x0, x1, x2, x3] : List Int32).length from Nat.lt_of_lt_of_le hk he) S_l) rfl (lenOf pd15 rfl) rfl rfl d9_20 (by decide) (by decide) (by decide) (by decide) rfl)
  replace R := ((R.iadd (pc' := 24) d9_23 rfl).istore (pc' := 26) (l' := #[.val (.ref a), .val (.ref li), .val (.int s0), .val (.int (Int32.ofNat e)), .val (.int (((31 : Int32) * z) + ([x0, x1, x2, x3].getD k 0))), .val (.int (Int32.ofNat k)), .unset, .unset]) d9_24 rfl rfl).iinc (pc' := 29) (l' := #[.val (.ref a), .val (.ref li), .val (.int s0), .val (.int (Int32.ofNat e)), .val (.int (((31 : Int32) * z) + ([x0, x1, x2, x3].getD k 0))), .val (.int ((Int32.ofNat k) + (1 : Int32))), .unset, .unset]) d9_26 rfl rfl rfl
  replace R := R.loc (congrArg (fun zz => (#[.val (.ref a), .val (.ref li), .val (.int s0), .val (.int (Int32.ofNat e)), .val (.int (((31 : Int32) * z) + ([x0, x1, x2, x3].getD k 0))), .val (.int zz), .unset, .unset] : Array Slot)) (i32_succ k))
  replace R := R.goto (pc' := 6) d9_29 (by decide) rfl
  exact R
theorem of_end {C : Cx} {Z : State} {a0 : Array Value} (hw : HW a0 Z) {n0 : Nat} {h : Heap} {Ds : List Addr} (own_cs : CompactOn Z) (own_si : SiooOk Z) {x0 x1 x2 x3 s0 : Int32} {a li : Addr} {e : Nat} (he : e ≤ 4) (S_l : IsStr Z h li [x0, x1, x2, x3]) {z : Int32} (R : Rc C (rmo 5 2 7 142) "provento/files/FieldTexts" prog_36_method_2_code 8 Z n0 0 0 6 #[.val (.ref a), .val (.ref li), .val (.int s0), .val (.int (Int32.ofNat e)), .val (.int z), .val (.int (Int32.ofNat e)), .unset, .unset] [] h Ds) : Rc C (rmo 5 2 7 142) "provento/files/FieldTexts" prog_36_method_2_code 8 Z n0 0 0 32 #[.val (.ref a), .val (.ref li), .val (.int s0), .val (.int (Int32.ofNat e)), .val (.int z), .val (.int (Int32.ofNat e)), .unset, .unset] [] h Ds := by
  replace R := ((R.iload (pc' := 8) d9_6 rfl rfl).iloadN (pc' := 9) d9_8 rfl rfl).icmpY (pc' := 32) d9_9 (flt (own_nlt (by omega) (Nat.le_refl e))).2.1 (by decide) rfl
  exact R
theorem of_loop {C : Cx} {Z : State} {a0 : Array Value} (hw : HW a0 Z) {n0 : Nat} {h : Heap} {Ds : List Addr} (own_cs : CompactOn Z) (own_si : SiooOk Z) {x0 x1 x2 x3 s0 : Int32} {a li : Addr} {e : Nat} (he : e ≤ 4) (S_l : IsStr Z h li [x0, x1, x2, x3]) : ∀ (d k : Nat) (z : Int32) (_ : k ≤ e) (_ : d = e - k) (_ : Rc C (rmo 5 2 7 142) "provento/files/FieldTexts" prog_36_method_2_code 8 Z n0 0 0 6 #[.val (.ref a), .val (.ref li), .val (.int s0), .val (.int (Int32.ofNat e)), .val (.int z), .val (.int (Int32.ofNat k)), .unset, .unset] [] h Ds), Rc C (rmo 5 2 7 142) "provento/files/FieldTexts" prog_36_method_2_code 8 Z n0 0 0 32 #[.val (.ref a), .val (.ref li), .val (.int s0), .val (.int (Int32.ofNat e)), .val (.int (hf z (seg [x0, x1, x2, x3] k e))), .val (.int (Int32.ofNat e)), .unset, .unset] [] h Ds
  | 0, k, z, h1, h2, R => by
    obtain rfl : k = e := by omega
    have q : seg [x0, x1, x2, x3] k k = [] := by unfold seg; rw [Nat.sub_self]; rfl
    rw [q]; exact of_end hw own_cs own_si he S_l R
  | d + 1, k, z, h1, h2, R => by
    have q := of_loop hw own_cs own_si he S_l d (k + 1) _ (by omega) (by omega) (of_it hw own_cs own_si he S_l (show k < e by omega) R)
    rw [seg_cons (cs := [x0, x1, x2, x3]) (show k < e by omega) he]; exact q
theorem of_hash {C : Cx} {Z : State} {a0 : Array Value} (hw : HW a0 Z) {n0 : Nat} {h : Heap} {Ds : List Addr} (own_cs : CompactOn Z) (own_si : SiooOk Z) {x0 x1 x2 x3 s0 : Int32} {a li : Addr} {e : Nat} (he : e ≤ 4) (S_l : IsStr Z h li [x0, x1, x2, x3]) (d : Nat) {s : Nat} (hse : s ≤ e) (hd : d = e - s) (R : Rc C (rmo 5 2 7 142) "provento/files/FieldTexts" prog_36_method_2_code 8 Z n0 0 0 6 #[.val (.ref a), .val (.ref li), .val (.int s0), .val (.int (Int32.ofNat e)), .val (.int (0 : Int32)), .val (.int (Int32.ofNat s)), .unset, .unset] [] h Ds) : Rc C (rmo 5 2 7 142) "provento/files/FieldTexts" prog_36_method_2_code 8 Z n0 0 0 32 #[.val (.ref a), .val (.ref li), .val (.int s0), .val (.int (Int32.ofNat e)), .val (.int (hsh (seg [x0, x1, x2, x3] s e))), .val (.int (Int32.ofNat e)), .unset, .unset] [] h Ds := of_loop hw own_cs own_si he S_l d s 0 hse hd R
theorem rm_ofnull (l : Launch) (Z : State) (a0 : Array Value) (hw : HW a0 Z) (a li : Addr) (h : Heap) (n0 : Nat) (Ds : List Addr) (own_cs : CompactOn Z) (own_si : SiooOk Z) {x0 x1 x2 x3 : Int32} {s e : Nat} (hse : s ≤ e) (he : e ≤ 4) (E_a : Exa Z h a "provento/files/FieldTexts") {q : Addr} (F_k : Fld Z h a "provento/files/FieldTexts" "kept" "[Ljava/lang/String;" (.ref q)) (S_l : IsStr Z h li [x0, x1, x2, x3]) {kq : ClassId} {hs : List (Int32 × Value)} (H_q : Arh Z h q kq (.object "java/lang/String") (16384 : Int32) hs [] .null) (O_q : Ovr Z kq "java/lang/String") (hq : q ∈ Ds) (hu : getH hs [] .null (ix (seg [x0, x1, x2, x3] s e)).toNatClampNeg = .null) :
    Ctr l Z (⟨"provento/files/FieldTexts", "of", "(Ljava/lang/String;II)Ljava/lang/String;"⟩ : MethodName) prog_36_method_2_code 8 (some (.object "java/lang/String")) [] (rmo 5 2 7 142) #[.ref a, .ref li, .int (Int32.ofNat s), .int (Int32.ofNat e)] h n0 Ds (fun v h' Ds' => ∃ r : Addr, v = some (.ref r) ∧ IsStr Z h' r (seg [x0, x1, x2, x3] s e) ∧ Keep h h' [q] ∧ Arh Z h' q kq (.object "java/lang/String") (16384 : Int32) ((ix (seg [x0, x1, x2, x3] s e), .ref r) :: hs) [] .null ∧ Ds = Ds') := by
  refine ctr_of (Ls := #[.val (.ref a), .val (.ref li), .val (.int (Int32.ofNat s)), .val (.int (Int32.ofNat e)), .unset, .unset, .unset, .unset]) (plainFor_of_name pn5) (fun m => by first | (simp [entryFrame, mkF, argsToLocals, Value.category]; done) | rfl) ?_
  intro C hl hret hnm R
  subst hl
  replace R := (((R.iconst (pc' := 1) (z := (0 : Int32)) d9_0 rfl rfl).istore (pc' := 3) (l' := #[.val (.ref a), .val (.ref li), .val (.int (Int32.ofNat s)), .val (.int (Int32.ofNat e)), .val (.int (0 : Int32)), .unset, .unset, .unset]) d9_1 rfl rfl).iloadN (pc' := 4) d9_3 rfl rfl).istore (pc' := 6) (l' := #[.val (.ref a), .val (.ref li), .val (.int (Int32.ofNat s)), .val (.int (Int32.ofNat e)), .val (.int (0 : Int32)), .val (.int (Int32.ofNat s)), .unset, .unset]) d9_4 rfl rfl
  replace R := of_hash hw own_cs own_si he S_l (e - s) hse rfl R
  replace R := (((((R.iload (pc' := 34) d9_32 rfl rfl).iload (pc' := 36) d9_34 rfl rfl).bipush (pc' := 38) (z := (16 : Int32)) d9_36 rfl rfl).iushr (pc' := 39) d9_38 rfl).ixor (pc' := 40) d9_39 rfl).sipush (pc' := 43) (z := (16383 : Int32)) d9_40 rfl rfl
  replace R := R.iand (pc' := 44) d9_43 rfl
  replace R := R.stk (congrArg (fun z => ([Value.int z] : List Value)) (show (((hsh (seg [x0, x1, x2, x3] s e)) ^^^ (((hsh (seg [x0, x1, x2, x3] s e)).toUInt32 >>> ((16 : Int32) &&& 31).toUInt32).toInt32)) &&& (16383 : Int32)) = ix (seg [x0, x1, x2, x3] s e) from rfl))
  replace R := (((((R.istore (pc' := 46) (l' := #[.val (.ref a), .val (.ref li), .val (.int (Int32.ofNat s)), .val (.int (Int32.ofNat e)), .val (.int (hsh (seg [x0, x1, x2, x3] s e))), .val (.int (ix (seg [x0, x1, x2, x3] s e))), .unset, .unset]) d9_44 rfl rfl).aloadN (pc' := 47) (v := (.ref a)) d9_46 rfl rfl rfl).getF (pc' := 50) (host := "") (Or.inl (w43 hw)) Via.refl F_k d9_47 rfl).iload (pc' := 52) d9_50 rfl rfl).aaloadH (pc' := 53) (v := .null) H_q rfl (ix_b _) hu d9_52 rfl).astore (pc' := 55) (l' := #[.val (.ref a), .val (.ref li), .val (.int (Int32.ofNat s)), .val (.int (Int32.ofNat e)), .val (.int (hsh (seg [x0, x1, x2, x3] s e))), .val (.int (ix (seg [x0, x1, x2, x3] s e))), .val .null, .unset]) d9_53 rfl rfl rfl
  replace R := ((((R.aload (pc' := 57) (v := .null) d9_55 rfl rfl rfl).ifnullY (pc' := 88) d9_57 (by decide) rfl).aloadN (pc' := 89) (v := (.ref li)) d9_88 rfl rfl rfl).iloadN (pc' := 90) d9_89 rfl rfl).iloadN (pc' := 91) d9_90 rfl rfl
  obtain ⟨_, h1, _, ⟨r1, rfl, S1, K1, rfl⟩, R⟩ := R.callV (pc' := 94) (y := (⟨"java/lang/String", "substring", "(II)Ljava/lang/String;"⟩ : MethodName)) (z := (⟨"java/lang/String", "substring", "(II)Ljava/lang/String;"⟩ : MethodName)) (argsL := [(.int (Int32.ofNat s)), (.int (Int32.ofNat e))]) (rest := []) (W := 0) (w50 hw) (w51 hw) (fun s' hZ' => notFace_of_selects (args := #[]) (mvT hZ' (w53 hw))) (w53 hw) (w52 hw) (w7 hw) (w54 hw) (by decide) S_l.1 (rm_su C.l Z a0 hw li h n0 Ds own_cs own_si hse he S_l) rfl (lenOf pd13 rfl) rfl rfl d9_91 (by decide) (by decide) (by decide) (by decide) rfl
  replace R := (((R.mono (ce' := 2) (sl' := 7) (by decide) (by decide)).stk (S' := [(.ref r1)]) rfl).astore (pc' := 96) (l' := #[.val (.ref a), .val (.ref li), .val (.int (Int32.ofNat s)), .val (.int (Int32.ofNat e)), .val (.int (hsh (seg [x0, x1, x2, x3] s e))), .val (.int (ix (seg [x0, x1, x2, x3] s e))), .val .null, .val (.ref r1)]) d9_94 rfl rfl rfl).aloadN (pc' := 97) (v := (.ref a)) d9_96 rfl rfl rfl
  have K2 := ((Keep.refl h []).trans K1 all0)
  have F3 := F_k.keep K2 nin0
  replace R := ((R.getF (pc' := 100) (host := "") (Or.inl (w43 hw)) Via.refl F3 d9_97 rfl).iload (pc' := 102) d9_100 rfl rfl).aload (pc' := 104) (v := (.ref r1)) d9_102 rfl rfl rfl
  have K5 := ((Keep.refl h []).trans K1 all0)
  have F6 := H_q.keep K5 nin0
  obtain ⟨h4, K4, H4, R⟩ := R.aastoreH (pc' := 105) F6 O_q (Ins.self S1.1) (ix_b _) hq d9_104 rfl
  have nyq := neArh S1.1 F6 (w6 hw)
  have S4 := S1.keep K4 (ninS nyq nin0) (allS (notB_arh F6 (by decide)) all0)
  replace R := R.aload (pc' := 107) (v := (.ref r1)) d9_105 rfl rfl rfl
  have hK := (((Keep.refl h [q]).trans K1 all0).trans K4 (allS (Or.inl (List.mem_of_getElem? (i := 0) rfl)) all0))
  exact R.retA (Ds' := Ds) hret rfl rfl rfl d9_107 (by decide) (by decide) (fun _ q => q) ⟨r1, rfl, S4, hK, H4, rfl⟩
theorem rm_ofhit (l : Launch) (Z : State) (a0 : Array Value) (hw : HW a0 Z) (a li : Addr) (h : Heap) (n0 : Nat) (Ds : List Addr) (own_cs : CompactOn Z) (own_si : SiooOk Z) {x0 x1 x2 x3 : Int32} {s e : Nat} (hse : s ≤ e) (he : e ≤ 4) (E_a : Exa Z h a "provento/files/FieldTexts") {q : Addr} (F_k : Fld Z h a "provento/files/FieldTexts" "kept" "[Ljava/lang/String;" (.ref q)) (S_l : IsStr Z h li [x0, x1, x2, x3]) {kq : ClassId} {hs : List (Int32 × Value)} (H_q : Arh Z h q kq (.object "java/lang/String") (16384 : Int32) hs [] .null) (O_q : Ovr Z kq "java/lang/String") (hq : q ∈ Ds) {r : Addr} (hu : getH hs [] .null (ix (seg [x0, x1, x2, x3] s e)).toNatClampNeg = .ref r) (S_r : IsStr Z h r (seg [x0, x1, x2, x3] s e)) :
    Ctr l Z (⟨"provento/files/FieldTexts", "of", "(Ljava/lang/String;II)Ljava/lang/String;"⟩ : MethodName) prog_36_method_2_code 8 (some (.object "java/lang/String")) [] (rmo 5 2 7 142) #[.ref a, .ref li, .int (Int32.ofNat s), .int (Int32.ofNat e)] h n0 Ds (fun v h' Ds' => v = some (.ref r) ∧ h = h' ∧ Ds = Ds') := by
  refine ctr_of (Ls := #[.val (.ref a), .val (.ref li), .val (.int (Int32.ofNat s)), .val (.int (Int32.ofNat e)), .unset, .unset, .unset, .unset]) (plainFor_of_name pn5) (fun m => by first | (simp [entryFrame, mkF, argsToLocals, Value.category]; done) | rfl) ?_
  intro C hl hret hnm R
  subst hl
  have hsl : (seg [x0, x1, x2, x3] s e).length = e - s := seg_len hse he
  replace R := (((R.iconst (pc' := 1) (z := (0 : Int32)) d9_0 rfl rfl).istore (pc' := 3) (l' := #[.val (.ref a), .val (.ref li), .val (.int (Int32.ofNat s)), .val (.int (Int32.ofNat e)), .val (.int (0 : Int32)), .unset, .unset, .unset]) d9_1 rfl rfl).iloadN (pc' := 4) d9_3 rfl rfl).istore (pc' := 6) (l' := #[.val (.ref a), .val (.ref li), .val (.int (Int32.ofNat s)), .val (.int (Int32.ofNat e)), .val (.int (0 : Int32)), .val (.int (Int32.ofNat s)), .unset, .unset]) d9_4 rfl rfl
  replace R := of_hash hw own_cs own_si he S_l (e - s) hse rfl R
  replace R := (((((R.iload (pc' := 34) d9_32 rfl rfl).iload (pc' := 36) d9_34 rfl rfl).bipush (pc' := 38) (z := (16 : Int32)) d9_36 rfl rfl).iushr (pc' := 39) d9_38 rfl).ixor (pc' := 40) d9_39 rfl).sipush (pc' := 43) (z := (16383 : Int32)) d9_40 rfl rfl
  replace R := R.iand (pc' := 44) d9_43 rfl
  replace R := R.stk (congrArg (fun z => ([Value.int z] : List Value)) (show (((hsh (seg [x0, x1, x2, x3] s e)) ^^^ (((hsh (seg [x0, x1, x2, x3] s e)).toUInt32 >>> ((16 : Int32) &&& 31).toUInt32).toInt32)) &&& (16383 : Int32)) = ix (seg [x0, x1, x2, x3] s e) from rfl))
  replace R := (((((R.istore (pc' := 46) (l' := #[.val (.ref a), .val (.ref li), .val (.int (Int32.ofNat s)), .val (.int (Int32.ofNat e)), .val (.int (hsh (seg [x0, x1, x2, x3] s e))), .val (.int (ix (seg [x0, x1, x2, x3] s e))), .unset, .unset]) d9_44 rfl rfl).aloadN (pc' := 47) (v := (.ref a)) d9_46 rfl rfl rfl).getF (pc' := 50) (host := "") (Or.inl (w43 hw)) Via.refl F_k d9_47 rfl).iload (pc' := 52) d9_50 rfl rfl).aaloadH (pc' := 53) (v := (.ref r)) H_q rfl (ix_b _) hu d9_52 rfl).astore (pc' := 55) (l' := #[.val (.ref a), .val (.ref li), .val (.int (Int32.ofNat s)), .val (.int (Int32.ofNat e)), .val (.int (hsh (seg [x0, x1, x2, x3] s e))), .val (.int (ix (seg [x0, x1, x2, x3] s e))), .val (.ref r), .unset]) d9_53 rfl rfl rfl
  replace R := ((R.aload (pc' := 57) (v := (.ref r)) d9_55 rfl rfl rfl).ifnullN (pc' := 60) d9_57 rfl).aload (pc' := 62) (v := (.ref r)) d9_60 rfl rfl rfl
  replace R := own_pure (R.callV (pc' := 65) (y := (⟨"java/lang/String", "length", "()I"⟩ : MethodName)) (z := (⟨"java/lang/String", "length", "()I"⟩ : MethodName)) (argsL := []) (rest := []) (W := 0) (w85 hw) (w56 hw) (fun s' hZ' => notFace_of_selects (args := #[]) (mvT hZ' (w58 hw))) (w58 hw) (w57 hw) (w7 hw) (w59 hw) (by decide) S_r.1 (rm_length C.l Z a0 hw r h n0 Ds own_cs S_r) rfl (lenOf pd6 rfl) rfl rfl d9_62 (by decide) (by decide) (by decide) (by decide) rfl)
  replace R := ((R.iloadN (pc' := 66) d9_65 rfl rfl).iloadN (pc' := 67) d9_66 rfl rfl).isub (pc' := 68) d9_67 rfl
  replace R := R.stk (congrArg (fun z => ([Value.int z, (.int (Int32.ofNat (seg [x0, x1, x2, x3] s e).length))] : List Value)) (own_sub hse (by omega)))
  replace R := (((((R.icmpN (pc' := 71) d9_68 (teq (congrArg Int32.ofNat hsl)).2 rfl).aloadN (pc' := 72) (v := (.ref li)) d9_71 rfl rfl rfl).iloadN (pc' := 73) d9_72 rfl rfl).aload (pc' := 75) (v := (.ref r)) d9_73 rfl rfl rfl).iconst (pc' := 76) (z := (0 : Int32)) d9_75 rfl rfl).iloadN (pc' := 77) d9_76 rfl rfl
  replace R := (R.iloadN (pc' := 78) d9_77 rfl rfl).isub (pc' := 79) d9_78 rfl
  replace R := R.stk (congrArg (fun z => ([Value.int z, (.int (0 : Int32)), (.ref r), (.int (Int32.ofNat s)), (.ref li)] : List Value)) (own_sub hse (by omega)))
  replace R := own_pure (R.callV (pc' := 82) (y := (⟨"java/lang/String", "regionMatches", "(ILjava/lang/String;II)Z"⟩ : MethodName)) (z := (⟨"java/lang/String", "regionMatches", "(ILjava/lang/String;II)Z"⟩ : MethodName)) (argsL := [(.int (Int32.ofNat s)), (.ref r), (.int (0 : Int32)), (.int (Int32.ofNat (e - s)))]) (rest := []) (W := 0) (w86 hw) (w87 hw) (fun s' hZ' => notFace_of_selects (args := #[]) (mvT hZ' (w89 hw))) (w89 hw) (w88 hw) (w7 hw) (w90 hw) (by decide) S_l.1 (rm_rmU C.l Z a0 hw li r h n0 Ds own_cs hse he hsl S_l S_r) rfl (lenOf pd14 rfl) rfl rfl d9_79 (by decide) (by decide) (by decide) (by decide) rfl)
  replace R := R.stk (congrArg (fun z => ([Value.int z] : List Value)) (show (bi (decide ((seg [x0, x1, x2, x3] s e) = (seg [x0, x1, x2, x3] s e)))) = (1 : Int32) by rw [decide_eq_true rfl]; rfl))
  replace R := (R.ifN (pc' := 85) d9_82 (feq (by decide : ¬ ((1 : Int32) = (0 : Int32)))).1 rfl).aload (pc' := 87) (v := (.ref r)) d9_85 rfl rfl rfl
  exact R.retA (Ds' := Ds) hret rfl rfl rfl d9_87 (by decide) (by decide) (fun _ q => q) ⟨rfl, rfl, rfl⟩
theorem rm_ofmiss (l : Launch) (Z : State) (a0 : Array Value) (hw : HW a0 Z) (a li : Addr) (h : Heap) (n0 : Nat) (Ds : List Addr) (own_cs : CompactOn Z) (own_si : SiooOk Z) {x0 x1 x2 x3 : Int32} {s e : Nat} (hse : s ≤ e) (he : e ≤ 4) (E_a : Exa Z h a "provento/files/FieldTexts") {q : Addr} (F_k : Fld Z h a "provento/files/FieldTexts" "kept" "[Ljava/lang/String;" (.ref q)) (S_l : IsStr Z h li [x0, x1, x2, x3]) {kq : ClassId} {hs : List (Int32 × Value)} (H_q : Arh Z h q kq (.object "java/lang/String") (16384 : Int32) hs [] .null) (O_q : Ovr Z kq "java/lang/String") (hq : q ∈ Ds) {r : Addr} (hu : getH hs [] .null (ix (seg [x0, x1, x2, x3] s e)).toNatClampNeg = .ref r) {ds : List Int32} (S_r : IsStr Z h r ds) (hne : ¬ (seg [x0, x1, x2, x3] s e) = ds) :
    Ctr l Z (⟨"provento/files/FieldTexts", "of", "(Ljava/lang/String;II)Ljava/lang/String;"⟩ : MethodName) prog_36_method_2_code 8 (some (.object "java/lang/String")) [] (rmo 5 2 7 142) #[.ref a, .ref li, .int (Int32.ofNat s), .int (Int32.ofNat e)] h n0 Ds (fun v h' Ds' => ∃ r : Addr, v = some (.ref r) ∧ IsStr Z h' r (seg [x0, x1, x2, x3] s e) ∧ Keep h h' [q] ∧ Arh Z h' q kq (.object "java/lang/String") (16384 : Int32) ((ix (seg [x0, x1, x2, x3] s e), .ref r) :: hs) [] .null ∧ Ds = Ds') := by
  refine ctr_of (Ls := #[.val (.ref a), .val (.ref li), .val (.int (Int32.ofNat s)), .val (.int (Int32.ofNat e)), .unset, .unset, .unset, .unset]) (plainFor_of_name pn5) (fun m => by first | (simp [entryFrame, mkF, argsToLocals, Value.category]; done) | rfl) ?_
  intro C hl hret hnm R
  subst hl
  replace R := (((R.iconst (pc' := 1) (z := (0 : Int32)) d9_0 rfl rfl).istore (pc' := 3) (l' := #[.val (.ref a), .val (.ref li), .val (.int (Int32.ofNat s)), .val (.int (Int32.ofNat e)), .val (.int (0 : Int32)), .unset, .unset, .unset]) d9_1 rfl rfl).iloadN (pc' := 4) d9_3 rfl rfl).istore (pc' := 6) (l' := #[.val (.ref a), .val (.ref li), .val (.int (Int32.ofNat s)), .val (.int (Int32.ofNat e)), .val (.int (0 : Int32)), .val (.int (Int32.ofNat s)), .unset, .unset]) d9_4 rfl rfl
  replace R := of_hash hw own_cs own_si he S_l (e - s) hse rfl R
  replace R := (((((R.iload (pc' := 34) d9_32 rfl rfl).iload (pc' := 36) d9_34 rfl rfl).bipush (pc' := 38) (z := (16 : Int32)) d9_36 rfl rfl).iushr (pc' := 39) d9_38 rfl).ixor (pc' := 40) d9_39 rfl).sipush (pc' := 43) (z := (16383 : Int32)) d9_40 rfl rfl
  replace R := R.iand (pc' := 44) d9_43 rfl
  replace R := R.stk (congrArg (fun z => ([Value.int z] : List Value)) (show (((hsh (seg [x0, x1, x2, x3] s e)) ^^^ (((hsh (seg [x0, x1, x2, x3] s e)).toUInt32 >>> ((16 : Int32) &&& 31).toUInt32).toInt32)) &&& (16383 : Int32)) = ix (seg [x0, x1, x2, x3] s e) from rfl))
  replace R := (((((R.istore (pc' := 46) (l' := #[.val (.ref a), .val (.ref li), .val (.int (Int32.ofNat s)), .val (.int (Int32.ofNat e)), .val (.int (hsh (seg [x0, x1, x2, x3] s e))), .val (.int (ix (seg [x0, x1, x2, x3] s e))), .unset, .unset]) d9_44 rfl rfl).aloadN (pc' := 47) (v := (.ref a)) d9_46 rfl rfl rfl).getF (pc' := 50) (host := "") (Or.inl (w43 hw)) Via.refl F_k d9_47 rfl).iload (pc' := 52) d9_50 rfl rfl).aaloadH (pc' := 53) (v := (.ref r)) H_q rfl (ix_b _) hu d9_52 rfl).astore (pc' := 55) (l' := #[.val (.ref a), .val (.ref li), .val (.int (Int32.ofNat s)), .val (.int (Int32.ofNat e)), .val (.int (hsh (seg [x0, x1, x2, x3] s e))), .val (.int (ix (seg [x0, x1, x2, x3] s e))), .val (.ref r), .unset]) d9_53 rfl rfl rfl
  replace R := ((R.aload (pc' := 57) (v := (.ref r)) d9_55 rfl rfl rfl).ifnullN (pc' := 60) d9_57 rfl).aload (pc' := 62) (v := (.ref r)) d9_60 rfl rfl rfl
  replace R := own_pure (R.callV (pc' := 65) (y := (⟨"java/lang/String", "length", "()I"⟩ : MethodName)) (z := (⟨"java/lang/String", "length", "()I"⟩ : MethodName)) (argsL := []) (rest := []) (W := 0) (w85 hw) (w56 hw) (fun s' hZ' => notFace_of_selects (args := #[]) (mvT hZ' (w58 hw))) (w58 hw) (w57 hw) (w7 hw) (w59 hw) (by decide) S_r.1 (rm_length C.l Z a0 hw r h n0 Ds own_cs S_r) rfl (lenOf pd6 rfl) rfl rfl d9_62 (by decide) (by decide) (by decide) (by decide) rfl)
  replace R := ((R.iloadN (pc' := 66) d9_65 rfl rfl).iloadN (pc' := 67) d9_66 rfl rfl).isub (pc' := 68) d9_67 rfl
  replace R := R.stk (congrArg (fun z => ([Value.int z, (.int (Int32.ofNat ds.length))] : List Value)) (own_sub hse (by omega)))
  by_cases hlen : (Int32.ofNat ds.length) = (Int32.ofNat (e - s))
  · have hsl : ds.length = e - s := own_nat S_r.2.2.2.1 (by omega) hlen
    replace R := (((((R.icmpN (pc' := 71) d9_68 (teq hlen).2 rfl).aloadN (pc' := 72) (v := (.ref li)) d9_71 rfl rfl rfl).iloadN (pc' := 73) d9_72 rfl rfl).aload (pc' := 75) (v := (.ref r)) d9_73 rfl rfl rfl).iconst (pc' := 76) (z := (0 : Int32)) d9_75 rfl rfl).iloadN (pc' := 77) d9_76 rfl rfl
    replace R := (R.iloadN (pc' := 78) d9_77 rfl rfl).isub (pc' := 79) d9_78 rfl
    replace R := R.stk (congrArg (fun z => ([Value.int z, (.int (0 : Int32)), (.ref r), (.int (Int32.ofNat s)), (.ref li)] : List Value)) (own_sub hse (by omega)))
    replace R := own_pure (R.callV (pc' := 82) (y := (⟨"java/lang/String", "regionMatches", "(ILjava/lang/String;II)Z"⟩ : MethodName)) (z := (⟨"java/lang/String", "regionMatches", "(ILjava/lang/String;II)Z"⟩ : MethodName)) (argsL := [(.int (Int32.ofNat s)), (.ref r), (.int (0 : Int32)), (.int (Int32.ofNat (e - s)))]) (rest := []) (W := 0) (w86 hw) (w87 hw) (fun s' hZ' => notFace_of_selects (args := #[]) (mvT hZ' (w89 hw))) (w89 hw) (w88 hw) (w7 hw) (w90 hw) (by decide) S_l.1 (rm_rmU C.l Z a0 hw li r h n0 Ds own_cs hse he hsl S_l S_r) rfl (lenOf pd14 rfl) rfl rfl d9_79 (by decide) (by decide) (by decide) (by decide) rfl)
    replace R := R.stk (congrArg (fun z => ([Value.int z] : List Value)) (show (bi (decide ((seg [x0, x1, x2, x3] s e) = ds))) = (0 : Int32) by rw [decide_eq_false hne]; rfl))
    replace R := (((R.ifY (pc' := 88) d9_82 (teq (by decide : (0 : Int32) = (0 : Int32))).1 (by decide) rfl).aloadN (pc' := 89) (v := (.ref li)) d9_88 rfl rfl rfl).iloadN (pc' := 90) d9_89 rfl rfl).iloadN (pc' := 91) d9_90 rfl rfl
    obtain ⟨_, h1, _, ⟨r1, rfl, S1, K1, rfl⟩, R⟩ := R.callV (pc' := 94) (y := (⟨"java/lang/String", "substring", "(II)Ljava/lang/String;"⟩ : MethodName)) (z := (⟨"java/lang/String", "substring", "(II)Ljava/lang/String;"⟩ : MethodName)) (argsL := [(.int (Int32.ofNat s)), (.int (Int32.ofNat e))]) (rest := []) (W := 0) (w50 hw) (w51 hw) (fun s' hZ' => notFace_of_selects (args := #[]) (mvT hZ' (w53 hw))) (w53 hw) (w52 hw) (w7 hw) (w54 hw) (by decide) S_l.1 (rm_su C.l Z a0 hw li h n0 Ds own_cs own_si hse he S_l) rfl (lenOf pd13 rfl) rfl rfl d9_91 (by decide) (by decide) (by decide) (by decide) rfl
    replace R := (((R.mono (ce' := 2) (sl' := 7) (by decide) (by decide)).stk (S' := [(.ref r1)]) rfl).astore (pc' := 96) (l' := #[.val (.ref a), .val (.ref li), .val (.int (Int32.ofNat s)), .val (.int (Int32.ofNat e)), .val (.int (hsh (seg [x0, x1, x2, x3] s e))), .val (.int (ix (seg [x0, x1, x2, x3] s e))), .val (.ref r), .val (.ref r1)]) d9_94 rfl rfl rfl).aloadN (pc' := 97) (v := (.ref a)) d9_96 rfl rfl rfl
    have K2 := ((Keep.refl h []).trans K1 all0)
    have F3 := F_k.keep K2 nin0
    replace R := ((R.getF (pc' := 100) (host := "") (Or.inl (w43 hw)) Via.refl F3 d9_97 rfl).iload (pc' := 102) d9_100 rfl rfl).aload (pc' := 104) (v := (.ref r1)) d9_102 rfl rfl rfl
    have K5 := ((Keep.refl h []).trans K1 all0)
    have F6 := H_q.keep K5 nin0
    obtain ⟨h4, K4, H4, R⟩ := R.aastoreH (pc' := 105) F6 O_q (Ins.self S1.1) (ix_b _) hq d9_104 rfl
    have nyq := neArh S1.1 F6 (w6 hw)
    have S4 := S1.keep K4 (ninS nyq nin0) (allS (notB_arh F6 (by decide)) all0)
    replace R := R.aload (pc' := 107) (v := (.ref r1)) d9_105 rfl rfl rfl
    have hK := (((Keep.refl h [q]).trans K1 all0).trans K4 (allS (Or.inl (List.mem_of_getElem? (i := 0) rfl)) all0))
    exact R.retA (Ds' := Ds) hret rfl rfl rfl d9_107 (by decide) (by decide) (fun _ q => q) ⟨r1, rfl, S4, hK, H4, rfl⟩
  · replace R := R.icmpY (pc' := 88) d9_68 (feq hlen).2 (by decide) rfl
    replace R := ((R.aloadN (pc' := 89) (v := (.ref li)) d9_88 rfl rfl rfl).iloadN (pc' := 90) d9_89 rfl rfl).iloadN (pc' := 91) d9_90 rfl rfl
    obtain ⟨_, h7, _, ⟨r7, rfl, S7, K7, rfl⟩, R⟩ := R.callV (pc' := 94) (y := (⟨"java/lang/String", "substring", "(II)Ljava/lang/String;"⟩ : MethodName)) (z := (⟨"java/lang/String", "substring", "(II)Ljava/lang/String;"⟩ : MethodName)) (argsL := [(.int (Int32.ofNat s)), (.int (Int32.ofNat e))]) (rest := []) (W := 0) (w50 hw) (w51 hw) (fun s' hZ' => notFace_of_selects (args := #[]) (mvT hZ' (w53 hw))) (w53 hw) (w52 hw) (w7 hw) (w54 hw) (by decide) S_l.1 (rm_su C.l Z a0 hw li h n0 Ds own_cs own_si hse he S_l) rfl (lenOf pd13 rfl) rfl rfl d9_91 (by decide) (by decide) (by decide) (by decide) rfl
    replace R := (((R.mono (ce' := 2) (sl' := 7) (by decide) (by decide)).stk (S' := [(.ref r7)]) rfl).astore (pc' := 96) (l' := #[.val (.ref a), .val (.ref li), .val (.int (Int32.ofNat s)), .val (.int (Int32.ofNat e)), .val (.int (hsh (seg [x0, x1, x2, x3] s e))), .val (.int (ix (seg [x0, x1, x2, x3] s e))), .val (.ref r), .val (.ref r7)]) d9_94 rfl rfl rfl).aloadN (pc' := 97) (v := (.ref a)) d9_96 rfl rfl rfl
    have K8 := ((Keep.refl h []).trans K7 all0)
    have F9 := F_k.keep K8 nin0
    replace R := ((R.getF (pc' := 100) (host := "") (Or.inl (w43 hw)) Via.refl F9 d9_97 rfl).iload (pc' := 102) d9_100 rfl rfl).aload (pc' := 104) (v := (.ref r7)) d9_102 rfl rfl rfl
    have K11 := ((Keep.refl h []).trans K7 all0)
    have F12 := H_q.keep K11 nin0
    obtain ⟨h10, K10, H10, R⟩ := R.aastoreH (pc' := 105) F12 O_q (Ins.self S7.1) (ix_b _) hq d9_104 rfl
    have nyq := neArh S7.1 F12 (w6 hw)
    have S10 := S7.keep K10 (ninS nyq nin0) (allS (notB_arh F12 (by decide)) all0)
    replace R := R.aload (pc' := 107) (v := (.ref r7)) d9_105 rfl rfl rfl
    have hK := (((Keep.refl h [q]).trans K7 all0).trans K10 (allS (Or.inl (List.mem_of_getElem? (i := 0) rfl)) all0))
    exact R.retA (Ds' := Ds) hret rfl rfl rfl d9_107 (by decide) (by decide) (fun _ q => q) ⟨r7, rfl, S10, hK, H10, rfl⟩
theorem rm_rg (la : Launch) (Z : State) (a0 : Array Value) (hw : HW a0 Z) (a b : Addr) (h : Heap) (n0 : Nat) (Ds : List Addr) (own_cs : CompactOn Z) (own_si : SiooOk Z) {cs ds : List Int32} {i j k l : Nat} (h1 : i ≤ j) (h2 : j ≤ cs.length) (h3 : k ≤ l) (h4 : l ≤ ds.length) (h5 : j - i ≤ 4) (hcl : cs.length ≤ 4000) (hdl : ds.length ≤ 4000) (S_a : IsStr Z h a cs) (S_b : IsStr Z h b ds) :
    Ctr la Z (⟨"provento/files/FieldTextsOfPinLaw", "region", "(Ljava/lang/String;IILjava/lang/String;II)Z"⟩ : MethodName) method_5_code 7 (some .boolean) [] (rmo 4 0 0 54) #[.ref a, .int (Int32.ofNat i), .int (Int32.ofNat j), .ref b, .int (Int32.ofNat k), .int (Int32.ofNat l)] h n0 Ds (fun v h' Ds' => v = some (.int (bi (decide (seg cs i j = seg ds k l)))) ∧ h = h' ∧ Ds = Ds') := by
  refine ctr_of (Ls := #[.val (.ref a), .val (.int (Int32.ofNat i)), .val (.int (Int32.ofNat j)), .val (.ref b), .val (.int (Int32.ofNat k)), .val (.int (Int32.ofNat l)), .unset]) (plainFor_of_name pn6) (fun m => by first | (simp [entryFrame, mkF, argsToLocals, Value.category]; done) | rfl) ?_
  intro C hl hret hnm R
  subst hl
  replace R := ((R.iloadN (pc' := 1) d18_0 rfl rfl).iloadN (pc' := 2) d18_1 rfl rfl).isub (pc' := 3) d18_2 rfl
  replace R := R.stk (congrArg (fun z => ([Value.int z] : List Value)) (own_sub h1 (by omega)))
  replace R := ((((R.istore (pc' := 5) (l' := #[.val (.ref a), .val (.int (Int32.ofNat i)), .val (.int (Int32.ofNat j)), .val (.ref b), .val (.int (Int32.ofNat k)), .val (.int (Int32.ofNat l)), .val (.int (Int32.ofNat (j - i)))]) d18_3 rfl rfl).iload (pc' := 7) d18_5 rfl rfl).iload (pc' := 9) d18_7 rfl rfl).iload (pc' := 11) d18_9 rfl rfl).isub (pc' := 12) d18_11 rfl
  replace R := R.stk (congrArg (fun z => ([Value.int z, Value.int (Int32.ofNat (j - i))] : List Value)) (own_sub h3 (by omega)))
  by_cases hc1 : (Int32.ofNat (j - i)) = (Int32.ofNat (l - k))
  · replace R := R.icmpY (pc' := 17) d18_12 (teq hc1).1 (by decide) rfl
    replace R := (R.iconst (pc' := 18) (z := (0 : Int32)) d18_17 rfl rfl).iload (pc' := 20) d18_18 rfl rfl
    by_cases hc2 : (0 : Int32) < (Int32.ofNat (j - i))
    · replace R := R.icmpN (pc' := 23) d18_20 (tlt hc2).2.1 rfl
      replace R := (R.aloadN (pc' := 24) (v := (.ref a)) d18_23 rfl rfl rfl).iloadN (pc' := 25) d18_24 rfl rfl
      replace R := own_pure (R.callV (pc' := 28) (y := (⟨"java/lang/String", "charAt", "(I)C"⟩ : MethodName)) (z := (⟨"java/lang/String", "charAt", "(I)C"⟩ : MethodName)) (argsL := [(.int (Int32.ofNat i))]) (rest := []) (W := 0) (w134 hw) (w99 hw) (fun s' hZ' => notFace_of_selects (args := #[]) (mvT hZ' (w101 hw))) (w101 hw) (w100 hw) (w7 hw) (w102 hw) (by decide) S_a.1 (rm_charAt C.l Z a0 hw a (Int32.ofNat i) h n0 Ds own_cs own_si (k := (i + 0)) rfl (by have q := own_ltI (k := 0) (by omega) (by omega) hc2; omega) S_a) rfl (lenOf pd15 rfl) rfl rfl d18_25 (by decide) (by decide) (by decide) (by decide) rfl)
      replace R := (R.aloadN (pc' := 29) (v := (.ref b)) d18_28 rfl rfl rfl).iload (pc' := 31) d18_29 rfl rfl
      replace R := own_pure (R.callV (pc' := 34) (y := (⟨"java/lang/String", "charAt", "(I)C"⟩ : MethodName)) (z := (⟨"java/lang/String", "charAt", "(I)C"⟩ : MethodName)) (argsL := [(.int (Int32.ofNat k))]) (rest := [(.int (cs.getD (i + 0) 0))]) (W := 1) (w134 hw) (w99 hw) (fun s' hZ' => notFace_of_selects (args := #[]) (mvT hZ' (w101 hw))) (w101 hw) (w100 hw) (w7 hw) (w102 hw) (by decide) S_b.1 (rm_charAt C.l Z a0 hw b (Int32.ofNat k) h n0 Ds own_cs own_si (k := (k + 0)) rfl (by have q := own_ltI (k := 0) (by omega) (by omega) hc2; have hn := own_nat (i := j - i) (j := l - k) (by omega) (by omega) hc1; omega) S_b) rfl (lenOf pd15 rfl) rfl rfl d18_31 (by decide) (by decide) (by decide) (by decide) rfl)
      by_cases hc3 : (cs.getD (i + 0) 0) = (ds.getD (k + 0) 0)
      · replace R := R.icmpY (pc' := 39) d18_34 (teq hc3).1 (by decide) rfl
        replace R := (R.iconst (pc' := 40) (z := (1 : Int32)) d18_39 rfl rfl).iload (pc' := 42) d18_40 rfl rfl
        by_cases hc4 : (1 : Int32) < (Int32.ofNat (j - i))
        · replace R := R.icmpN (pc' := 45) d18_42 (tlt hc4).2.1 rfl
          replace R := (((R.aloadN (pc' := 46) (v := (.ref a)) d18_45 rfl rfl rfl).iloadN (pc' := 47) d18_46 rfl rfl).iconst (pc' := 48) (z := (1 : Int32)) d18_47 rfl rfl).iadd (pc' := 49) d18_48 rfl
          replace R := own_pure (R.callV (pc' := 52) (y := (⟨"java/lang/String", "charAt", "(I)C"⟩ : MethodName)) (z := (⟨"java/lang/String", "charAt", "(I)C"⟩ : MethodName)) (argsL := [(.int ((Int32.ofNat i) + (1 : Int32)))]) (rest := []) (W := 0) (w134 hw) (w99 hw) (fun s' hZ' => notFace_of_selects (args := #[]) (mvT hZ' (w101 hw))) (w101 hw) (w100 hw) (w7 hw) (w102 hw) (by decide) S_a.1 (rm_charAt C.l Z a0 hw a ((Int32.ofNat i) + (1 : Int32)) h n0 Ds own_cs own_si (k := (i + 1)) (own_addc (c := 1) (by have q := own_ltI (k := 1) (by omega) (by omega) hc4; omega)) (by have q := own_ltI (k := 1) (by omega) (by omega) hc4; omega) S_a) rfl (lenOf pd15 rfl) rfl rfl d18_49 (by decide) (by decide) (by decide) (by decide) rfl)
          replace R := (((R.aloadN (pc' := 53) (v := (.ref b)) d18_52 rfl rfl rfl).iload (pc' := 55) d18_53 rfl rfl).iconst (pc' := 56) (z := (1 : Int32)) d18_55 rfl rfl).iadd (pc' := 57) d18_56 rfl
          replace R := own_pure (R.callV (pc' := 60) (y := (⟨"java/lang/String", "charAt", "(I)C"⟩ : MethodName)) (z := (⟨"java/lang/String", "charAt", "(I)C"⟩ : MethodName)) (argsL := [(.int ((Int32.ofNat k) + (1 : Int32)))]) (rest := [(.int (cs.getD (i + 1) 0))]) (W := 1) (w134 hw) (w99 hw) (fun s' hZ' => notFace_of_selects (args := #[]) (mvT hZ' (w101 hw))) (w101 hw) (w100 hw) (w7 hw) (w102 hw) (by decide) S_b.1 (rm_charAt C.l Z a0 hw b ((Int32.ofNat k) + (1 : Int32)) h n0 Ds own_cs own_si (k := (k + 1)) (own_addc (c := 1) (by have q := own_ltI (k := 1) (by omega) (by omega) hc4; have hn := own_nat (i := j - i) (j := l - k) (by omega) (by omega) hc1; omega)) (by have q := own_ltI (k := 1) (by omega) (by omega) hc4; have hn := own_nat (i := j - i) (j := l - k) (by omega) (by omega) hc1; omega) S_b) rfl (lenOf pd15 rfl) rfl rfl d18_57 (by decide) (by decide) (by decide) (by decide) rfl)
          by_cases hc5 : (cs.getD (i + 1) 0) = (ds.getD (k + 1) 0)
          · replace R := R.icmpY (pc' := 65) d18_60 (teq hc5).1 (by decide) rfl
            replace R := (R.iconst (pc' := 66) (z := (2 : Int32)) d18_65 rfl rfl).iload (pc' := 68) d18_66 rfl rfl
            by_cases hc6 : (2 : Int32) < (Int32.ofNat (j - i))
            · replace R := R.icmpN (pc' := 71) d18_68 (tlt hc6).2.1 rfl
              replace R := (((R.aloadN (pc' := 72) (v := (.ref a)) d18_71 rfl rfl rfl).iloadN (pc' := 73) d18_72 rfl rfl).iconst (pc' := 74) (z := (2 : Int32)) d18_73 rfl rfl).iadd (pc' := 75) d18_74 rfl
              replace R := own_pure (R.callV (pc' := 78) (y := (⟨"java/lang/String", "charAt", "(I)C"⟩ : MethodName)) (z := (⟨"java/lang/String", "charAt", "(I)C"⟩ : MethodName)) (argsL := [(.int ((Int32.ofNat i) + (2 : Int32)))]) (rest := []) (W := 0) (w134 hw) (w99 hw) (fun s' hZ' => notFace_of_selects (args := #[]) (mvT hZ' (w101 hw))) (w101 hw) (w100 hw) (w7 hw) (w102 hw) (by decide) S_a.1 (rm_charAt C.l Z a0 hw a ((Int32.ofNat i) + (2 : Int32)) h n0 Ds own_cs own_si (k := (i + 2)) (own_addc (c := 2) (by have q := own_ltI (k := 2) (by omega) (by omega) hc6; omega)) (by have q := own_ltI (k := 2) (by omega) (by omega) hc6; omega) S_a) rfl (lenOf pd15 rfl) rfl rfl d18_75 (by decide) (by decide) (by decide) (by decide) rfl)
              replace R := (((R.aloadN (pc' := 79) (v := (.ref b)) d18_78 rfl rfl rfl).iload (pc' := 81) d18_79 rfl rfl).iconst (pc' := 82) (z := (2 : Int32)) d18_81 rfl rfl).iadd (pc' := 83) d18_82 rfl
              replace R := own_pure (R.callV (pc' := 86) (y := (⟨"java/lang/String", "charAt", "(I)C"⟩ : MethodName)) (z := (⟨"java/lang/String", "charAt", "(I)C"⟩ : MethodName)) (argsL := [(.int ((Int32.ofNat k) + (2 : Int32)))]) (rest := [(.int (cs.getD (i + 2) 0))]) (W := 1) (w134 hw) (w99 hw) (fun s' hZ' => notFace_of_selects (args := #[]) (mvT hZ' (w101 hw))) (w101 hw) (w100 hw) (w7 hw) (w102 hw) (by decide) S_b.1 (rm_charAt C.l Z a0 hw b ((Int32.ofNat k) + (2 : Int32)) h n0 Ds own_cs own_si (k := (k + 2)) (own_addc (c := 2) (by have q := own_ltI (k := 2) (by omega) (by omega) hc6; have hn := own_nat (i := j - i) (j := l - k) (by omega) (by omega) hc1; omega)) (by have q := own_ltI (k := 2) (by omega) (by omega) hc6; have hn := own_nat (i := j - i) (j := l - k) (by omega) (by omega) hc1; omega) S_b) rfl (lenOf pd15 rfl) rfl rfl d18_83 (by decide) (by decide) (by decide) (by decide) rfl)
              by_cases hc7 : (cs.getD (i + 2) 0) = (ds.getD (k + 2) 0)
              · replace R := R.icmpY (pc' := 91) d18_86 (teq hc7).1 (by decide) rfl
                replace R := (R.iconst (pc' := 92) (z := (3 : Int32)) d18_91 rfl rfl).iload (pc' := 94) d18_92 rfl rfl
                by_cases hc8 : (3 : Int32) < (Int32.ofNat (j - i))
                · replace R := R.icmpN (pc' := 97) d18_94 (tlt hc8).2.1 rfl
                  replace R := (((R.aloadN (pc' := 98) (v := (.ref a)) d18_97 rfl rfl rfl).iloadN (pc' := 99) d18_98 rfl rfl).iconst (pc' := 100) (z := (3 : Int32)) d18_99 rfl rfl).iadd (pc' := 101) d18_100 rfl
                  replace R := own_pure (R.callV (pc' := 104) (y := (⟨"java/lang/String", "charAt", "(I)C"⟩ : MethodName)) (z := (⟨"java/lang/String", "charAt", "(I)C"⟩ : MethodName)) (argsL := [(.int ((Int32.ofNat i) + (3 : Int32)))]) (rest := []) (W := 0) (w134 hw) (w99 hw) (fun s' hZ' => notFace_of_selects (args := #[]) (mvT hZ' (w101 hw))) (w101 hw) (w100 hw) (w7 hw) (w102 hw) (by decide) S_a.1 (rm_charAt C.l Z a0 hw a ((Int32.ofNat i) + (3 : Int32)) h n0 Ds own_cs own_si (k := (i + 3)) (own_addc (c := 3) (by have q := own_ltI (k := 3) (by omega) (by omega) hc8; omega)) (by have q := own_ltI (k := 3) (by omega) (by omega) hc8; omega) S_a) rfl (lenOf pd15 rfl) rfl rfl d18_101 (by decide) (by decide) (by decide) (by decide) rfl)
                  replace R := (((R.aloadN (pc' := 105) (v := (.ref b)) d18_104 rfl rfl rfl).iload (pc' := 107) d18_105 rfl rfl).iconst (pc' := 108) (z := (3 : Int32)) d18_107 rfl rfl).iadd (pc' := 109) d18_108 rfl
                  replace R := own_pure (R.callV (pc' := 112) (y := (⟨"java/lang/String", "charAt", "(I)C"⟩ : MethodName)) (z := (⟨"java/lang/String", "charAt", "(I)C"⟩ : MethodName)) (argsL := [(.int ((Int32.ofNat k) + (3 : Int32)))]) (rest := [(.int (cs.getD (i + 3) 0))]) (W := 1) (w134 hw) (w99 hw) (fun s' hZ' => notFace_of_selects (args := #[]) (mvT hZ' (w101 hw))) (w101 hw) (w100 hw) (w7 hw) (w102 hw) (by decide) S_b.1 (rm_charAt C.l Z a0 hw b ((Int32.ofNat k) + (3 : Int32)) h n0 Ds own_cs own_si (k := (k + 3)) (own_addc (c := 3) (by have q := own_ltI (k := 3) (by omega) (by omega) hc8; have hn := own_nat (i := j - i) (j := l - k) (by omega) (by omega) hc1; omega)) (by have q := own_ltI (k := 3) (by omega) (by omega) hc8; have hn := own_nat (i := j - i) (j := l - k) (by omega) (by omega) hc1; omega) S_b) rfl (lenOf pd15 rfl) rfl rfl d18_109 (by decide) (by decide) (by decide) (by decide) rfl)
                  by_cases hc9 : (cs.getD (i + 3) 0) = (ds.getD (k + 3) 0)
                  · replace R := R.icmpY (pc' := 117) d18_112 (teq hc9).1 (by decide) rfl
                    replace R := R.iconst (pc' := 118) (z := (1 : Int32)) d18_117 rfl rfl
                    have hn : j - i = l - k := own_nat (by omega) (by omega) hc1
                    have hv : seg cs i j = seg ds k l := seg_eq h1 h2 h3 h4 hn (fun t ht => by
                      have ht4 : t = 0 ∨ t = 1 ∨ t = 2 ∨ t = 3 := by omega
                      rcases ht4 with rfl | rfl | rfl | rfl
                      · exact hc3
                      · exact hc5
                      · exact hc7
                      · exact hc9)
                    exact R.retN (Ds' := Ds) hret (by simp) (show nar .boolean (1 : Int32) = bi (decide (seg cs i j = seg ds k l)) by rw [decide_eq_true hv]; rfl) d18_118 (by decide) (by decide) (fun _ q => q) ⟨rfl, rfl, rfl⟩
                  · replace R := R.icmpN (pc' := 115) d18_112 (feq hc9).1 rfl
                    replace R := R.iconst (pc' := 116) (z := (0 : Int32)) d18_115 rfl rfl
                    have hn : j - i = l - k := own_nat (by omega) (by omega) hc1
                    have hv : ¬ seg cs i j = seg ds k l := seg_ne (t := 3) h2 h4 hn (own_ltI (k := 3) (by omega) (by omega) hc8) hc9
                    exact R.retN (Ds' := Ds) hret (by simp) (show nar .boolean (0 : Int32) = bi (decide (seg cs i j = seg ds k l)) by rw [decide_eq_false hv]; rfl) d18_116 (by decide) (by decide) (fun _ q => q) ⟨rfl, rfl, rfl⟩
                · replace R := R.icmpY (pc' := 117) d18_94 (flt hc8).2.1 (by decide) rfl
                  replace R := R.iconst (pc' := 118) (z := (1 : Int32)) d18_117 rfl rfl
                  have hn : j - i = l - k := own_nat (by omega) (by omega) hc1
                  have hv : seg cs i j = seg ds k l := seg_eq h1 h2 h3 h4 hn (fun t ht => by
                    have ht4 : t = 0 ∨ t = 1 ∨ t = 2 ∨ t = 3 := by omega
                    rcases ht4 with rfl | rfl | rfl | rfl
                    · exact hc3
                    · exact hc5
                    · exact hc7
                    · exact absurd (own_lt (i := 3) (by omega) ht) hc8)
                  exact R.retN (Ds' := Ds) hret (by simp) (show nar .boolean (1 : Int32) = bi (decide (seg cs i j = seg ds k l)) by rw [decide_eq_true hv]; rfl) d18_118 (by decide) (by decide) (fun _ q => q) ⟨rfl, rfl, rfl⟩
              · replace R := R.icmpN (pc' := 89) d18_86 (feq hc7).1 rfl
                replace R := R.iconst (pc' := 90) (z := (0 : Int32)) d18_89 rfl rfl
                have hn : j - i = l - k := own_nat (by omega) (by omega) hc1
                have hv : ¬ seg cs i j = seg ds k l := seg_ne (t := 2) h2 h4 hn (own_ltI (k := 2) (by omega) (by omega) hc6) hc7
                exact R.retN (Ds' := Ds) hret (by simp) (show nar .boolean (0 : Int32) = bi (decide (seg cs i j = seg ds k l)) by rw [decide_eq_false hv]; rfl) d18_90 (by decide) (by decide) (fun _ q => q) ⟨rfl, rfl, rfl⟩
            · replace R := R.icmpY (pc' := 91) d18_68 (flt hc6).2.1 (by decide) rfl
              replace R := (R.iconst (pc' := 92) (z := (3 : Int32)) d18_91 rfl rfl).iload (pc' := 94) d18_92 rfl rfl
              by_cases hc10 : (3 : Int32) < (Int32.ofNat (j - i))
              · replace R := R.icmpN (pc' := 97) d18_94 (tlt hc10).2.1 rfl
                replace R := (((R.aloadN (pc' := 98) (v := (.ref a)) d18_97 rfl rfl rfl).iloadN (pc' := 99) d18_98 rfl rfl).iconst (pc' := 100) (z := (3 : Int32)) d18_99 rfl rfl).iadd (pc' := 101) d18_100 rfl
                replace R := own_pure (R.callV (pc' := 104) (y := (⟨"java/lang/String", "charAt", "(I)C"⟩ : MethodName)) (z := (⟨"java/lang/String", "charAt", "(I)C"⟩ : MethodName)) (argsL := [(.int ((Int32.ofNat i) + (3 : Int32)))]) (rest := []) (W := 0) (w134 hw) (w99 hw) (fun s' hZ' => notFace_of_selects (args := #[]) (mvT hZ' (w101 hw))) (w101 hw) (w100 hw) (w7 hw) (w102 hw) (by decide) S_a.1 (rm_charAt C.l Z a0 hw a ((Int32.ofNat i) + (3 : Int32)) h n0 Ds own_cs own_si (k := (i + 3)) (own_addc (c := 3) (by have q := own_ltI (k := 3) (by omega) (by omega) hc10; omega)) (by have q := own_ltI (k := 3) (by omega) (by omega) hc10; omega) S_a) rfl (lenOf pd15 rfl) rfl rfl d18_101 (by decide) (by decide) (by decide) (by decide) rfl)
                replace R := (((R.aloadN (pc' := 105) (v := (.ref b)) d18_104 rfl rfl rfl).iload (pc' := 107) d18_105 rfl rfl).iconst (pc' := 108) (z := (3 : Int32)) d18_107 rfl rfl).iadd (pc' := 109) d18_108 rfl
                replace R := own_pure (R.callV (pc' := 112) (y := (⟨"java/lang/String", "charAt", "(I)C"⟩ : MethodName)) (z := (⟨"java/lang/String", "charAt", "(I)C"⟩ : MethodName)) (argsL := [(.int ((Int32.ofNat k) + (3 : Int32)))]) (rest := [(.int (cs.getD (i + 3) 0))]) (W := 1) (w134 hw) (w99 hw) (fun s' hZ' => notFace_of_selects (args := #[]) (mvT hZ' (w101 hw))) (w101 hw) (w100 hw) (w7 hw) (w102 hw) (by decide) S_b.1 (rm_charAt C.l Z a0 hw b ((Int32.ofNat k) + (3 : Int32)) h n0 Ds own_cs own_si (k := (k + 3)) (own_addc (c := 3) (by have q := own_ltI (k := 3) (by omega) (by omega) hc10; have hn := own_nat (i := j - i) (j := l - k) (by omega) (by omega) hc1; omega)) (by have q := own_ltI (k := 3) (by omega) (by omega) hc10; have hn := own_nat (i := j - i) (j := l - k) (by omega) (by omega) hc1; omega) S_b) rfl (lenOf pd15 rfl) rfl rfl d18_109 (by decide) (by decide) (by decide) (by decide) rfl)
                by_cases hc11 : (cs.getD (i + 3) 0) = (ds.getD (k + 3) 0)
                · replace R := R.icmpY (pc' := 117) d18_112 (teq hc11).1 (by decide) rfl
                  replace R := R.iconst (pc' := 118) (z := (1 : Int32)) d18_117 rfl rfl
                  have hn : j - i = l - k := own_nat (by omega) (by omega) hc1
                  have hv : seg cs i j = seg ds k l := seg_eq h1 h2 h3 h4 hn (fun t ht => by
                    have ht4 : t = 0 ∨ t = 1 ∨ t = 2 ∨ t = 3 := by omega
                    rcases ht4 with rfl | rfl | rfl | rfl
                    · exact hc3
                    · exact hc5
                    · exact absurd (own_lt (i := 2) (by omega) ht) hc6
                    · exact hc11)
                  exact R.retN (Ds' := Ds) hret (by simp) (show nar .boolean (1 : Int32) = bi (decide (seg cs i j = seg ds k l)) by rw [decide_eq_true hv]; rfl) d18_118 (by decide) (by decide) (fun _ q => q) ⟨rfl, rfl, rfl⟩
                · replace R := R.icmpN (pc' := 115) d18_112 (feq hc11).1 rfl
                  replace R := R.iconst (pc' := 116) (z := (0 : Int32)) d18_115 rfl rfl
                  have hn : j - i = l - k := own_nat (by omega) (by omega) hc1
                  have hv : ¬ seg cs i j = seg ds k l := seg_ne (t := 3) h2 h4 hn (own_ltI (k := 3) (by omega) (by omega) hc10) hc11
                  exact R.retN (Ds' := Ds) hret (by simp) (show nar .boolean (0 : Int32) = bi (decide (seg cs i j = seg ds k l)) by rw [decide_eq_false hv]; rfl) d18_116 (by decide) (by decide) (fun _ q => q) ⟨rfl, rfl, rfl⟩
              · replace R := R.icmpY (pc' := 117) d18_94 (flt hc10).2.1 (by decide) rfl
                replace R := R.iconst (pc' := 118) (z := (1 : Int32)) d18_117 rfl rfl
                have hn : j - i = l - k := own_nat (by omega) (by omega) hc1
                have hv : seg cs i j = seg ds k l := seg_eq h1 h2 h3 h4 hn (fun t ht => by
                  have ht4 : t = 0 ∨ t = 1 ∨ t = 2 ∨ t = 3 := by omega
                  rcases ht4 with rfl | rfl | rfl | rfl
                  · exact hc3
                  · exact hc5
                  · exact absurd (own_lt (i := 2) (by omega) ht) hc6
                  · exact absurd (own_lt (i := 3) (by omega) ht) hc10)
                exact R.retN (Ds' := Ds) hret (by simp) (show nar .boolean (1 : Int32) = bi (decide (seg cs i j = seg ds k l)) by rw [decide_eq_true hv]; rfl) d18_118 (by decide) (by decide) (fun _ q => q) ⟨rfl, rfl, rfl⟩
          · replace R := R.icmpN (pc' := 63) d18_60 (feq hc5).1 rfl
            replace R := R.iconst (pc' := 64) (z := (0 : Int32)) d18_63 rfl rfl
            have hn : j - i = l - k := own_nat (by omega) (by omega) hc1
            have hv : ¬ seg cs i j = seg ds k l := seg_ne (t := 1) h2 h4 hn (own_ltI (k := 1) (by omega) (by omega) hc4) hc5
            exact R.retN (Ds' := Ds) hret (by simp) (show nar .boolean (0 : Int32) = bi (decide (seg cs i j = seg ds k l)) by rw [decide_eq_false hv]; rfl) d18_64 (by decide) (by decide) (fun _ q => q) ⟨rfl, rfl, rfl⟩
        · replace R := R.icmpY (pc' := 65) d18_42 (flt hc4).2.1 (by decide) rfl
          replace R := (R.iconst (pc' := 66) (z := (2 : Int32)) d18_65 rfl rfl).iload (pc' := 68) d18_66 rfl rfl
          by_cases hc12 : (2 : Int32) < (Int32.ofNat (j - i))
          · replace R := R.icmpN (pc' := 71) d18_68 (tlt hc12).2.1 rfl
            replace R := (((R.aloadN (pc' := 72) (v := (.ref a)) d18_71 rfl rfl rfl).iloadN (pc' := 73) d18_72 rfl rfl).iconst (pc' := 74) (z := (2 : Int32)) d18_73 rfl rfl).iadd (pc' := 75) d18_74 rfl
            replace R := own_pure (R.callV (pc' := 78) (y := (⟨"java/lang/String", "charAt", "(I)C"⟩ : MethodName)) (z := (⟨"java/lang/String", "charAt", "(I)C"⟩ : MethodName)) (argsL := [(.int ((Int32.ofNat i) + (2 : Int32)))]) (rest := []) (W := 0) (w134 hw) (w99 hw) (fun s' hZ' => notFace_of_selects (args := #[]) (mvT hZ' (w101 hw))) (w101 hw) (w100 hw) (w7 hw) (w102 hw) (by decide) S_a.1 (rm_charAt C.l Z a0 hw a ((Int32.ofNat i) + (2 : Int32)) h n0 Ds own_cs own_si (k := (i + 2)) (own_addc (c := 2) (by have q := own_ltI (k := 2) (by omega) (by omega) hc12; omega)) (by have q := own_ltI (k := 2) (by omega) (by omega) hc12; omega) S_a) rfl (lenOf pd15 rfl) rfl rfl d18_75 (by decide) (by decide) (by decide) (by decide) rfl)
            replace R := (((R.aloadN (pc' := 79) (v := (.ref b)) d18_78 rfl rfl rfl).iload (pc' := 81) d18_79 rfl rfl).iconst (pc' := 82) (z := (2 : Int32)) d18_81 rfl rfl).iadd (pc' := 83) d18_82 rfl
            replace R := own_pure (R.callV (pc' := 86) (y := (⟨"java/lang/String", "charAt", "(I)C"⟩ : MethodName)) (z := (⟨"java/lang/String", "charAt", "(I)C"⟩ : MethodName)) (argsL := [(.int ((Int32.ofNat k) + (2 : Int32)))]) (rest := [(.int (cs.getD (i + 2) 0))]) (W := 1) (w134 hw) (w99 hw) (fun s' hZ' => notFace_of_selects (args := #[]) (mvT hZ' (w101 hw))) (w101 hw) (w100 hw) (w7 hw) (w102 hw) (by decide) S_b.1 (rm_charAt C.l Z a0 hw b ((Int32.ofNat k) + (2 : Int32)) h n0 Ds own_cs own_si (k := (k + 2)) (own_addc (c := 2) (by have q := own_ltI (k := 2) (by omega) (by omega) hc12; have hn := own_nat (i := j - i) (j := l - k) (by omega) (by omega) hc1; omega)) (by have q := own_ltI (k := 2) (by omega) (by omega) hc12; have hn := own_nat (i := j - i) (j := l - k) (by omega) (by omega) hc1; omega) S_b) rfl (lenOf pd15 rfl) rfl rfl d18_83 (by decide) (by decide) (by decide) (by decide) rfl)
            by_cases hc13 : (cs.getD (i + 2) 0) = (ds.getD (k + 2) 0)
            · replace R := R.icmpY (pc' := 91) d18_86 (teq hc13).1 (by decide) rfl
              replace R := (R.iconst (pc' := 92) (z := (3 : Int32)) d18_91 rfl rfl).iload (pc' := 94) d18_92 rfl rfl
              by_cases hc14 : (3 : Int32) < (Int32.ofNat (j - i))
              · replace R := R.icmpN (pc' := 97) d18_94 (tlt hc14).2.1 rfl
                replace R := (((R.aloadN (pc' := 98) (v := (.ref a)) d18_97 rfl rfl rfl).iloadN (pc' := 99) d18_98 rfl rfl).iconst (pc' := 100) (z := (3 : Int32)) d18_99 rfl rfl).iadd (pc' := 101) d18_100 rfl
                replace R := own_pure (R.callV (pc' := 104) (y := (⟨"java/lang/String", "charAt", "(I)C"⟩ : MethodName)) (z := (⟨"java/lang/String", "charAt", "(I)C"⟩ : MethodName)) (argsL := [(.int ((Int32.ofNat i) + (3 : Int32)))]) (rest := []) (W := 0) (w134 hw) (w99 hw) (fun s' hZ' => notFace_of_selects (args := #[]) (mvT hZ' (w101 hw))) (w101 hw) (w100 hw) (w7 hw) (w102 hw) (by decide) S_a.1 (rm_charAt C.l Z a0 hw a ((Int32.ofNat i) + (3 : Int32)) h n0 Ds own_cs own_si (k := (i + 3)) (own_addc (c := 3) (by have q := own_ltI (k := 3) (by omega) (by omega) hc14; omega)) (by have q := own_ltI (k := 3) (by omega) (by omega) hc14; omega) S_a) rfl (lenOf pd15 rfl) rfl rfl d18_101 (by decide) (by decide) (by decide) (by decide) rfl)
                replace R := (((R.aloadN (pc' := 105) (v := (.ref b)) d18_104 rfl rfl rfl).iload (pc' := 107) d18_105 rfl rfl).iconst (pc' := 108) (z := (3 : Int32)) d18_107 rfl rfl).iadd (pc' := 109) d18_108 rfl
                replace R := own_pure (R.callV (pc' := 112) (y := (⟨"java/lang/String", "charAt", "(I)C"⟩ : MethodName)) (z := (⟨"java/lang/String", "charAt", "(I)C"⟩ : MethodName)) (argsL := [(.int ((Int32.ofNat k) + (3 : Int32)))]) (rest := [(.int (cs.getD (i + 3) 0))]) (W := 1) (w134 hw) (w99 hw) (fun s' hZ' => notFace_of_selects (args := #[]) (mvT hZ' (w101 hw))) (w101 hw) (w100 hw) (w7 hw) (w102 hw) (by decide) S_b.1 (rm_charAt C.l Z a0 hw b ((Int32.ofNat k) + (3 : Int32)) h n0 Ds own_cs own_si (k := (k + 3)) (own_addc (c := 3) (by have q := own_ltI (k := 3) (by omega) (by omega) hc14; have hn := own_nat (i := j - i) (j := l - k) (by omega) (by omega) hc1; omega)) (by have q := own_ltI (k := 3) (by omega) (by omega) hc14; have hn := own_nat (i := j - i) (j := l - k) (by omega) (by omega) hc1; omega) S_b) rfl (lenOf pd15 rfl) rfl rfl d18_109 (by decide) (by decide) (by decide) (by decide) rfl)
                by_cases hc15 : (cs.getD (i + 3) 0) = (ds.getD (k + 3) 0)
                · replace R := R.icmpY (pc' := 117) d18_112 (teq hc15).1 (by decide) rfl
                  replace R := R.iconst (pc' := 118) (z := (1 : Int32)) d18_117 rfl rfl
                  have hn : j - i = l - k := own_nat (by omega) (by omega) hc1
                  have hv : seg cs i j = seg ds k l := seg_eq h1 h2 h3 h4 hn (fun t ht => by
                    have ht4 : t = 0 ∨ t = 1 ∨ t = 2 ∨ t = 3 := by omega
                    rcases ht4 with rfl | rfl | rfl | rfl
                    · exact hc3
                    · exact absurd (own_lt (i := 1) (by omega) ht) hc4
                    · exact hc13
                    · exact hc15)
                  exact R.retN (Ds' := Ds) hret (by simp) (show nar .boolean (1 : Int32) = bi (decide (seg cs i j = seg ds k l)) by rw [decide_eq_true hv]; rfl) d18_118 (by decide) (by decide) (fun _ q => q) ⟨rfl, rfl, rfl⟩
                · replace R := R.icmpN (pc' := 115) d18_112 (feq hc15).1 rfl
                  replace R := R.iconst (pc' := 116) (z := (0 : Int32)) d18_115 rfl rfl
                  have hn : j - i = l - k := own_nat (by omega) (by omega) hc1
                  have hv : ¬ seg cs i j = seg ds k l := seg_ne (t := 3) h2 h4 hn (own_ltI (k := 3) (by omega) (by omega) hc14) hc15
                  exact R.retN (Ds' := Ds) hret (by simp) (show nar .boolean (0 : Int32) = bi (decide (seg cs i j = seg ds k l)) by rw [decide_eq_false hv]; rfl) d18_116 (by decide) (by decide) (fun _ q => q) ⟨rfl, rfl, rfl⟩
              · replace R := R.icmpY (pc' := 117) d18_94 (flt hc14).2.1 (by decide) rfl
                replace R := R.iconst (pc' := 118) (z := (1 : Int32)) d18_117 rfl rfl
                have hn : j - i = l - k := own_nat (by omega) (by omega) hc1
                have hv : seg cs i j = seg ds k l := seg_eq h1 h2 h3 h4 hn (fun t ht => by
                  have ht4 : t = 0 ∨ t = 1 ∨ t = 2 ∨ t = 3 := by omega
                  rcases ht4 with rfl | rfl | rfl | rfl
                  · exact hc3
                  · exact absurd (own_lt (i := 1) (by omega) ht) hc4
                  · exact hc13
                  · exact absurd (own_lt (i := 3) (by omega) ht) hc14)
                exact R.retN (Ds' := Ds) hret (by simp) (show nar .boolean (1 : Int32) = bi (decide (seg cs i j = seg ds k l)) by rw [decide_eq_true hv]; rfl) d18_118 (by decide) (by decide) (fun _ q => q) ⟨rfl, rfl, rfl⟩
            · replace R := R.icmpN (pc' := 89) d18_86 (feq hc13).1 rfl
              replace R := R.iconst (pc' := 90) (z := (0 : Int32)) d18_89 rfl rfl
              have hn : j - i = l - k := own_nat (by omega) (by omega) hc1
              have hv : ¬ seg cs i j = seg ds k l := seg_ne (t := 2) h2 h4 hn (own_ltI (k := 2) (by omega) (by omega) hc12) hc13
              exact R.retN (Ds' := Ds) hret (by simp) (show nar .boolean (0 : Int32) = bi (decide (seg cs i j = seg ds k l)) by rw [decide_eq_false hv]; rfl) d18_90 (by decide) (by decide) (fun _ q => q) ⟨rfl, rfl, rfl⟩
          · replace R := R.icmpY (pc' := 91) d18_68 (flt hc12).2.1 (by decide) rfl
            replace R := (R.iconst (pc' := 92) (z := (3 : Int32)) d18_91 rfl rfl).iload (pc' := 94) d18_92 rfl rfl
            by_cases hc16 : (3 : Int32) < (Int32.ofNat (j - i))
            · replace R := R.icmpN (pc' := 97) d18_94 (tlt hc16).2.1 rfl
              replace R := (((R.aloadN (pc' := 98) (v := (.ref a)) d18_97 rfl rfl rfl).iloadN (pc' := 99) d18_98 rfl rfl).iconst (pc' := 100) (z := (3 : Int32)) d18_99 rfl rfl).iadd (pc' := 101) d18_100 rfl
              replace R := own_pure (R.callV (pc' := 104) (y := (⟨"java/lang/String", "charAt", "(I)C"⟩ : MethodName)) (z := (⟨"java/lang/String", "charAt", "(I)C"⟩ : MethodName)) (argsL := [(.int ((Int32.ofNat i) + (3 : Int32)))]) (rest := []) (W := 0) (w134 hw) (w99 hw) (fun s' hZ' => notFace_of_selects (args := #[]) (mvT hZ' (w101 hw))) (w101 hw) (w100 hw) (w7 hw) (w102 hw) (by decide) S_a.1 (rm_charAt C.l Z a0 hw a ((Int32.ofNat i) + (3 : Int32)) h n0 Ds own_cs own_si (k := (i + 3)) (own_addc (c := 3) (by have q := own_ltI (k := 3) (by omega) (by omega) hc16; omega)) (by have q := own_ltI (k := 3) (by omega) (by omega) hc16; omega) S_a) rfl (lenOf pd15 rfl) rfl rfl d18_101 (by decide) (by decide) (by decide) (by decide) rfl)
              replace R := (((R.aloadN (pc' := 105) (v := (.ref b)) d18_104 rfl rfl rfl).iload (pc' := 107) d18_105 rfl rfl).iconst (pc' := 108) (z := (3 : Int32)) d18_107 rfl rfl).iadd (pc' := 109) d18_108 rfl
              replace R := own_pure (R.callV (pc' := 112) (y := (⟨"java/lang/String", "charAt", "(I)C"⟩ : MethodName)) (z := (⟨"java/lang/String", "charAt", "(I)C"⟩ : MethodName)) (argsL := [(.int ((Int32.ofNat k) + (3 : Int32)))]) (rest := [(.int (cs.getD (i + 3) 0))]) (W := 1) (w134 hw) (w99 hw) (fun s' hZ' => notFace_of_selects (args := #[]) (mvT hZ' (w101 hw))) (w101 hw) (w100 hw) (w7 hw) (w102 hw) (by decide) S_b.1 (rm_charAt C.l Z a0 hw b ((Int32.ofNat k) + (3 : Int32)) h n0 Ds own_cs own_si (k := (k + 3)) (own_addc (c := 3) (by have q := own_ltI (k := 3) (by omega) (by omega) hc16; have hn := own_nat (i := j - i) (j := l - k) (by omega) (by omega) hc1; omega)) (by have q := own_ltI (k := 3) (by omega) (by omega) hc16; have hn := own_nat (i := j - i) (j := l - k) (by omega) (by omega) hc1; omega) S_b) rfl (lenOf pd15 rfl) rfl rfl d18_109 (by decide) (by decide) (by decide) (by decide) rfl)
              by_cases hc17 : (cs.getD (i + 3) 0) = (ds.getD (k + 3) 0)
              · replace R := R.icmpY (pc' := 117) d18_112 (teq hc17).1 (by decide) rfl
                replace R := R.iconst (pc' := 118) (z := (1 : Int32)) d18_117 rfl rfl
                have hn : j - i = l - k := own_nat (by omega) (by omega) hc1
                have hv : seg cs i j = seg ds k l := seg_eq h1 h2 h3 h4 hn (fun t ht => by
                  have ht4 : t = 0 ∨ t = 1 ∨ t = 2 ∨ t = 3 := by omega
                  rcases ht4 with rfl | rfl | rfl | rfl
                  · exact hc3
                  · exact absurd (own_lt (i := 1) (by omega) ht) hc4
                  · exact absurd (own_lt (i := 2) (by omega) ht) hc12
                  · exact hc17)
                exact R.retN (Ds' := Ds) hret (by simp) (show nar .boolean (1 : Int32) = bi (decide (seg cs i j = seg ds k l)) by rw [decide_eq_true hv]; rfl) d18_118 (by decide) (by decide) (fun _ q => q) ⟨rfl, rfl, rfl⟩
              · replace R := R.icmpN (pc' := 115) d18_112 (feq hc17).1 rfl
                replace R := R.iconst (pc' := 116) (z := (0 : Int32)) d18_115 rfl rfl
                have hn : j - i = l - k := own_nat (by omega) (by omega) hc1
                have hv : ¬ seg cs i j = seg ds k l := seg_ne (t := 3) h2 h4 hn (own_ltI (k := 3) (by omega) (by omega) hc16) hc17
                exact R.retN (Ds' := Ds) hret (by simp) (show nar .boolean (0 : Int32) = bi (decide (seg cs i j = seg ds k l)) by rw [decide_eq_false hv]; rfl) d18_116 (by decide) (by decide) (fun _ q => q) ⟨rfl, rfl, rfl⟩
            · replace R := R.icmpY (pc' := 117) d18_94 (flt hc16).2.1 (by decide) rfl
              replace R := R.iconst (pc' := 118) (z := (1 : Int32)) d18_117 rfl rfl
              have hn : j - i = l - k := own_nat (by omega) (by omega) hc1
              have hv : seg cs i j = seg ds k l := seg_eq h1 h2 h3 h4 hn (fun t ht => by
                have ht4 : t = 0 ∨ t = 1 ∨ t = 2 ∨ t = 3 := by omega
                rcases ht4 with rfl | rfl | rfl | rfl
                · exact hc3
                · exact absurd (own_lt (i := 1) (by omega) ht) hc4
                · exact absurd (own_lt (i := 2) (by omega) ht) hc12
                · exact absurd (own_lt (i := 3) (by omega) ht) hc16)
              exact R.retN (Ds' := Ds) hret (by simp) (show nar .boolean (1 : Int32) = bi (decide (seg cs i j = seg ds k l)) by rw [decide_eq_true hv]; rfl) d18_118 (by decide) (by decide) (fun _ q => q) ⟨rfl, rfl, rfl⟩
      · replace R := R.icmpN (pc' := 37) d18_34 (feq hc3).1 rfl
        replace R := R.iconst (pc' := 38) (z := (0 : Int32)) d18_37 rfl rfl
        have hn : j - i = l - k := own_nat (by omega) (by omega) hc1
        have hv : ¬ seg cs i j = seg ds k l := seg_ne (t := 0) h2 h4 hn (own_ltI (k := 0) (by omega) (by omega) hc2) hc3
        exact R.retN (Ds' := Ds) hret (by simp) (show nar .boolean (0 : Int32) = bi (decide (seg cs i j = seg ds k l)) by rw [decide_eq_false hv]; rfl) d18_38 (by decide) (by decide) (fun _ q => q) ⟨rfl, rfl, rfl⟩
    · replace R := R.icmpY (pc' := 39) d18_20 (flt hc2).2.1 (by decide) rfl
      replace R := (R.iconst (pc' := 40) (z := (1 : Int32)) d18_39 rfl rfl).iload (pc' := 42) d18_40 rfl rfl
      by_cases hc18 : (1 : Int32) < (Int32.ofNat (j - i))
      · replace R := R.icmpN (pc' := 45) d18_42 (tlt hc18).2.1 rfl
        replace R := (((R.aloadN (pc' := 46) (v := (.ref a)) d18_45 rfl rfl rfl).iloadN (pc' := 47) d18_46 rfl rfl).iconst (pc' := 48) (z := (1 : Int32)) d18_47 rfl rfl).iadd (pc' := 49) d18_48 rfl
        replace R := own_pure (R.callV (pc' := 52) (y := (⟨"java/lang/String", "charAt", "(I)C"⟩ : MethodName)) (z := (⟨"java/lang/String", "charAt", "(I)C"⟩ : MethodName)) (argsL := [(.int ((Int32.ofNat i) + (1 : Int32)))]) (rest := []) (W := 0) (w134 hw) (w99 hw) (fun s' hZ' => notFace_of_selects (args := #[]) (mvT hZ' (w101 hw))) (w101 hw) (w100 hw) (w7 hw) (w102 hw) (by decide) S_a.1 (rm_charAt C.l Z a0 hw a ((Int32.ofNat i) + (1 : Int32)) h n0 Ds own_cs own_si (k := (i + 1)) (own_addc (c := 1) (by have q := own_ltI (k := 1) (by omega) (by omega) hc18; omega)) (by have q := own_ltI (k := 1) (by omega) (by omega) hc18; omega) S_a) rfl (lenOf pd15 rfl) rfl rfl d18_49 (by decide) (by decide) (by decide) (by decide) rfl)
        replace R := (((R.aloadN (pc' := 53) (v := (.ref b)) d18_52 rfl rfl rfl).iload (pc' := 55) d18_53 rfl rfl).iconst (pc' := 56) (z := (1 : Int32)) d18_55 rfl rfl).iadd (pc' := 57) d18_56 rfl
        replace R := own_pure (R.callV (pc' := 60) (y := (⟨"java/lang/String", "charAt", "(I)C"⟩ : MethodName)) (z := (⟨"java/lang/String", "charAt", "(I)C"⟩ : MethodName)) (argsL := [(.int ((Int32.ofNat k) + (1 : Int32)))]) (rest := [(.int (cs.getD (i + 1) 0))]) (W := 1) (w134 hw) (w99 hw) (fun s' hZ' => notFace_of_selects (args := #[]) (mvT hZ' (w101 hw))) (w101 hw) (w100 hw) (w7 hw) (w102 hw) (by decide) S_b.1 (rm_charAt C.l Z a0 hw b ((Int32.ofNat k) + (1 : Int32)) h n0 Ds own_cs own_si (k := (k + 1)) (own_addc (c := 1) (by have q := own_ltI (k := 1) (by omega) (by omega) hc18; have hn := own_nat (i := j - i) (j := l - k) (by omega) (by omega) hc1; omega)) (by have q := own_ltI (k := 1) (by omega) (by omega) hc18; have hn := own_nat (i := j - i) (j := l - k) (by omega) (by omega) hc1; omega) S_b) rfl (lenOf pd15 rfl) rfl rfl d18_57 (by decide) (by decide) (by decide) (by decide) rfl)
        by_cases hc19 : (cs.getD (i + 1) 0) = (ds.getD (k + 1) 0)
        · replace R := R.icmpY (pc' := 65) d18_60 (teq hc19).1 (by decide) rfl
          replace R := (R.iconst (pc' := 66) (z := (2 : Int32)) d18_65 rfl rfl).iload (pc' := 68) d18_66 rfl rfl
          by_cases hc20 : (2 : Int32) < (Int32.ofNat (j - i))
          · replace R := R.icmpN (pc' := 71) d18_68 (tlt hc20).2.1 rfl
            replace R := (((R.aloadN (pc' := 72) (v := (.ref a)) d18_71 rfl rfl rfl).iloadN (pc' := 73) d18_72 rfl rfl).iconst (pc' := 74) (z := (2 : Int32)) d18_73 rfl rfl).iadd (pc' := 75) d18_74 rfl
            replace R := own_pure (R.callV (pc' := 78) (y := (⟨"java/lang/String", "charAt", "(I)C"⟩ : MethodName)) (z := (⟨"java/lang/String", "charAt", "(I)C"⟩ : MethodName)) (argsL := [(.int ((Int32.ofNat i) + (2 : Int32)))]) (rest := []) (W := 0) (w134 hw) (w99 hw) (fun s' hZ' => notFace_of_selects (args := #[]) (mvT hZ' (w101 hw))) (w101 hw) (w100 hw) (w7 hw) (w102 hw) (by decide) S_a.1 (rm_charAt C.l Z a0 hw a ((Int32.ofNat i) + (2 : Int32)) h n0 Ds own_cs own_si (k := (i + 2)) (own_addc (c := 2) (by have q := own_ltI (k := 2) (by omega) (by omega) hc20; omega)) (by have q := own_ltI (k := 2) (by omega) (by omega) hc20; omega) S_a) rfl (lenOf pd15 rfl) rfl rfl d18_75 (by decide) (by decide) (by decide) (by decide) rfl)
            replace R := (((R.aloadN (pc' := 79) (v := (.ref b)) d18_78 rfl rfl rfl).iload (pc' := 81) d18_79 rfl rfl).iconst (pc' := 82) (z := (2 : Int32)) d18_81 rfl rfl).iadd (pc' := 83) d18_82 rfl
            replace R := own_pure (R.callV (pc' := 86) (y := (⟨"java/lang/String", "charAt", "(I)C"⟩ : MethodName)) (z := (⟨"java/lang/String", "charAt", "(I)C"⟩ : MethodName)) (argsL := [(.int ((Int32.ofNat k) + (2 : Int32)))]) (rest := [(.int (cs.getD (i + 2) 0))]) (W := 1) (w134 hw) (w99 hw) (fun s' hZ' => notFace_of_selects (args := #[]) (mvT hZ' (w101 hw))) (w101 hw) (w100 hw) (w7 hw) (w102 hw) (by decide) S_b.1 (rm_charAt C.l Z a0 hw b ((Int32.ofNat k) + (2 : Int32)) h n0 Ds own_cs own_si (k := (k + 2)) (own_addc (c := 2) (by have q := own_ltI (k := 2) (by omega) (by omega) hc20; have hn := own_nat (i := j - i) (j := l - k) (by omega) (by omega) hc1; omega)) (by have q := own_ltI (k := 2) (by omega) (by omega) hc20; have hn := own_nat (i := j - i) (j := l - k) (by omega) (by omega) hc1; omega) S_b) rfl (lenOf pd15 rfl) rfl rfl d18_83 (by decide) (by decide) (by decide) (by decide) rfl)
            by_cases hc21 : (cs.getD (i + 2) 0) = (ds.getD (k + 2) 0)
            · replace R := R.icmpY (pc' := 91) d18_86 (teq hc21).1 (by decide) rfl
              replace R := (R.iconst (pc' := 92) (z := (3 : Int32)) d18_91 rfl rfl).iload (pc' := 94) d18_92 rfl rfl
              by_cases hc22 : (3 : Int32) < (Int32.ofNat (j - i))
              · replace R := R.icmpN (pc' := 97) d18_94 (tlt hc22).2.1 rfl
                replace R := (((R.aloadN (pc' := 98) (v := (.ref a)) d18_97 rfl rfl rfl).iloadN (pc' := 99) d18_98 rfl rfl).iconst (pc' := 100) (z := (3 : Int32)) d18_99 rfl rfl).iadd (pc' := 101) d18_100 rfl
                replace R := own_pure (R.callV (pc' := 104) (y := (⟨"java/lang/String", "charAt", "(I)C"⟩ : MethodName)) (z := (⟨"java/lang/String", "charAt", "(I)C"⟩ : MethodName)) (argsL := [(.int ((Int32.ofNat i) + (3 : Int32)))]) (rest := []) (W := 0) (w134 hw) (w99 hw) (fun s' hZ' => notFace_of_selects (args := #[]) (mvT hZ' (w101 hw))) (w101 hw) (w100 hw) (w7 hw) (w102 hw) (by decide) S_a.1 (rm_charAt C.l Z a0 hw a ((Int32.ofNat i) + (3 : Int32)) h n0 Ds own_cs own_si (k := (i + 3)) (own_addc (c := 3) (by have q := own_ltI (k := 3) (by omega) (by omega) hc22; omega)) (by have q := own_ltI (k := 3) (by omega) (by omega) hc22; omega) S_a) rfl (lenOf pd15 rfl) rfl rfl d18_101 (by decide) (by decide) (by decide) (by decide) rfl)
                replace R := (((R.aloadN (pc' := 105) (v := (.ref b)) d18_104 rfl rfl rfl).iload (pc' := 107) d18_105 rfl rfl).iconst (pc' := 108) (z := (3 : Int32)) d18_107 rfl rfl).iadd (pc' := 109) d18_108 rfl
                replace R := own_pure (R.callV (pc' := 112) (y := (⟨"java/lang/String", "charAt", "(I)C"⟩ : MethodName)) (z := (⟨"java/lang/String", "charAt", "(I)C"⟩ : MethodName)) (argsL := [(.int ((Int32.ofNat k) + (3 : Int32)))]) (rest := [(.int (cs.getD (i + 3) 0))]) (W := 1) (w134 hw) (w99 hw) (fun s' hZ' => notFace_of_selects (args := #[]) (mvT hZ' (w101 hw))) (w101 hw) (w100 hw) (w7 hw) (w102 hw) (by decide) S_b.1 (rm_charAt C.l Z a0 hw b ((Int32.ofNat k) + (3 : Int32)) h n0 Ds own_cs own_si (k := (k + 3)) (own_addc (c := 3) (by have q := own_ltI (k := 3) (by omega) (by omega) hc22; have hn := own_nat (i := j - i) (j := l - k) (by omega) (by omega) hc1; omega)) (by have q := own_ltI (k := 3) (by omega) (by omega) hc22; have hn := own_nat (i := j - i) (j := l - k) (by omega) (by omega) hc1; omega) S_b) rfl (lenOf pd15 rfl) rfl rfl d18_109 (by decide) (by decide) (by decide) (by decide) rfl)
                by_cases hc23 : (cs.getD (i + 3) 0) = (ds.getD (k + 3) 0)
                · replace R := R.icmpY (pc' := 117) d18_112 (teq hc23).1 (by decide) rfl
                  replace R := R.iconst (pc' := 118) (z := (1 : Int32)) d18_117 rfl rfl
                  have hn : j - i = l - k := own_nat (by omega) (by omega) hc1
                  have hv : seg cs i j = seg ds k l := seg_eq h1 h2 h3 h4 hn (fun t ht => by
                    have ht4 : t = 0 ∨ t = 1 ∨ t = 2 ∨ t = 3 := by omega
                    rcases ht4 with rfl | rfl | rfl | rfl
                    · exact absurd (own_lt (i := 0) (by omega) ht) hc2
                    · exact hc19
                    · exact hc21
                    · exact hc23)
                  exact R.retN (Ds' := Ds) hret (by simp) (show nar .boolean (1 : Int32) = bi (decide (seg cs i j = seg ds k l)) by rw [decide_eq_true hv]; rfl) d18_118 (by decide) (by decide) (fun _ q => q) ⟨rfl, rfl, rfl⟩
                · replace R := R.icmpN (pc' := 115) d18_112 (feq hc23).1 rfl
                  replace R := R.iconst (pc' := 116) (z := (0 : Int32)) d18_115 rfl rfl
                  have hn : j - i = l - k := own_nat (by omega) (by omega) hc1
                  have hv : ¬ seg cs i j = seg ds k l := seg_ne (t := 3) h2 h4 hn (own_ltI (k := 3) (by omega) (by omega) hc22) hc23
                  exact R.retN (Ds' := Ds) hret (by simp) (show nar .boolean (0 : Int32) = bi (decide (seg cs i j = seg ds k l)) by rw [decide_eq_false hv]; rfl) d18_116 (by decide) (by decide) (fun _ q => q) ⟨rfl, rfl, rfl⟩
              · replace R := R.icmpY (pc' := 117) d18_94 (flt hc22).2.1 (by decide) rfl
                replace R := R.iconst (pc' := 118) (z := (1 : Int32)) d18_117 rfl rfl
                have hn : j - i = l - k := own_nat (by omega) (by omega) hc1
                have hv : seg cs i j = seg ds k l := seg_eq h1 h2 h3 h4 hn (fun t ht => by
                  have ht4 : t = 0 ∨ t = 1 ∨ t = 2 ∨ t = 3 := by omega
                  rcases ht4 with rfl | rfl | rfl | rfl
                  · exact absurd (own_lt (i := 0) (by omega) ht) hc2
                  · exact hc19
                  · exact hc21
                  · exact absurd (own_lt (i := 3) (by omega) ht) hc22)
                exact R.retN (Ds' := Ds) hret (by simp) (show nar .boolean (1 : Int32) = bi (decide (seg cs i j = seg ds k l)) by rw [decide_eq_true hv]; rfl) d18_118 (by decide) (by decide) (fun _ q => q) ⟨rfl, rfl, rfl⟩
            · replace R := R.icmpN (pc' := 89) d18_86 (feq hc21).1 rfl
              replace R := R.iconst (pc' := 90) (z := (0 : Int32)) d18_89 rfl rfl
              have hn : j - i = l - k := own_nat (by omega) (by omega) hc1
              have hv : ¬ seg cs i j = seg ds k l := seg_ne (t := 2) h2 h4 hn (own_ltI (k := 2) (by omega) (by omega) hc20) hc21
              exact R.retN (Ds' := Ds) hret (by simp) (show nar .boolean (0 : Int32) = bi (decide (seg cs i j = seg ds k l)) by rw [decide_eq_false hv]; rfl) d18_90 (by decide) (by decide) (fun _ q => q) ⟨rfl, rfl, rfl⟩
          · replace R := R.icmpY (pc' := 91) d18_68 (flt hc20).2.1 (by decide) rfl
            replace R := (R.iconst (pc' := 92) (z := (3 : Int32)) d18_91 rfl rfl).iload (pc' := 94) d18_92 rfl rfl
            by_cases hc24 : (3 : Int32) < (Int32.ofNat (j - i))
            · replace R := R.icmpN (pc' := 97) d18_94 (tlt hc24).2.1 rfl
              replace R := (((R.aloadN (pc' := 98) (v := (.ref a)) d18_97 rfl rfl rfl).iloadN (pc' := 99) d18_98 rfl rfl).iconst (pc' := 100) (z := (3 : Int32)) d18_99 rfl rfl).iadd (pc' := 101) d18_100 rfl
              replace R := own_pure (R.callV (pc' := 104) (y := (⟨"java/lang/String", "charAt", "(I)C"⟩ : MethodName)) (z := (⟨"java/lang/String", "charAt", "(I)C"⟩ : MethodName)) (argsL := [(.int ((Int32.ofNat i) + (3 : Int32)))]) (rest := []) (W := 0) (w134 hw) (w99 hw) (fun s' hZ' => notFace_of_selects (args := #[]) (mvT hZ' (w101 hw))) (w101 hw) (w100 hw) (w7 hw) (w102 hw) (by decide) S_a.1 (rm_charAt C.l Z a0 hw a ((Int32.ofNat i) + (3 : Int32)) h n0 Ds own_cs own_si (k := (i + 3)) (own_addc (c := 3) (by have q := own_ltI (k := 3) (by omega) (by omega) hc24; omega)) (by have q := own_ltI (k := 3) (by omega) (by omega) hc24; omega) S_a) rfl (lenOf pd15 rfl) rfl rfl d18_101 (by decide) (by decide) (by decide) (by decide) rfl)
              replace R := (((R.aloadN (pc' := 105) (v := (.ref b)) d18_104 rfl rfl rfl).iload (pc' := 107) d18_105 rfl rfl).iconst (pc' := 108) (z := (3 : Int32)) d18_107 rfl rfl).iadd (pc' := 109) d18_108 rfl
              replace R := own_pure (R.callV (pc' := 112) (y := (⟨"java/lang/String", "charAt", "(I)C"⟩ : MethodName)) (z := (⟨"java/lang/String", "charAt", "(I)C"⟩ : MethodName)) (argsL := [(.int ((Int32.ofNat k) + (3 : Int32)))]) (rest := [(.int (cs.getD (i + 3) 0))]) (W := 1) (w134 hw) (w99 hw) (fun s' hZ' => notFace_of_selects (args := #[]) (mvT hZ' (w101 hw))) (w101 hw) (w100 hw) (w7 hw) (w102 hw) (by decide) S_b.1 (rm_charAt C.l Z a0 hw b ((Int32.ofNat k) + (3 : Int32)) h n0 Ds own_cs own_si (k := (k + 3)) (own_addc (c := 3) (by have q := own_ltI (k := 3) (by omega) (by omega) hc24; have hn := own_nat (i := j - i) (j := l - k) (by omega) (by omega) hc1; omega)) (by have q := own_ltI (k := 3) (by omega) (by omega) hc24; have hn := own_nat (i := j - i) (j := l - k) (by omega) (by omega) hc1; omega) S_b) rfl (lenOf pd15 rfl) rfl rfl d18_109 (by decide) (by decide) (by decide) (by decide) rfl)
              by_cases hc25 : (cs.getD (i + 3) 0) = (ds.getD (k + 3) 0)
              · replace R := R.icmpY (pc' := 117) d18_112 (teq hc25).1 (by decide) rfl
                replace R := R.iconst (pc' := 118) (z := (1 : Int32)) d18_117 rfl rfl
                have hn : j - i = l - k := own_nat (by omega) (by omega) hc1
                have hv : seg cs i j = seg ds k l := seg_eq h1 h2 h3 h4 hn (fun t ht => by
                  have ht4 : t = 0 ∨ t = 1 ∨ t = 2 ∨ t = 3 := by omega
                  rcases ht4 with rfl | rfl | rfl | rfl
                  · exact absurd (own_lt (i := 0) (by omega) ht) hc2
                  · exact hc19
                  · exact absurd (own_lt (i := 2) (by omega) ht) hc20
                  · exact hc25)
                exact R.retN (Ds' := Ds) hret (by simp) (show nar .boolean (1 : Int32) = bi (decide (seg cs i j = seg ds k l)) by rw [decide_eq_true hv]; rfl) d18_118 (by decide) (by decide) (fun _ q => q) ⟨rfl, rfl, rfl⟩
              · replace R := R.icmpN (pc' := 115) d18_112 (feq hc25).1 rfl
                replace R := R.iconst (pc' := 116) (z := (0 : Int32)) d18_115 rfl rfl
                have hn : j - i = l - k := own_nat (by omega) (by omega) hc1
                have hv : ¬ seg cs i j = seg ds k l := seg_ne (t := 3) h2 h4 hn (own_ltI (k := 3) (by omega) (by omega) hc24) hc25
                exact R.retN (Ds' := Ds) hret (by simp) (show nar .boolean (0 : Int32) = bi (decide (seg cs i j = seg ds k l)) by rw [decide_eq_false hv]; rfl) d18_116 (by decide) (by decide) (fun _ q => q) ⟨rfl, rfl, rfl⟩
            · replace R := R.icmpY (pc' := 117) d18_94 (flt hc24).2.1 (by decide) rfl
              replace R := R.iconst (pc' := 118) (z := (1 : Int32)) d18_117 rfl rfl
              have hn : j - i = l - k := own_nat (by omega) (by omega) hc1
              have hv : seg cs i j = seg ds k l := seg_eq h1 h2 h3 h4 hn (fun t ht => by
                have ht4 : t = 0 ∨ t = 1 ∨ t = 2 ∨ t = 3 := by omega
                rcases ht4 with rfl | rfl | rfl | rfl
                · exact absurd (own_lt (i := 0) (by omega) ht) hc2
                · exact hc19
                · exact absurd (own_lt (i := 2) (by omega) ht) hc20
                · exact absurd (own_lt (i := 3) (by omega) ht) hc24)
              exact R.retN (Ds' := Ds) hret (by simp) (show nar .boolean (1 : Int32) = bi (decide (seg cs i j = seg ds k l)) by rw [decide_eq_true hv]; rfl) d18_118 (by decide) (by decide) (fun _ q => q) ⟨rfl, rfl, rfl⟩
        · replace R := R.icmpN (pc' := 63) d18_60 (feq hc19).1 rfl
          replace R := R.iconst (pc' := 64) (z := (0 : Int32)) d18_63 rfl rfl
          have hn : j - i = l - k := own_nat (by omega) (by omega) hc1
          have hv : ¬ seg cs i j = seg ds k l := seg_ne (t := 1) h2 h4 hn (own_ltI (k := 1) (by omega) (by omega) hc18) hc19
          exact R.retN (Ds' := Ds) hret (by simp) (show nar .boolean (0 : Int32) = bi (decide (seg cs i j = seg ds k l)) by rw [decide_eq_false hv]; rfl) d18_64 (by decide) (by decide) (fun _ q => q) ⟨rfl, rfl, rfl⟩
      · replace R := R.icmpY (pc' := 65) d18_42 (flt hc18).2.1 (by decide) rfl
        replace R := (R.iconst (pc' := 66) (z := (2 : Int32)) d18_65 rfl rfl).iload (pc' := 68) d18_66 rfl rfl
        by_cases hc26 : (2 : Int32) < (Int32.ofNat (j - i))
        · replace R := R.icmpN (pc' := 71) d18_68 (tlt hc26).2.1 rfl
          replace R := (((R.aloadN (pc' := 72) (v := (.ref a)) d18_71 rfl rfl rfl).iloadN (pc' := 73) d18_72 rfl rfl).iconst (pc' := 74) (z := (2 : Int32)) d18_73 rfl rfl).iadd (pc' := 75) d18_74 rfl
          replace R := own_pure (R.callV (pc' := 78) (y := (⟨"java/lang/String", "charAt", "(I)C"⟩ : MethodName)) (z := (⟨"java/lang/String", "charAt", "(I)C"⟩ : MethodName)) (argsL := [(.int ((Int32.ofNat i) + (2 : Int32)))]) (rest := []) (W := 0) (w134 hw) (w99 hw) (fun s' hZ' => notFace_of_selects (args := #[]) (mvT hZ' (w101 hw))) (w101 hw) (w100 hw) (w7 hw) (w102 hw) (by decide) S_a.1 (rm_charAt C.l Z a0 hw a ((Int32.ofNat i) + (2 : Int32)) h n0 Ds own_cs own_si (k := (i + 2)) (own_addc (c := 2) (by have q := own_ltI (k := 2) (by omega) (by omega) hc26; omega)) (by have q := own_ltI (k := 2) (by omega) (by omega) hc26; omega) S_a) rfl (lenOf pd15 rfl) rfl rfl d18_75 (by decide) (by decide) (by decide) (by decide) rfl)
          replace R := (((R.aloadN (pc' := 79) (v := (.ref b)) d18_78 rfl rfl rfl).iload (pc' := 81) d18_79 rfl rfl).iconst (pc' := 82) (z := (2 : Int32)) d18_81 rfl rfl).iadd (pc' := 83) d18_82 rfl
          replace R := own_pure (R.callV (pc' := 86) (y := (⟨"java/lang/String", "charAt", "(I)C"⟩ : MethodName)) (z := (⟨"java/lang/String", "charAt", "(I)C"⟩ : MethodName)) (argsL := [(.int ((Int32.ofNat k) + (2 : Int32)))]) (rest := [(.int (cs.getD (i + 2) 0))]) (W := 1) (w134 hw) (w99 hw) (fun s' hZ' => notFace_of_selects (args := #[]) (mvT hZ' (w101 hw))) (w101 hw) (w100 hw) (w7 hw) (w102 hw) (by decide) S_b.1 (rm_charAt C.l Z a0 hw b ((Int32.ofNat k) + (2 : Int32)) h n0 Ds own_cs own_si (k := (k + 2)) (own_addc (c := 2) (by have q := own_ltI (k := 2) (by omega) (by omega) hc26; have hn := own_nat (i := j - i) (j := l - k) (by omega) (by omega) hc1; omega)) (by have q := own_ltI (k := 2) (by omega) (by omega) hc26; have hn := own_nat (i := j - i) (j := l - k) (by omega) (by omega) hc1; omega) S_b) rfl (lenOf pd15 rfl) rfl rfl d18_83 (by decide) (by decide) (by decide) (by decide) rfl)
          by_cases hc27 : (cs.getD (i + 2) 0) = (ds.getD (k + 2) 0)
          · replace R := R.icmpY (pc' := 91) d18_86 (teq hc27).1 (by decide) rfl
            replace R := (R.iconst (pc' := 92) (z := (3 : Int32)) d18_91 rfl rfl).iload (pc' := 94) d18_92 rfl rfl
            by_cases hc28 : (3 : Int32) < (Int32.ofNat (j - i))
            · replace R := R.icmpN (pc' := 97) d18_94 (tlt hc28).2.1 rfl
              replace R := (((R.aloadN (pc' := 98) (v := (.ref a)) d18_97 rfl rfl rfl).iloadN (pc' := 99) d18_98 rfl rfl).iconst (pc' := 100) (z := (3 : Int32)) d18_99 rfl rfl).iadd (pc' := 101) d18_100 rfl
              replace R := own_pure (R.callV (pc' := 104) (y := (⟨"java/lang/String", "charAt", "(I)C"⟩ : MethodName)) (z := (⟨"java/lang/String", "charAt", "(I)C"⟩ : MethodName)) (argsL := [(.int ((Int32.ofNat i) + (3 : Int32)))]) (rest := []) (W := 0) (w134 hw) (w99 hw) (fun s' hZ' => notFace_of_selects (args := #[]) (mvT hZ' (w101 hw))) (w101 hw) (w100 hw) (w7 hw) (w102 hw) (by decide) S_a.1 (rm_charAt C.l Z a0 hw a ((Int32.ofNat i) + (3 : Int32)) h n0 Ds own_cs own_si (k := (i + 3)) (own_addc (c := 3) (by have q := own_ltI (k := 3) (by omega) (by omega) hc28; omega)) (by have q := own_ltI (k := 3) (by omega) (by omega) hc28; omega) S_a) rfl (lenOf pd15 rfl) rfl rfl d18_101 (by decide) (by decide) (by decide) (by decide) rfl)
              replace R := (((R.aloadN (pc' := 105) (v := (.ref b)) d18_104 rfl rfl rfl).iload (pc' := 107) d18_105 rfl rfl).iconst (pc' := 108) (z := (3 : Int32)) d18_107 rfl rfl).iadd (pc' := 109) d18_108 rfl
              replace R := own_pure (R.callV (pc' := 112) (y := (⟨"java/lang/String", "charAt", "(I)C"⟩ : MethodName)) (z := (⟨"java/lang/String", "charAt", "(I)C"⟩ : MethodName)) (argsL := [(.int ((Int32.ofNat k) + (3 : Int32)))]) (rest := [(.int (cs.getD (i + 3) 0))]) (W := 1) (w134 hw) (w99 hw) (fun s' hZ' => notFace_of_selects (args := #[]) (mvT hZ' (w101 hw))) (w101 hw) (w100 hw) (w7 hw) (w102 hw) (by decide) S_b.1 (rm_charAt C.l Z a0 hw b ((Int32.ofNat k) + (3 : Int32)) h n0 Ds own_cs own_si (k := (k + 3)) (own_addc (c := 3) (by have q := own_ltI (k := 3) (by omega) (by omega) hc28; have hn := own_nat (i := j - i) (j := l - k) (by omega) (by omega) hc1; omega)) (by have q := own_ltI (k := 3) (by omega) (by omega) hc28; have hn := own_nat (i := j - i) (j := l - k) (by omega) (by omega) hc1; omega) S_b) rfl (lenOf pd15 rfl) rfl rfl d18_109 (by decide) (by decide) (by decide) (by decide) rfl)
              by_cases hc29 : (cs.getD (i + 3) 0) = (ds.getD (k + 3) 0)
              · replace R := R.icmpY (pc' := 117) d18_112 (teq hc29).1 (by decide) rfl
                replace R := R.iconst (pc' := 118) (z := (1 : Int32)) d18_117 rfl rfl
                have hn : j - i = l - k := own_nat (by omega) (by omega) hc1
                have hv : seg cs i j = seg ds k l := seg_eq h1 h2 h3 h4 hn (fun t ht => by
                  have ht4 : t = 0 ∨ t = 1 ∨ t = 2 ∨ t = 3 := by omega
                  rcases ht4 with rfl | rfl | rfl | rfl
                  · exact absurd (own_lt (i := 0) (by omega) ht) hc2
                  · exact absurd (own_lt (i := 1) (by omega) ht) hc18
                  · exact hc27
                  · exact hc29)
                exact R.retN (Ds' := Ds) hret (by simp) (show nar .boolean (1 : Int32) = bi (decide (seg cs i j = seg ds k l)) by rw [decide_eq_true hv]; rfl) d18_118 (by decide) (by decide) (fun _ q => q) ⟨rfl, rfl, rfl⟩
              · replace R := R.icmpN (pc' := 115) d18_112 (feq hc29).1 rfl
                replace R := R.iconst (pc' := 116) (z := (0 : Int32)) d18_115 rfl rfl
                have hn : j - i = l - k := own_nat (by omega) (by omega) hc1
                have hv : ¬ seg cs i j = seg ds k l := seg_ne (t := 3) h2 h4 hn (own_ltI (k := 3) (by omega) (by omega) hc28) hc29
                exact R.retN (Ds' := Ds) hret (by simp) (show nar .boolean (0 : Int32) = bi (decide (seg cs i j = seg ds k l)) by rw [decide_eq_false hv]; rfl) d18_116 (by decide) (by decide) (fun _ q => q) ⟨rfl, rfl, rfl⟩
            · replace R := R.icmpY (pc' := 117) d18_94 (flt hc28).2.1 (by decide) rfl
              replace R := R.iconst (pc' := 118) (z := (1 : Int32)) d18_117 rfl rfl
              have hn : j - i = l - k := own_nat (by omega) (by omega) hc1
              have hv : seg cs i j = seg ds k l := seg_eq h1 h2 h3 h4 hn (fun t ht => by
                have ht4 : t = 0 ∨ t = 1 ∨ t = 2 ∨ t = 3 := by omega
                rcases ht4 with rfl | rfl | rfl | rfl
                · exact absurd (own_lt (i := 0) (by omega) ht) hc2
                · exact absurd (own_lt (i := 1) (by omega) ht) hc18
                · exact hc27
                · exact absurd (own_lt (i := 3) (by omega) ht) hc28)
              exact R.retN (Ds' := Ds) hret (by simp) (show nar .boolean (1 : Int32) = bi (decide (seg cs i j = seg ds k l)) by rw [decide_eq_true hv]; rfl) d18_118 (by decide) (by decide) (fun _ q => q) ⟨rfl, rfl, rfl⟩
          · replace R := R.icmpN (pc' := 89) d18_86 (feq hc27).1 rfl
            replace R := R.iconst (pc' := 90) (z := (0 : Int32)) d18_89 rfl rfl
            have hn : j - i = l - k := own_nat (by omega) (by omega) hc1
            have hv : ¬ seg cs i j = seg ds k l := seg_ne (t := 2) h2 h4 hn (own_ltI (k := 2) (by omega) (by omega) hc26) hc27
            exact R.retN (Ds' := Ds) hret (by simp) (show nar .boolean (0 : Int32) = bi (decide (seg cs i j = seg ds k l)) by rw [decide_eq_false hv]; rfl) d18_90 (by decide) (by decide) (fun _ q => q) ⟨rfl, rfl, rfl⟩
        · replace R := R.icmpY (pc' := 91) d18_68 (flt hc26).2.1 (by decide) rfl
          replace R := (R.iconst (pc' := 92) (z := (3 : Int32)) d18_91 rfl rfl).iload (pc' := 94) d18_92 rfl rfl
          by_cases hc30 : (3 : Int32) < (Int32.ofNat (j - i))
          · replace R := R.icmpN (pc' := 97) d18_94 (tlt hc30).2.1 rfl
            replace R := (((R.aloadN (pc' := 98) (v := (.ref a)) d18_97 rfl rfl rfl).iloadN (pc' := 99) d18_98 rfl rfl).iconst (pc' := 100) (z := (3 : Int32)) d18_99 rfl rfl).iadd (pc' := 101) d18_100 rfl
            replace R := own_pure (R.callV (pc' := 104) (y := (⟨"java/lang/String", "charAt", "(I)C"⟩ : MethodName)) (z := (⟨"java/lang/String", "charAt", "(I)C"⟩ : MethodName)) (argsL := [(.int ((Int32.ofNat i) + (3 : Int32)))]) (rest := []) (W := 0) (w134 hw) (w99 hw) (fun s' hZ' => notFace_of_selects (args := #[]) (mvT hZ' (w101 hw))) (w101 hw) (w100 hw) (w7 hw) (w102 hw) (by decide) S_a.1 (rm_charAt C.l Z a0 hw a ((Int32.ofNat i) + (3 : Int32)) h n0 Ds own_cs own_si (k := (i + 3)) (own_addc (c := 3) (by have q := own_ltI (k := 3) (by omega) (by omega) hc30; omega)) (by have q := own_ltI (k := 3) (by omega) (by omega) hc30; omega) S_a) rfl (lenOf pd15 rfl) rfl rfl d18_101 (by decide) (by decide) (by decide) (by decide) rfl)
            replace R := (((R.aloadN (pc' := 105) (v := (.ref b)) d18_104 rfl rfl rfl).iload (pc' := 107) d18_105 rfl rfl).iconst (pc' := 108) (z := (3 : Int32)) d18_107 rfl rfl).iadd (pc' := 109) d18_108 rfl
            replace R := own_pure (R.callV (pc' := 112) (y := (⟨"java/lang/String", "charAt", "(I)C"⟩ : MethodName)) (z := (⟨"java/lang/String", "charAt", "(I)C"⟩ : MethodName)) (argsL := [(.int ((Int32.ofNat k) + (3 : Int32)))]) (rest := [(.int (cs.getD (i + 3) 0))]) (W := 1) (w134 hw) (w99 hw) (fun s' hZ' => notFace_of_selects (args := #[]) (mvT hZ' (w101 hw))) (w101 hw) (w100 hw) (w7 hw) (w102 hw) (by decide) S_b.1 (rm_charAt C.l Z a0 hw b ((Int32.ofNat k) + (3 : Int32)) h n0 Ds own_cs own_si (k := (k + 3)) (own_addc (c := 3) (by have q := own_ltI (k := 3) (by omega) (by omega) hc30; have hn := own_nat (i := j - i) (j := l - k) (by omega) (by omega) hc1; omega)) (by have q := own_ltI (k := 3) (by omega) (by omega) hc30; have hn := own_nat (i := j - i) (j := l - k) (by omega) (by omega) hc1; omega) S_b) rfl (lenOf pd15 rfl) rfl rfl d18_109 (by decide) (by decide) (by decide) (by decide) rfl)
            by_cases hc31 : (cs.getD (i + 3) 0) = (ds.getD (k + 3) 0)
            · replace R := R.icmpY (pc' := 117) d18_112 (teq hc31).1 (by decide) rfl
              replace R := R.iconst (pc' := 118) (z := (1 : Int32)) d18_117 rfl rfl
              have hn : j - i = l - k := own_nat (by omega) (by omega) hc1
              have hv : seg cs i j = seg ds k l := seg_eq h1 h2 h3 h4 hn (fun t ht => by
                have ht4 : t = 0 ∨ t = 1 ∨ t = 2 ∨ t = 3 := by omega
                rcases ht4 with rfl | rfl | rfl | rfl
                · exact absurd (own_lt (i := 0) (by omega) ht) hc2
                · exact absurd (own_lt (i := 1) (by omega) ht) hc18
                · exact absurd (own_lt (i := 2) (by omega) ht) hc26
                · exact hc31)
              exact R.retN (Ds' := Ds) hret (by simp) (show nar .boolean (1 : Int32) = bi (decide (seg cs i j = seg ds k l)) by rw [decide_eq_true hv]; rfl) d18_118 (by decide) (by decide) (fun _ q => q) ⟨rfl, rfl, rfl⟩
            · replace R := R.icmpN (pc' := 115) d18_112 (feq hc31).1 rfl
              replace R := R.iconst (pc' := 116) (z := (0 : Int32)) d18_115 rfl rfl
              have hn : j - i = l - k := own_nat (by omega) (by omega) hc1
              have hv : ¬ seg cs i j = seg ds k l := seg_ne (t := 3) h2 h4 hn (own_ltI (k := 3) (by omega) (by omega) hc30) hc31
              exact R.retN (Ds' := Ds) hret (by simp) (show nar .boolean (0 : Int32) = bi (decide (seg cs i j = seg ds k l)) by rw [decide_eq_false hv]; rfl) d18_116 (by decide) (by decide) (fun _ q => q) ⟨rfl, rfl, rfl⟩
          · replace R := R.icmpY (pc' := 117) d18_94 (flt hc30).2.1 (by decide) rfl
            replace R := R.iconst (pc' := 118) (z := (1 : Int32)) d18_117 rfl rfl
            have hn : j - i = l - k := own_nat (by omega) (by omega) hc1
            have hv : seg cs i j = seg ds k l := seg_eq h1 h2 h3 h4 hn (fun t ht => by
              have ht4 : t = 0 ∨ t = 1 ∨ t = 2 ∨ t = 3 := by omega
              rcases ht4 with rfl | rfl | rfl | rfl
              · exact absurd (own_lt (i := 0) (by omega) ht) hc2
              · exact absurd (own_lt (i := 1) (by omega) ht) hc18
              · exact absurd (own_lt (i := 2) (by omega) ht) hc26
              · exact absurd (own_lt (i := 3) (by omega) ht) hc30)
            exact R.retN (Ds' := Ds) hret (by simp) (show nar .boolean (1 : Int32) = bi (decide (seg cs i j = seg ds k l)) by rw [decide_eq_true hv]; rfl) d18_118 (by decide) (by decide) (fun _ q => q) ⟨rfl, rfl, rfl⟩
  · replace R := R.icmpN (pc' := 15) d18_12 (feq hc1).1 rfl
    replace R := R.iconst (pc' := 16) (z := (0 : Int32)) d18_15 rfl rfl
    have hv : ¬ seg cs i j = seg ds k l := seg_nl h1 h2 h3 h4 (fun q => hc1 (congrArg Int32.ofNat q))
    exact R.retN (Ds' := Ds) hret (by simp) (show nar .boolean (0 : Int32) = bi (decide (seg cs i j = seg ds k l)) by rw [decide_eq_false hv]; rfl) d18_16 (by decide) (by decide) (fun _ q => q) ⟨rfl, rfl, rfl⟩
theorem rm_ma (l : Launch) (Z : State) (a0 : Array Value) (hw : HW a0 Z) (a b : Addr) (h : Heap) (n0 : Nat) (Ds : List Addr) (own_cs : CompactOn Z) (own_si : SiooOk Z) {x0 x1 x2 x3 : Int32} {s e : Nat} (hse : s ≤ e) (he : e ≤ 4) (S_a : IsStr Z h a (seg [x0, x1, x2, x3] s e)) (S_b : IsStr Z h b [x0, x1, x2, x3]) :
    Ctr l Z (⟨"provento/files/FieldTextsOfPinLaw", "matches", "(Ljava/lang/String;Ljava/lang/String;II)Z"⟩ : MethodName) method_4_code 4 (some .boolean) [] (rmo 5 0 0 72) #[.ref a, .ref b, .int (Int32.ofNat s), .int (Int32.ofNat e)] h n0 Ds (fun v h' Ds' => v = some (.int (1 : Int32)) ∧ h = h' ∧ Ds = Ds') := by
  refine ctr_of (Ls := #[.val (.ref a), .val (.ref b), .val (.int (Int32.ofNat s)), .val (.int (Int32.ofNat e))]) (plainFor_of_name pn6) (fun m => by first | (simp [entryFrame, mkF, argsToLocals, Value.category]; done) | rfl) ?_
  intro C hl hret hnm R
  subst hl
  have hsl : (seg [x0, x1, x2, x3] s e).length = e - s := seg_len hse he
  replace R := ((((R.aloadN (pc' := 1) (v := (.ref a)) d19_0 rfl rfl rfl).ifnonnullY (pc' := 6) d19_1 (by decide) rfl).aloadN (pc' := 7) (v := (.ref a)) d19_6 rfl rfl rfl).iconst (pc' := 8) (z := (0 : Int32)) d19_7 rfl rfl).aloadN (pc' := 9) (v := (.ref a)) d19_8 rfl rfl rfl
  replace R := own_pure (R.callV (pc' := 12) (y := (⟨"java/lang/String", "length", "()I"⟩ : MethodName)) (z := (⟨"java/lang/String", "length", "()I"⟩ : MethodName)) (argsL := []) (rest := [(.int (0 : Int32)), (.ref a)]) (W := 2) (w97 hw) (w56 hw) (fun s' hZ' => notFace_of_selects (args := #[]) (mvT hZ' (w58 hw))) (w58 hw) (w57 hw) (w7 hw) (w59 hw) (by decide) S_a.1 (rm_length C.l Z a0 hw a h n0 Ds own_cs S_a) rfl (lenOf pd6 rfl) rfl rfl d19_9 (by decide) (by decide) (by decide) (by decide) rfl)
  replace R := ((R.aloadN (pc' := 13) (v := (.ref b)) d19_12 rfl rfl rfl).iloadN (pc' := 14) d19_13 rfl rfl).iloadN (pc' := 15) d19_14 rfl rfl
  replace R := own_pure (R.callS (pc' := 18) (argsL := [(.ref a), (.int (0 : Int32)), (.int (Int32.ofNat (seg [x0, x1, x2, x3] s e).length)), (.ref b), (.int (Int32.ofNat s)), (.int (Int32.ofNat e))]) (rest := []) (W := 0) (w91 hw) (w92 hw) (w2 hw) (w93 hw) (by decide) (rm_rg C.l Z a0 hw a b h n0 Ds own_cs own_si (cs := seg [x0, x1, x2, x3] s e) (ds := [x0, x1, x2, x3]) (i := 0) (j := (seg [x0, x1, x2, x3] s e).length) (k := s) (l := e) (Nat.zero_le _) (Nat.le_refl _) hse he (by omega) (by omega) (Nat.le_of_ble_eq_true rfl) S_a S_b) rfl (lenOf pd16 rfl) rfl rfl d19_15 (by decide) (by decide) (by decide) (by decide) rfl)
  have hv : bi (decide (seg (seg [x0, x1, x2, x3] s e) 0 (seg [x0, x1, x2, x3] s e).length = seg [x0, x1, x2, x3] s e)) = 1 := by rw [seg_all, decide_eq_true rfl]; rfl
  replace R := R.stk (congrArg (fun z => ([Value.int z] : List Value)) hv)
  exact R.retN (Ds' := Ds) hret (by simp) (show nar .boolean 1 = 1 from rfl) d19_18 (by decide) (by decide) (fun _ q => q) ⟨rfl, rfl, rfl⟩
def s_line (p0 : Int32) : List Int32 := ([(p0 &&& (255 : Int32)).toUInt32.toUInt16.toUInt32.toInt32, (((p0.toUInt32 >>> ((8 : Int32) &&& 31).toUInt32).toInt32) &&& (255 : Int32)).toUInt32.toUInt16.toUInt32.toInt32, (((p0.toUInt32 >>> ((16 : Int32) &&& 31).toUInt32).toInt32) &&& (255 : Int32)).toUInt32.toUInt16.toUInt32.toInt32, (((p0.toUInt32 >>> ((24 : Int32) &&& 31).toUInt32).toInt32) &&& (255 : Int32)).toUInt32.toUInt16.toUInt32.toInt32] : List Int32)
theorem rm_line (l : Launch) (Z : State) (a0 : Array Value) (hw : HW a0 Z) (p0 : Int32) (h : Heap) (n0 : Nat) (Ds : List Addr) (own_cs : CompactOn Z)  :
    Ctr l Z (⟨"provento/files/FieldTextsOfPinLaw", "line", "(I)Ljava/lang/String;"⟩ : MethodName) method_3_code 2 (some (.object "java/lang/String")) [] (rmo 4 3 12 66) #[(.int p0)] h n0 Ds (fun v h' Ds' => ∃ r : Addr, v = some (.ref r) ∧ IsStr Z h' r (s_line p0) ∧ Keep h h' [] ∧ r :: Ds = Ds') := by
  have own_hws : ∀ d ∈ StrChars.Road.words, d.before a0 Z = true := fun d hd => hw d ((by decide +kernel : ∀ d ∈ StrChars.Road.words, d ∈ tables_1) d hd)
  refine ctr_of (Ls := #[.val (.int p0), .unset]) (plainFor_of_name pn6) (fun m => by first | (simp [entryFrame, mkF, argsToLocals, Value.category]; done) | rfl) ?_
  intro C hl hret hnm R
  subst hl
  replace R := R.iconst (pc' := 1) (z := (4 : Int32)) d1_0 rfl rfl
  obtain ⟨h1, b1, k1, g1, E1, V1, R⟩ := R.newP (pc' := 3) (aty := .char) (cap := 4) (w4 hw) d1_1 (by decide) (by decide) (by decide) (by decide) (by decide) rfl
  have V1p : Arv Z h1 b1 k1 .char (4 : Int32) [(.int (0 : Int32)), (.int (0 : Int32)), (.int (0 : Int32)), (.int (0 : Int32))] (.int (0 : Int32)) := V1.pad (pad_rep [] (.int (0 : Int32)) 4)
  replace R := (((((R.astoreN (pc' := 4) (l' := #[.val (.int p0), .val (.ref b1)]) d1_3 rfl rfl rfl).aloadN (pc' := 5) (v := (.ref b1)) d1_4 rfl rfl rfl).iconst (pc' := 6) (z := (0 : Int32)) d1_5 rfl rfl).iloadN (pc' := 7) d1_6 rfl rfl).sipush (pc' := 10) (z := (255 : Int32)) d1_7 rfl rfl).iand (pc' := 11) d1_10 rfl
  replace R := R.i2c (pc' := 12) d1_11 rfl
  obtain ⟨h2, K2, V2, R⟩ := R.castore (pc' := 13) V1p ⟨by decide, by decide⟩ 0 rfl (Nat.le_of_ble_eq_true rfl) (List.mem_of_getElem? (i := 0) rfl) d1_12 rfl
  have V2p : Arv Z h2 b1 k1 .char (4 : Int32) [(.int (p0 &&& (255 : Int32)).toUInt32.toUInt16.toUInt32.toInt32), (.int (0 : Int32)), (.int (0 : Int32)), (.int (0 : Int32))] (.int (0 : Int32)) := by
    have q := V2
    rw [nar_i2c _] at q
    exact q
  replace R := (((((R.aloadN (pc' := 14) (v := (.ref b1)) d1_13 rfl rfl rfl).iconst (pc' := 15) (z := (1 : Int32)) d1_14 rfl rfl).iloadN (pc' := 16) d1_15 rfl rfl).bipush (pc' := 18) (z := (8 : Int32)) d1_16 rfl rfl).iushr (pc' := 19) d1_18 rfl).sipush (pc' := 22) (z := (255 : Int32)) d1_19 rfl rfl
  replace R := (R.iand (pc' := 23) d1_22 rfl).i2c (pc' := 24) d1_23 rfl
  obtain ⟨h3, K3, V3, R⟩ := R.castore (pc' := 25) V2p ⟨by decide, by decide⟩ 1 rfl (Nat.le_of_ble_eq_true rfl) (List.mem_of_getElem? (i := 0) rfl) d1_24 rfl
  have V3p : Arv Z h3 b1 k1 .char (4 : Int32) [(.int (p0 &&& (255 : Int32)).toUInt32.toUInt16.toUInt32.toInt32), (.int (((p0.toUInt32 >>> ((8 : Int32) &&& 31).toUInt32).toInt32) &&& (255 : Int32)).toUInt32.toUInt16.toUInt32.toInt32), (.int (0 : Int32)), (.int (0 : Int32))] (.int (0 : Int32)) := by
    have q := V3
    rw [nar_i2c _] at q
    exact q
  replace R := (((((R.aloadN (pc' := 26) (v := (.ref b1)) d1_25 rfl rfl rfl).iconst (pc' := 27) (z := (2 : Int32)) d1_26 rfl rfl).iloadN (pc' := 28) d1_27 rfl rfl).bipush (pc' := 30) (z := (16 : Int32)) d1_28 rfl rfl).iushr (pc' := 31) d1_30 rfl).sipush (pc' := 34) (z := (255 : Int32)) d1_31 rfl rfl
  replace R := (R.iand (pc' := 35) d1_34 rfl).i2c (pc' := 36) d1_35 rfl
  obtain ⟨h4, K4, V4, R⟩ := R.castore (pc' := 37) V3p ⟨by decide, by decide⟩ 2 rfl (Nat.le_of_ble_eq_true rfl) (List.mem_of_getElem? (i := 0) rfl) d1_36 rfl
  have V4p : Arv Z h4 b1 k1 .char (4 : Int32) [(.int (p0 &&& (255 : Int32)).toUInt32.toUInt16.toUInt32.toInt32), (.int (((p0.toUInt32 >>> ((8 : Int32) &&& 31).toUInt32).toInt32) &&& (255 : Int32)).toUInt32.toUInt16.toUInt32.toInt32), (.int (((p0.toUInt32 >>> ((16 : Int32) &&& 31).toUInt32).toInt32) &&& (255 : Int32)).toUInt32.toUInt16.toUInt32.toInt32), (.int (0 : Int32))] (.int (0 : Int32)) := by
    have q := V4
    rw [nar_i2c _] at q
    exact q
  replace R := (((((R.aloadN (pc' := 38) (v := (.ref b1)) d1_37 rfl rfl rfl).iconst (pc' := 39) (z := (3 : Int32)) d1_38 rfl rfl).iloadN (pc' := 40) d1_39 rfl rfl).bipush (pc' := 42) (z := (24 : Int32)) d1_40 rfl rfl).iushr (pc' := 43) d1_42 rfl).sipush (pc' := 46) (z := (255 : Int32)) d1_43 rfl rfl
  replace R := (R.iand (pc' := 47) d1_46 rfl).i2c (pc' := 48) d1_47 rfl
  obtain ⟨h5, K5, V5, R⟩ := R.castore (pc' := 49) V4p ⟨by decide, by decide⟩ 3 rfl (Nat.le_of_ble_eq_true rfl) (List.mem_of_getElem? (i := 0) rfl) d1_48 rfl
  have V5p : Arv Z h5 b1 k1 .char (4 : Int32) [(.int (p0 &&& (255 : Int32)).toUInt32.toUInt16.toUInt32.toInt32), (.int (((p0.toUInt32 >>> ((8 : Int32) &&& 31).toUInt32).toInt32) &&& (255 : Int32)).toUInt32.toUInt16.toUInt32.toInt32), (.int (((p0.toUInt32 >>> ((16 : Int32) &&& 31).toUInt32).toInt32) &&& (255 : Int32)).toUInt32.toUInt16.toUInt32.toInt32), (.int (((p0.toUInt32 >>> ((24 : Int32) &&& 31).toUInt32).toInt32) &&& (255 : Int32)).toUInt32.toUInt16.toUInt32.toInt32)] (.int (0 : Int32)) := by
    have q := V5
    rw [nar_i2c _] at q
    exact q
  obtain ⟨h6, b6, g6, E6, X6, D6, R⟩ := R.newO (pc' := 52) (w5 hw) (w6 hw) (w7 hw) d1_49 (by decide) (by decide) rfl
  have F6_coder : Fld Z h6 b6 "java/lang/String" "coder" "B" (.int (0 : Int32)) := D6 (Or.inr (w31 hw)) (ty := .byte) (by decide)
  have F6_value : Fld Z h6 b6 "java/lang/String" "value" "[B" .null := D6 (Or.inr (w33 hw)) (ty := (.array .byte)) (by decide)
  replace R := (R.dup (pc' := 53) d1_52 rfl rfl).aloadN (pc' := 54) (v := (.ref b1)) d1_53 rfl rfl rfl
  have K7 := ((Keep.refl h5 []).trans ((Keep.refl h5 []).ext E6) all0)
  have F8 := V5p.keep K7 nin0
  obtain ⟨h9, K9, S9, R⟩ := R.newStr (pc' := 57) (W := 1) (cs := [(p0 &&& (255 : Int32)).toUInt32.toUInt16.toUInt32.toInt32, (((p0.toUInt32 >>> ((8 : Int32) &&& 31).toUInt32).toInt32) &&& (255 : Int32)).toUInt32.toUInt16.toUInt32.toInt32, (((p0.toUInt32 >>> ((16 : Int32) &&& 31).toUInt32).toInt32) &&& (255 : Int32)).toUInt32.toUInt16.toUInt32.toInt32, (((p0.toUInt32 >>> ((24 : Int32) &&& 31).toUInt32).toInt32) &&& (255 : Int32)).toUInt32.toUInt16.toUInt32.toInt32]) own_hws (w6 hw) (w8 hw) (w9 hw) own_cs X6 F6_value F6_coder F8 rfl (Nat.le_of_ble_eq_true rfl) (Nat.le_of_ble_eq_true rfl) (chS (c255 _) (chS (c255 _) (chS (c255 _) (chS (c255 _) ch0)))) (List.mem_of_getElem? (i := 0) rfl) rfl rfl d1_54 (by decide) (by decide) (by decide) (Nat.le_of_ble_eq_true rfl) rfl
  replace R := R.mono (ce' := 3) (sl' := 12) (Nat.le_of_ble_eq_true rfl) (Nat.le_of_ble_eq_true rfl)
  have hv : ([(p0 &&& (255 : Int32)).toUInt32.toUInt16.toUInt32.toInt32, (((p0.toUInt32 >>> ((8 : Int32) &&& 31).toUInt32).toInt32) &&& (255 : Int32)).toUInt32.toUInt16.toUInt32.toInt32, (((p0.toUInt32 >>> ((16 : Int32) &&& 31).toUInt32).toInt32) &&& (255 : Int32)).toUInt32.toUInt16.toUInt32.toInt32, (((p0.toUInt32 >>> ((24 : Int32) &&& 31).toUInt32).toInt32) &&& (255 : Int32)).toUInt32.toUInt16.toUInt32.toInt32] : List Int32) = (s_line p0) := by rfl
  have hK := ((((((((Keep.refl h []).trans ((Keep.refl h []).ext E1) all0).trans K2 (allS (Or.inr (by rw [g1]; exact (Nat.le_refl _))) all0)).trans K3 (allS (Or.inr (by rw [g1]; exact (Nat.le_refl _))) all0)).trans K4 (allS (Or.inr (by rw [g1]; exact (Nat.le_refl _))) all0)).trans K5 (allS (Or.inr (by rw [g1]; exact (Nat.le_refl _))) all0)).trans ((Keep.refl h5 []).ext E6) all0).trans K9 (allS (Or.inr (by rw [g6]; exact (Nat.le_trans (Nat.le_trans (Nat.le_trans (Nat.le_trans ((Keep.refl h []).ext E1).1 K2.1) K3.1) K4.1) K5.1))) all0))
  exact R.retA (Ds' := b6 :: Ds) hret rfl rfl rfl d1_57 (by decide) (by decide) (memS (List.mem_of_getElem? (i := 0) rfl) (fun _ q => (fun q => (List.mem_cons_of_mem _ (List.mem_cons_of_mem _ q))) q)) ⟨b6, rfl, by rw [← hv]; exact S9, hK, rfl⟩
set_option maxRecDepth 65536 in
set_option maxHeartbeats 40000000 in
theorem rm_law (l : Launch) (Z : State) (a0 : Array Value) (hw : HW a0 Z) (i0 : Int32) (i1 : Int32) (i2 : Int32) (h : Heap) (n0 : Nat) (Ds : List Addr) (own_cs : CompactOn Z) (own_si : SiooOk Z) :
    Ctr l Z x code maxLocals ret tables_1 room_1 #[(.int i0), (.int i1), (.int i2)] h n0 Ds (fun v h' Ds' => v = some (.int 1)) := by
  have own_hws : ∀ d ∈ StrChars.Road.words, d.before a0 Z = true := fun d hd => hw d ((by decide +kernel : ∀ d ∈ StrChars.Road.words, d ∈ tables_1) d hd)
  refine ctr_of (Ls := #[.val (.int i0), .val (.int i1), .val (.int i2), .unset, .unset, .unset, .unset, .unset, .unset, .unset, .unset, .unset, .unset, .unset, .unset]) (plainFor_of_name pn6) (fun m => by first | (simp [entryFrame, mkF, argsToLocals, Value.category, maxLocals]; done) | rfl) ?_
  intro C hl hret hnm R
  subst hl
  replace R := R.iloadN (pc' := 1) (v := i0) at_0 rfl rfl
  obtain ⟨_, h1, _, ⟨r1, rfl, S1, K1, rfl⟩, R⟩ := R.callS (pc' := 4) (argsL := [(.int i0)]) (rest := []) (W := 0) (w0 hw) (w1 hw) (w2 hw) (w3 hw) (by decide) (rm_line C.l Z a0 hw i0 h n0 Ds own_cs ) rfl (lenOf pd17 rfl) rfl rfl at_1 (by decide) (by decide) (by decide) (by decide) rfl
  replace R := (((R.mono (ce' := 3) (sl' := 12) (by decide) (by decide)).stk (S' := [(.ref r1)]) rfl).astoreN (pc' := 5) (l' := #[.val (.int i0), .val (.int i1), .val (.int i2), .val (.ref r1), .unset, .unset, .unset, .unset, .unset, .unset, .unset, .unset, .unset, .unset, .unset]) at_4 rfl rfl rfl).iloadN (pc' := 6) (v := i1) at_5 rfl rfl
  obtain ⟨_, h2, _, ⟨r2, rfl, S2, K2, rfl⟩, R⟩ := R.callS (pc' := 9) (argsL := [(.int i1)]) (rest := []) (W := 0) (w0 hw) (w1 hw) (w2 hw) (w3 hw) (by decide) (rm_line C.l Z a0 hw i1 h1 n0 (r1 :: Ds) own_cs ) rfl (lenOf pd17 rfl) rfl rfl at_6 (by decide) (by decide) (by decide) (by decide) rfl
  replace R := ((R.mono (ce' := 6) (sl' := 24) (by decide) (by decide)).stk (S' := [(.ref r2)]) rfl).astore (pc' := 11) (l' := #[.val (.int i0), .val (.int i1), .val (.int i2), .val (.ref r1), .val (.ref r2), .unset, .unset, .unset, .unset, .unset, .unset, .unset, .unset, .unset, .unset]) at_9 rfl rfl rfl
  have K3 := ((Keep.refl h1 []).trans K2 all0)
  have F4 := S1.keep K3 nin0 all0
  obtain ⟨ca0, ca1, ca2, ca3, e_ca⟩ : ∃ y0 y1 y2 y3, s_line i0 = [y0, y1, y2, y3] := ⟨_, _, _, _, rfl⟩
  have S_ca := F4
  rw [e_ca] at S_ca
  obtain ⟨cb0, cb1, cb2, cb3, e_cb⟩ : ∃ y0 y1 y2 y3, s_line i1 = [y0, y1, y2, y3] := ⟨_, _, _, _, rfl⟩
  have S_cb := S2
  rw [e_cb] at S_cb
  replace R := (((((R.iloadN (pc' := 12) (v := i2) at_11 rfl rfl).bipush (pc' := 14) (z := (7 : Int32)) at_12 rfl rfl).iand (pc' := 15) at_14 rfl).iconst (pc' := 16) (z := (5 : Int32)) at_15 rfl rfl).irem (pc' := 17) at_16 (by decide) rfl).istore (pc' := 19) (l' := #[.val (.int i0), .val (.int i1), .val (.int i2), .val (.ref r1), .val (.ref r2), .val (.int ((i2 &&& (7 : Int32)) % (5 : Int32))), .unset, .unset, .unset, .unset, .unset, .unset, .unset, .unset, .unset]) at_17 rfl rfl
  replace R := (((((R.iload (pc' := 21) (v := ((i2 &&& (7 : Int32)) % (5 : Int32))) at_19 rfl rfl).iloadN (pc' := 22) (v := i2) at_21 rfl rfl).iconst (pc' := 23) (z := (3 : Int32)) at_22 rfl rfl).iushr (pc' := 24) at_23 rfl).bipush (pc' := 26) (z := (7 : Int32)) at_24 rfl rfl).iand (pc' := 27) at_26 rfl
  replace R := (((((R.iconst (pc' := 28) (z := (5 : Int32)) at_27 rfl rfl).iload (pc' := 30) (v := ((i2 &&& (7 : Int32)) % (5 : Int32))) at_28 rfl rfl).isub (pc' := 31) at_30 rfl).irem (pc' := 32) at_31 (nz5 _) rfl).iadd (pc' := 33) at_32 rfl).istore (pc' := 35) (l' := #[.val (.int i0), .val (.int i1), .val (.int i2), .val (.ref r1), .val (.ref r2), .val (.int ((i2 &&& (7 : Int32)) % (5 : Int32))), .val (.int (((i2 &&& (7 : Int32)) % (5 : Int32)) + ((((i2.toUInt32 >>> ((3 : Int32) &&& 31).toUInt32).toInt32) &&& (7 : Int32)) % ((5 : Int32) - ((i2 &&& (7 : Int32)) % (5 : Int32)))))), .unset, .unset, .unset, .unset, .unset, .unset, .unset, .unset]) at_33 rfl rfl
  replace R := (((((R.iloadN (pc' := 36) (v := i2) at_35 rfl rfl).bipush (pc' := 38) (z := (6 : Int32)) at_36 rfl rfl).iushr (pc' := 39) at_38 rfl).bipush (pc' := 41) (z := (7 : Int32)) at_39 rfl rfl).iand (pc' := 42) at_41 rfl).iconst (pc' := 43) (z := (5 : Int32)) at_42 rfl rfl
  replace R := (((((R.irem (pc' := 44) at_43 (by decide) rfl).istore (pc' := 46) (l' := #[.val (.int i0), .val (.int i1), .val (.int i2), .val (.ref r1), .val (.ref r2), .val (.int ((i2 &&& (7 : Int32)) % (5 : Int32))), .val (.int (((i2 &&& (7 : Int32)) % (5 : Int32)) + ((((i2.toUInt32 >>> ((3 : Int32) &&& 31).toUInt32).toInt32) &&& (7 : Int32)) % ((5 : Int32) - ((i2 &&& (7 : Int32)) % (5 : Int32)))))), .val (.int ((((i2.toUInt32 >>> ((6 : Int32) &&& 31).toUInt32).toInt32) &&& (7 : Int32)) % (5 : Int32))), .unset, .unset, .unset, .unset, .unset, .unset, .unset]) at_44 rfl rfl).iload (pc' := 48) (v := ((((i2.toUInt32 >>> ((6 : Int32) &&& 31).toUInt32).toInt32) &&& (7 : Int32)) % (5 : Int32))) at_46 rfl rfl).iloadN (pc' := 49) (v := i2) at_48 rfl rfl).bipush (pc' := 51) (z := (9 : Int32)) at_49 rfl rfl).iushr (pc' := 52) at_51 rfl
  replace R := (((((R.bipush (pc' := 54) (z := (7 : Int32)) at_52 rfl rfl).iand (pc' := 55) at_54 rfl).iconst (pc' := 56) (z := (5 : Int32)) at_55 rfl rfl).iload (pc' := 58) (v := ((((i2.toUInt32 >>> ((6 : Int32) &&& 31).toUInt32).toInt32) &&& (7 : Int32)) % (5 : Int32))) at_56 rfl rfl).isub (pc' := 59) at_58 rfl).irem (pc' := 60) at_59 (nz5 _) rfl
  replace R := (R.iadd (pc' := 61) at_60 rfl).istore (pc' := 63) (l' := #[.val (.int i0), .val (.int i1), .val (.int i2), .val (.ref r1), .val (.ref r2), .val (.int ((i2 &&& (7 : Int32)) % (5 : Int32))), .val (.int (((i2 &&& (7 : Int32)) % (5 : Int32)) + ((((i2.toUInt32 >>> ((3 : Int32) &&& 31).toUInt32).toInt32) &&& (7 : Int32)) % ((5 : Int32) - ((i2 &&& (7 : Int32)) % (5 : Int32)))))), .val (.int ((((i2.toUInt32 >>> ((6 : Int32) &&& 31).toUInt32).toInt32) &&& (7 : Int32)) % (5 : Int32))), .val (.int (((((i2.toUInt32 >>> ((6 : Int32) &&& 31).toUInt32).toInt32) &&& (7 : Int32)) % (5 : Int32)) + ((((i2.toUInt32 >>> ((9 : Int32) &&& 31).toUInt32).toInt32) &&& (7 : Int32)) % ((5 : Int32) - ((((i2.toUInt32 >>> ((6 : Int32) &&& 31).toUInt32).toInt32) &&& (7 : Int32)) % (5 : Int32)))))), .unset, .unset, .unset, .unset, .unset, .unset]) at_61 rfl rfl
  obtain ⟨s, e, hse, he, q_s, q_e⟩ := rng (c1 := i2) (c2 := ((i2.toUInt32 >>> ((3 : Int32) &&& 31).toUInt32).toInt32))
  obtain ⟨u, v, huv, hv4, q_u, q_v⟩ := rng (c1 := ((i2.toUInt32 >>> ((6 : Int32) &&& 31).toUInt32).toInt32)) (c2 := ((i2.toUInt32 >>> ((9 : Int32) &&& 31).toUInt32).toInt32))
  replace R := R.loc (congrArg (fun z => (#[.val (.int i0), .val (.int i1), .val (.int i2), .val (.ref r1), .val (.ref r2), .val (.int ((i2 &&& (7 : Int32)) % (5 : Int32))), .val (.int z), .val (.int ((((i2.toUInt32 >>> ((6 : Int32) &&& 31).toUInt32).toInt32) &&& (7 : Int32)) % (5 : Int32))), .val (.int (((((i2.toUInt32 >>> ((6 : Int32) &&& 31).toUInt32).toInt32) &&& (7 : Int32)) % (5 : Int32)) + ((((i2.toUInt32 >>> ((9 : Int32) &&& 31).toUInt32).toInt32) &&& (7 : Int32)) % ((5 : Int32) - ((((i2.toUInt32 >>> ((6 : Int32) &&& 31).toUInt32).toInt32) &&& (7 : Int32)) % (5 : Int32)))))), .unset, .unset, .unset, .unset, .unset, .unset] : Array Slot)) q_e)
  replace R := R.loc (congrArg (fun z => (#[.val (.int i0), .val (.int i1), .val (.int i2), .val (.ref r1), .val (.ref r2), .val (.int ((i2 &&& (7 : Int32)) % (5 : Int32))), .val (.int (Int32.ofNat e)), .val (.int ((((i2.toUInt32 >>> ((6 : Int32) &&& 31).toUInt32).toInt32) &&& (7 : Int32)) % (5 : Int32))), .val (.int z), .unset, .unset, .unset, .unset, .unset, .unset] : Array Slot)) q_v)
  replace R := R.loc (congrArg (fun z => (#[.val (.int i0), .val (.int i1), .val (.int i2), .val (.ref r1), .val (.ref r2), .val (.int z), .val (.int (Int32.ofNat e)), .val (.int ((((i2.toUInt32 >>> ((6 : Int32) &&& 31).toUInt32).toInt32) &&& (7 : Int32)) % (5 : Int32))), .val (.int (Int32.ofNat v)), .unset, .unset, .unset, .unset, .unset, .unset] : Array Slot)) q_s)
  replace R := R.loc (congrArg (fun z => (#[.val (.int i0), .val (.int i1), .val (.int i2), .val (.ref r1), .val (.ref r2), .val (.int (Int32.ofNat s)), .val (.int (Int32.ofNat e)), .val (.int z), .val (.int (Int32.ofNat v)), .unset, .unset, .unset, .unset, .unset, .unset] : Array Slot)) q_u)
  obtain ⟨h5, b5, g5, E5, X5, D5, R⟩ := R.newO (pc' := 66) (w34 hw) (w35 hw) (w36 hw) at_63 (by decide) (by decide) rfl
  have F5_kept : Fld Z h5 b5 "provento/files/FieldTexts" "kept" "[Ljava/lang/String;" .null := D5 (Or.inr (w44 hw)) (ty := (.array (.object "java/lang/String"))) (by decide)
  replace R := R.dup (pc' := 67) at_66 rfl rfl
  obtain ⟨_, hF, _, ⟨q, kq, rfl, KF, naq, XF, FF, VF, OF, rfl⟩, R⟩ := R.callI (pc' := 70) (a := b5) (argsL := []) (rest := [(.ref b5)]) (W := 1) rfl (w37 hw) (w38 hw) (w36 hw) (w39 hw) (by decide) (rm_fi C.l Z a0 hw b5 h5 n0 (b5 :: r2 :: r1 :: Ds) (List.mem_of_getElem? (i := 0) rfl) X5 F5_kept) rfl (lenOf pd18 rfl) rfl rfl at_67 (by decide) (by decide) (by decide) (by decide) rfl
  have HF := VF.arh
  replace R := (((((R.mono (ce' := 8) (sl' := 16409) (by decide) (by decide)).stk (S' := [(.ref b5)]) rfl).astore (pc' := 72) (l' := #[.val (.int i0), .val (.int i1), .val (.int i2), .val (.ref r1), .val (.ref r2), .val (.int (Int32.ofNat s)), .val (.int (Int32.ofNat e)), .val (.int (Int32.ofNat u)), .val (.int (Int32.ofNat v)), .val (.ref b5), .unset, .unset, .unset, .unset, .unset]) at_70 rfl rfl rfl).aload (pc' := 74) (v := (.ref b5)) at_72 rfl rfl rfl).aloadN (pc' := 75) (v := (.ref r1)) at_74 rfl rfl rfl).iload (pc' := 77) (v := (Int32.ofNat s)) at_75 rfl rfl
  replace R := R.iload (pc' := 79) (v := (Int32.ofNat e)) at_77 rfl rfl
  have K7 := (((Keep.refl h2 []).trans ((Keep.refl h2 []).ext E5) all0).trans KF (allS (Or.inr (by rw [g5]; exact (Nat.le_refl _))) all0))
  have F8 := S_ca.keep K7 nin0 all0
  have K9 := (((Keep.refl h2 []).trans ((Keep.refl h2 []).ext E5) all0).trans KF (allS (Or.inr (by rw [g5]; exact (Nat.le_refl _))) all0))
  have F10 := S_cb.keep K9 nin0 all0
  have nb6 := notB_arh HF (by decide)
  have nf6 := neArh XF HF (w35 hw)
  have ns6_0 := neArh F8.1 HF (w6 hw)
  have ns6_1 := neArh F10.1 HF (w6 hw)
  obtain ⟨_, h6, _, ⟨r6, rfl, S6, K6, H6, rfl⟩, R⟩ := R.callV (pc' := 82) (y := (⟨"provento/files/FieldTexts", "of", "(Ljava/lang/String;II)Ljava/lang/String;"⟩ : MethodName)) (z := (⟨"provento/files/FieldTexts", "of", "(Ljava/lang/String;II)Ljava/lang/String;"⟩ : MethodName)) (argsL := [(.ref r1), (.int (Int32.ofNat s)), (.int (Int32.ofNat e))]) (rest := []) (W := 0) (w45 hw) (w46 hw) (fun s' hZ' => notFace_of_selects (args := #[]) (mvT hZ' (w48 hw))) (w48 hw) (w47 hw) (w36 hw) (w49 hw) (by decide) XF (rm_ofnull C.l Z a0 hw b5 r1 hF n0 (q :: b5 :: r2 :: r1 :: Ds) own_cs own_si hse he XF FF F8 HF OF (List.mem_of_getElem? (i := 0) rfl) (by simp [getH]) ) rfl (lenOf pd19 rfl) rfl rfl at_79 (by decide) (by decide) (by decide) (by decide) rfl
  have S6_0 := F8.keep K6 (ninS ns6_0 nin0) (allS nb6 all0)
  have S6_1 := F10.keep K6 (ninS ns6_1 nin0) (allS nb6 all0)
  replace R := (((((R.mono (ce' := 10) (sl' := 16416) (by decide) (by decide)).stk (S' := [(.ref r6)]) rfl).astore (pc' := 84) (l' := #[.val (.int i0), .val (.int i1), .val (.int i2), .val (.ref r1), .val (.ref r2), .val (.int (Int32.ofNat s)), .val (.int (Int32.ofNat e)), .val (.int (Int32.ofNat u)), .val (.int (Int32.ofNat v)), .val (.ref b5), .val (.ref r6), .unset, .unset, .unset, .unset]) at_82 rfl rfl rfl).aload (pc' := 86) (v := (.ref b5)) at_84 rfl rfl rfl).aload (pc' := 88) (v := (.ref r2)) at_86 rfl rfl rfl).iload (pc' := 90) (v := (Int32.ofNat u)) at_88 rfl rfl
  replace R := R.iload (pc' := 92) (v := (Int32.ofNat v)) at_90 rfl rfl
  by_cases hi : ix (seg [cb0, cb1, cb2, cb3] u v) = ix (seg [ca0, ca1, ca2, ca3] s e)
  · by_cases ht : (seg [ca0, ca1, ca2, ca3] s e) = (seg [cb0, cb1, cb2, cb3] u v)
    · have hu2 : getH [(ix (seg [ca0, ca1, ca2, ca3] s e), .ref r6)] [] .null (ix (seg [cb0, cb1, cb2, cb3] u v)).toNatClampNeg = .ref r6 := getH_hit (ix_b _).1 hi
      have hu1 : getH [(ix (seg [ca0, ca1, ca2, ca3] s e), .ref r6)] [] .null (ix (seg [ca0, ca1, ca2, ca3] s e)).toNatClampNeg = .ref r6 := getH_hit (ix_b _).1 rfl
      have S_r2 : IsStr Z h6 r6 (seg [cb0, cb1, cb2, cb3] u v) := ht ▸ S6
      have K12 := ((Keep.refl hF [q]).trans K6 (allS (Or.inl (List.mem_of_getElem? (i := 0) rfl)) all0))
      have F13 := XF.keep K12
      have K14 := ((Keep.refl hF [q]).trans K6 (allS (Or.inl (List.mem_of_getElem? (i := 0) rfl)) all0))
      have F15 := FF.keep K14 (ninS nf6 nin0)
      replace R := own_pure (R.callV (pc' := 95) (y := (⟨"provento/files/FieldTexts", "of", "(Ljava/lang/String;II)Ljava/lang/String;"⟩ : MethodName)) (z := (⟨"provento/files/FieldTexts", "of", "(Ljava/lang/String;II)Ljava/lang/String;"⟩ : MethodName)) (argsL := [(.ref r2), (.int (Int32.ofNat u)), (.int (Int32.ofNat v))]) (rest := []) (W := 0) (w45 hw) (w46 hw) (fun s' hZ' => notFace_of_selects (args := #[]) (mvT hZ' (w48 hw))) (w48 hw) (w47 hw) (w36 hw) (w49 hw) (by decide) F13 (rm_ofhit C.l Z a0 hw b5 r2 h6 n0 (q :: b5 :: r2 :: r1 :: Ds) own_cs own_si huv hv4 F13 F15 S6_1 H6 OF (List.mem_of_getElem? (i := 0) rfl) hu2 (ht ▸ S6)) rfl (lenOf pd19 rfl) rfl rfl at_92 (by decide) (by decide) (by decide) (by decide) rfl)
      replace R := ((((R.astore (pc' := 97) (l' := #[.val (.int i0), .val (.int i1), .val (.int i2), .val (.ref r1), .val (.ref r2), .val (.int (Int32.ofNat s)), .val (.int (Int32.ofNat e)), .val (.int (Int32.ofNat u)), .val (.int (Int32.ofNat v)), .val (.ref b5), .val (.ref r6), .val (.ref r6), .unset, .unset, .unset]) at_95 rfl rfl rfl).aload (pc' := 99) (v := (.ref b5)) at_97 rfl rfl rfl).aload (pc' := 101) (v := (.ref r2)) at_99 rfl rfl rfl).iload (pc' := 103) (v := (Int32.ofNat u)) at_101 rfl rfl).iload (pc' := 105) (v := (Int32.ofNat v)) at_103 rfl rfl
      replace R := own_pure (R.callV (pc' := 108) (y := (⟨"provento/files/FieldTexts", "of", "(Ljava/lang/String;II)Ljava/lang/String;"⟩ : MethodName)) (z := (⟨"provento/files/FieldTexts", "of", "(Ljava/lang/String;II)Ljava/lang/String;"⟩ : MethodName)) (argsL := [(.ref r2), (.int (Int32.ofNat u)), (.int (Int32.ofNat v))]) (rest := []) (W := 0) (w45 hw) (w46 hw) (fun s' hZ' => notFace_of_selects (args := #[]) (mvT hZ' (w48 hw))) (w48 hw) (w47 hw) (w36 hw) (w49 hw) (by decide) F13 (rm_ofhit C.l Z a0 hw b5 r2 h6 n0 (q :: b5 :: r2 :: r1 :: Ds) own_cs own_si huv hv4 F13 F15 S6_1 H6 OF (List.mem_of_getElem? (i := 0) rfl) hu2 (ht ▸ S6)) rfl (lenOf pd19 rfl) rfl rfl at_105 (by decide) (by decide) (by decide) (by decide) rfl)
      replace R := ((((R.astore (pc' := 110) (l' := #[.val (.int i0), .val (.int i1), .val (.int i2), .val (.ref r1), .val (.ref r2), .val (.int (Int32.ofNat s)), .val (.int (Int32.ofNat e)), .val (.int (Int32.ofNat u)), .val (.int (Int32.ofNat v)), .val (.ref b5), .val (.ref r6), .val (.ref r6), .val (.ref r6), .unset, .unset]) at_108 rfl rfl rfl).aload (pc' := 112) (v := (.ref b5)) at_110 rfl rfl rfl).aloadN (pc' := 113) (v := (.ref r1)) at_112 rfl rfl rfl).iload (pc' := 115) (v := (Int32.ofNat s)) at_113 rfl rfl).iload (pc' := 117) (v := (Int32.ofNat e)) at_115 rfl rfl
      replace R := own_pure (R.callV (pc' := 120) (y := (⟨"provento/files/FieldTexts", "of", "(Ljava/lang/String;II)Ljava/lang/String;"⟩ : MethodName)) (z := (⟨"provento/files/FieldTexts", "of", "(Ljava/lang/String;II)Ljava/lang/String;"⟩ : MethodName)) (argsL := [(.ref r1), (.int (Int32.ofNat s)), (.int (Int32.ofNat e))]) (rest := []) (W := 0) (w45 hw) (w46 hw) (fun s' hZ' => notFace_of_selects (args := #[]) (mvT hZ' (w48 hw))) (w48 hw) (w47 hw) (w36 hw) (w49 hw) (by decide) F13 (rm_ofhit C.l Z a0 hw b5 r1 h6 n0 (q :: b5 :: r2 :: r1 :: Ds) own_cs own_si hse he F13 F15 S6_0 H6 OF (List.mem_of_getElem? (i := 0) rfl) hu1 S6) rfl (lenOf pd19 rfl) rfl rfl at_117 (by decide) (by decide) (by decide) (by decide) rfl)
      replace R := (((((R.astore (pc' := 122) (l' := #[.val (.int i0), .val (.int i1), .val (.int i2), .val (.ref r1), .val (.ref r2), .val (.int (Int32.ofNat s)), .val (.int (Int32.ofNat e)), .val (.int (Int32.ofNat u)), .val (.int (Int32.ofNat v)), .val (.ref b5), .val (.ref r6), .val (.ref r6), .val (.ref r6), .val (.ref r6), .unset]) at_120 rfl rfl rfl).aloadN (pc' := 123) (v := (.ref r1)) at_122 rfl rfl rfl).iload (pc' := 125) (v := (Int32.ofNat s)) at_123 rfl rfl).iload (pc' := 127) (v := (Int32.ofNat e)) at_125 rfl rfl).aload (pc' := 129) (v := (.ref r2)) at_127 rfl rfl rfl).iload (pc' := 131) (v := (Int32.ofNat u)) at_129 rfl rfl
      replace R := R.iload (pc' := 133) (v := (Int32.ofNat v)) at_131 rfl rfl
      replace R := own_pure (R.callS (pc' := 136) (argsL := [(.ref r1), (.int (Int32.ofNat s)), (.int (Int32.ofNat e)), (.ref r2), (.int (Int32.ofNat u)), (.int (Int32.ofNat v))]) (rest := []) (W := 0) (w91 hw) (w92 hw) (w2 hw) (w93 hw) (by decide) (rm_rg C.l Z a0 hw r1 r2 h6 n0 (q :: b5 :: r2 :: r1 :: Ds) own_cs own_si (cs := [ca0, ca1, ca2, ca3]) (ds := [cb0, cb1, cb2, cb3]) (i := s) (j := e) (k := u) (l := v) hse he huv hv4 (by omega) (Nat.le_of_ble_eq_true rfl) (Nat.le_of_ble_eq_true rfl) S6_0 S6_1) rfl (lenOf pd16 rfl) rfl rfl at_133 (by decide) (by decide) (by decide) (by decide) rfl)
      replace R := R.stk (congrArg (fun z => ([Value.int z] : List Value)) (show bi (decide ((seg [ca0, ca1, ca2, ca3] s e) = (seg [cb0, cb1, cb2, cb3] u v))) = (1 : Int32) by rw [decide_eq_true ht]; rfl))
      replace R := ((((R.istore (pc' := 138) (l' := #[.val (.int i0), .val (.int i1), .val (.int i2), .val (.ref r1), .val (.ref r2), .val (.int (Int32.ofNat s)), .val (.int (Int32.ofNat e)), .val (.int (Int32.ofNat u)), .val (.int (Int32.ofNat v)), .val (.ref b5), .val (.ref r6), .val (.ref r6), .val (.ref r6), .val (.ref r6), .val (.int (1 : Int32))]) at_136 rfl rfl).aload (pc' := 140) (v := (.ref r6)) at_138 rfl rfl rfl).aloadN (pc' := 141) (v := (.ref r1)) at_140 rfl rfl rfl).iload (pc' := 143) (v := (Int32.ofNat s)) at_141 rfl rfl).iload (pc' := 145) (v := (Int32.ofNat e)) at_143 rfl rfl
      replace R := own_pure (R.callS (pc' := 148) (argsL := [(.ref r6), (.ref r1), (.int (Int32.ofNat s)), (.int (Int32.ofNat e))]) (rest := []) (W := 0) (w94 hw) (w95 hw) (w2 hw) (w96 hw) (by decide) (rm_ma C.l Z a0 hw r6 r1 h6 n0 (q :: b5 :: r2 :: r1 :: Ds) own_cs own_si hse he S6 S6_0) rfl (lenOf pd20 rfl) rfl rfl at_145 (by decide) (by decide) (by decide) (by decide) rfl)
      replace R := ((((R.ifN (pc' := 151) at_148 (feq (by decide : ¬ ((1 : Int32) = (0 : Int32)))).1 rfl).aload (pc' := 153) (v := (.ref r6)) at_151 rfl rfl rfl).aload (pc' := 155) (v := (.ref r2)) at_153 rfl rfl rfl).iload (pc' := 157) (v := (Int32.ofNat u)) at_155 rfl rfl).iload (pc' := 159) (v := (Int32.ofNat v)) at_157 rfl rfl
      replace R := own_pure (R.callS (pc' := 162) (argsL := [(.ref r6), (.ref r2), (.int (Int32.ofNat u)), (.int (Int32.ofNat v))]) (rest := []) (W := 0) (w94 hw) (w95 hw) (w2 hw) (w96 hw) (by decide) (rm_ma C.l Z a0 hw r6 r2 h6 n0 (q :: b5 :: r2 :: r1 :: Ds) own_cs own_si huv hv4 S_r2 S6_1) rfl (lenOf pd20 rfl) rfl rfl at_159 (by decide) (by decide) (by decide) (by decide) rfl)
      replace R := (((((R.ifN (pc' := 165) at_162 (feq (by decide : ¬ ((1 : Int32) = (0 : Int32)))).1 rfl).aload (pc' := 167) (v := (.ref r6)) at_165 rfl rfl rfl).aload (pc' := 169) (v := (.ref r6)) at_167 rfl rfl rfl).acmp (pc' := 172) (same := true) at_169 rfl rfl (decide_eq_true rfl) (by decide) (by decide)).aload (pc' := 174) (v := (.ref r6)) at_172 rfl rfl rfl).aloadN (pc' := 175) (v := (.ref r1)) at_174 rfl rfl rfl
      replace R := (R.iload (pc' := 177) (v := (Int32.ofNat s)) at_175 rfl rfl).iload (pc' := 179) (v := (Int32.ofNat e)) at_177 rfl rfl
      replace R := own_pure (R.callS (pc' := 182) (argsL := [(.ref r6), (.ref r1), (.int (Int32.ofNat s)), (.int (Int32.ofNat e))]) (rest := []) (W := 0) (w94 hw) (w95 hw) (w2 hw) (w96 hw) (by decide) (rm_ma C.l Z a0 hw r6 r1 h6 n0 (q :: b5 :: r2 :: r1 :: Ds) own_cs own_si hse he S6 S6_0) rfl (lenOf pd20 rfl) rfl rfl at_179 (by decide) (by decide) (by decide) (by decide) rfl)
      replace R := (((((R.ifN (pc' := 185) at_182 (feq (by decide : ¬ ((1 : Int32) = (0 : Int32)))).1 rfl).iload (pc' := 187) (v := (1 : Int32)) at_185 rfl rfl).ifN (pc' := 190) at_187 (feq (by decide : ¬ ((1 : Int32) = (0 : Int32)))).1 rfl).aload (pc' := 192) (v := (.ref r6)) at_190 rfl rfl rfl).aload (pc' := 194) (v := (.ref r6)) at_192 rfl rfl rfl).acmp (pc' := 197) (same := true) at_194 rfl rfl (decide_eq_true rfl) (by decide) (by decide)
      replace R := (((((R.iload (pc' := 199) (v := (1 : Int32)) at_197 rfl rfl).ifN (pc' := 202) at_199 (feq (by decide : ¬ ((1 : Int32) = (0 : Int32)))).1 rfl).aload (pc' := 204) (v := (.ref r6)) at_202 rfl rfl rfl).aload (pc' := 206) (v := (.ref r6)) at_204 rfl rfl rfl).acmp (pc' := 209) (same := true) at_206 rfl rfl (decide_eq_true rfl) (by decide) (by decide)).iconst (pc' := 210) (z := (1 : Int32)) at_209 rfl rfl
      replace R := R.goto (pc' := 214) at_210 (by decide) rfl
      exact R.retN (Ds' := []) hret (by simp) (show nar .boolean 1 = 1 from rfl) at_214 (by decide) (by decide) (fun _ q => nomatch q) rfl
    · have hu2 : getH [(ix (seg [ca0, ca1, ca2, ca3] s e), .ref r6)] [] .null (ix (seg [cb0, cb1, cb2, cb3] u v)).toNatClampNeg = .ref r6 := getH_hit (ix_b _).1 hi
      have K19 := ((Keep.refl hF [q]).trans K6 (allS (Or.inl (List.mem_of_getElem? (i := 0) rfl)) all0))
      have F20 := XF.keep K19
      have K21 := ((Keep.refl hF [q]).trans K6 (allS (Or.inl (List.mem_of_getElem? (i := 0) rfl)) all0))
      have F22 := FF.keep K21 (ninS nf6 nin0)
      have nb18 := notB_arh H6 (by decide)
      have nf18 := neArh F20 H6 (w35 hw)
      have ns18_0 := neArh S6_0.1 H6 (w6 hw)
      have ns18_1 := neArh S6_1.1 H6 (w6 hw)
      have ns18_2 := neArh S6.1 H6 (w6 hw)
      obtain ⟨_, h18, _, ⟨r18, rfl, S18, K18, H18, rfl⟩, R⟩ := R.callV (pc' := 95) (y := (⟨"provento/files/FieldTexts", "of", "(Ljava/lang/String;II)Ljava/lang/String;"⟩ : MethodName)) (z := (⟨"provento/files/FieldTexts", "of", "(Ljava/lang/String;II)Ljava/lang/String;"⟩ : MethodName)) (argsL := [(.ref r2), (.int (Int32.ofNat u)), (.int (Int32.ofNat v))]) (rest := []) (W := 0) (w45 hw) (w46 hw) (fun s' hZ' => notFace_of_selects (args := #[]) (mvT hZ' (w48 hw))) (w48 hw) (w47 hw) (w36 hw) (w49 hw) (by decide) F20 (rm_ofmiss C.l Z a0 hw b5 r2 h6 n0 (q :: b5 :: r2 :: r1 :: Ds) own_cs own_si huv hv4 F20 F22 S6_1 H6 OF (List.mem_of_getElem? (i := 0) rfl) hu2 S6 (fun z => ht z.symm)) rfl (lenOf pd19 rfl) rfl rfl at_92 (by decide) (by decide) (by decide) (by decide) rfl
      have S18_0 := S6_0.keep K18 (ninS ns18_0 nin0) (allS nb18 all0)
      have S18_1 := S6_1.keep K18 (ninS ns18_1 nin0) (allS nb18 all0)
      have S18_2 := S6.keep K18 (ninS ns18_2 nin0) (allS nb18 all0)
      replace R := (((((R.mono (ce' := 12) (sl' := 16423) (by decide) (by decide)).stk (S' := [(.ref r18)]) rfl).astore (pc' := 97) (l' := #[.val (.int i0), .val (.int i1), .val (.int i2), .val (.ref r1), .val (.ref r2), .val (.int (Int32.ofNat s)), .val (.int (Int32.ofNat e)), .val (.int (Int32.ofNat u)), .val (.int (Int32.ofNat v)), .val (.ref b5), .val (.ref r6), .val (.ref r18), .unset, .unset, .unset]) at_95 rfl rfl rfl).aload (pc' := 99) (v := (.ref b5)) at_97 rfl rfl rfl).aload (pc' := 101) (v := (.ref r2)) at_99 rfl rfl rfl).iload (pc' := 103) (v := (Int32.ofNat u)) at_101 rfl rfl
      replace R := R.iload (pc' := 105) (v := (Int32.ofNat v)) at_103 rfl rfl
      have K24 := ((Keep.refl h6 [q]).trans K18 (allS (Or.inl (List.mem_of_getElem? (i := 0) rfl)) all0))
      have F25 := F20.keep K24
      have K26 := ((Keep.refl h6 [q]).trans K18 (allS (Or.inl (List.mem_of_getElem? (i := 0) rfl)) all0))
      have F27 := F22.keep K26 (ninS nf18 nin0)
      replace R := own_pure (R.callV (pc' := 108) (y := (⟨"provento/files/FieldTexts", "of", "(Ljava/lang/String;II)Ljava/lang/String;"⟩ : MethodName)) (z := (⟨"provento/files/FieldTexts", "of", "(Ljava/lang/String;II)Ljava/lang/String;"⟩ : MethodName)) (argsL := [(.ref r2), (.int (Int32.ofNat u)), (.int (Int32.ofNat v))]) (rest := []) (W := 0) (w45 hw) (w46 hw) (fun s' hZ' => notFace_of_selects (args := #[]) (mvT hZ' (w48 hw))) (w48 hw) (w47 hw) (w36 hw) (w49 hw) (by decide) F25 (rm_ofhit C.l Z a0 hw b5 r2 h18 n0 (q :: b5 :: r2 :: r1 :: Ds) own_cs own_si huv hv4 F25 F27 S18_1 H18 OF (List.mem_of_getElem? (i := 0) rfl) (getH_hit (ix_b _).1 rfl) S18) rfl (lenOf pd19 rfl) rfl rfl at_105 (by decide) (by decide) (by decide) (by decide) rfl)
      replace R := ((((R.astore (pc' := 110) (l' := #[.val (.int i0), .val (.int i1), .val (.int i2), .val (.ref r1), .val (.ref r2), .val (.int (Int32.ofNat s)), .val (.int (Int32.ofNat e)), .val (.int (Int32.ofNat u)), .val (.int (Int32.ofNat v)), .val (.ref b5), .val (.ref r6), .val (.ref r18), .val (.ref r18), .unset, .unset]) at_108 rfl rfl rfl).aload (pc' := 112) (v := (.ref b5)) at_110 rfl rfl rfl).aloadN (pc' := 113) (v := (.ref r1)) at_112 rfl rfl rfl).iload (pc' := 115) (v := (Int32.ofNat s)) at_113 rfl rfl).iload (pc' := 117) (v := (Int32.ofNat e)) at_115 rfl rfl
      have nb28 := notB_arh H18 (by decide)
      have nf28 := neArh F25 H18 (w35 hw)
      have ns28_0 := neArh S18_0.1 H18 (w6 hw)
      have ns28_1 := neArh S18_1.1 H18 (w6 hw)
      have ns28_2 := neArh S18_2.1 H18 (w6 hw)
      have ns28_3 := neArh S18.1 H18 (w6 hw)
      obtain ⟨_, h28, _, ⟨r28, rfl, S28, K28, H28, rfl⟩, R⟩ := R.callV (pc' := 120) (y := (⟨"provento/files/FieldTexts", "of", "(Ljava/lang/String;II)Ljava/lang/String;"⟩ : MethodName)) (z := (⟨"provento/files/FieldTexts", "of", "(Ljava/lang/String;II)Ljava/lang/String;"⟩ : MethodName)) (argsL := [(.ref r1), (.int (Int32.ofNat s)), (.int (Int32.ofNat e))]) (rest := []) (W := 0) (w45 hw) (w46 hw) (fun s' hZ' => notFace_of_selects (args := #[]) (mvT hZ' (w48 hw))) (w48 hw) (w47 hw) (w36 hw) (w49 hw) (by decide) F25 (rm_ofmiss C.l Z a0 hw b5 r1 h18 n0 (q :: b5 :: r2 :: r1 :: Ds) own_cs own_si hse he F25 F27 S18_0 H18 OF (List.mem_of_getElem? (i := 0) rfl) (getH_hit (ix_b _).1 hi.symm) S18 ht) rfl (lenOf pd19 rfl) rfl rfl at_117 (by decide) (by decide) (by decide) (by decide) rfl
      have S28_0 := S18_0.keep K28 (ninS ns28_0 nin0) (allS nb28 all0)
      have S28_1 := S18_1.keep K28 (ninS ns28_1 nin0) (allS nb28 all0)
      have S28_2 := S18_2.keep K28 (ninS ns28_2 nin0) (allS nb28 all0)
      have S28_3 := S18.keep K28 (ninS ns28_3 nin0) (allS nb28 all0)
      replace R := (((((R.mono (ce' := 16) (sl' := 16437) (by decide) (by decide)).stk (S' := [(.ref r28)]) rfl).astore (pc' := 122) (l' := #[.val (.int i0), .val (.int i1), .val (.int i2), .val (.ref r1), .val (.ref r2), .val (.int (Int32.ofNat s)), .val (.int (Int32.ofNat e)), .val (.int (Int32.ofNat u)), .val (.int (Int32.ofNat v)), .val (.ref b5), .val (.ref r6), .val (.ref r18), .val (.ref r18), .val (.ref r28), .unset]) at_120 rfl rfl rfl).aloadN (pc' := 123) (v := (.ref r1)) at_122 rfl rfl rfl).iload (pc' := 125) (v := (Int32.ofNat s)) at_123 rfl rfl).iload (pc' := 127) (v := (Int32.ofNat e)) at_125 rfl rfl
      replace R := ((R.aload (pc' := 129) (v := (.ref r2)) at_127 rfl rfl rfl).iload (pc' := 131) (v := (Int32.ofNat u)) at_129 rfl rfl).iload (pc' := 133) (v := (Int32.ofNat v)) at_131 rfl rfl
      replace R := own_pure (R.callS (pc' := 136) (argsL := [(.ref r1), (.int (Int32.ofNat s)), (.int (Int32.ofNat e)), (.ref r2), (.int (Int32.ofNat u)), (.int (Int32.ofNat v))]) (rest := []) (W := 0) (w91 hw) (w92 hw) (w2 hw) (w93 hw) (by decide) (rm_rg C.l Z a0 hw r1 r2 h28 n0 (q :: b5 :: r2 :: r1 :: Ds) own_cs own_si (cs := [ca0, ca1, ca2, ca3]) (ds := [cb0, cb1, cb2, cb3]) (i := s) (j := e) (k := u) (l := v) hse he huv hv4 (by omega) (Nat.le_of_ble_eq_true rfl) (Nat.le_of_ble_eq_true rfl) S28_0 S28_1) rfl (lenOf pd16 rfl) rfl rfl at_133 (by decide) (by decide) (by decide) (by decide) rfl)
      replace R := R.stk (congrArg (fun z => ([Value.int z] : List Value)) (show bi (decide ((seg [ca0, ca1, ca2, ca3] s e) = (seg [cb0, cb1, cb2, cb3] u v))) = (0 : Int32) by rw [decide_eq_false ht]; rfl))
      replace R := ((((R.istore (pc' := 138) (l' := #[.val (.int i0), .val (.int i1), .val (.int i2), .val (.ref r1), .val (.ref r2), .val (.int (Int32.ofNat s)), .val (.int (Int32.ofNat e)), .val (.int (Int32.ofNat u)), .val (.int (Int32.ofNat v)), .val (.ref b5), .val (.ref r6), .val (.ref r18), .val (.ref r18), .val (.ref r28), .val (.int (0 : Int32))]) at_136 rfl rfl).aload (pc' := 140) (v := (.ref r6)) at_138 rfl rfl rfl).aloadN (pc' := 141) (v := (.ref r1)) at_140 rfl rfl rfl).iload (pc' := 143) (v := (Int32.ofNat s)) at_141 rfl rfl).iload (pc' := 145) (v := (Int32.ofNat e)) at_143 rfl rfl
      replace R := own_pure (R.callS (pc' := 148) (argsL := [(.ref r6), (.ref r1), (.int (Int32.ofNat s)), (.int (Int32.ofNat e))]) (rest := []) (W := 0) (w94 hw) (w95 hw) (w2 hw) (w96 hw) (by decide) (rm_ma C.l Z a0 hw r6 r1 h28 n0 (q :: b5 :: r2 :: r1 :: Ds) own_cs own_si hse he S28_2 S28_0) rfl (lenOf pd20 rfl) rfl rfl at_145 (by decide) (by decide) (by decide) (by decide) rfl)
      replace R := ((((R.ifN (pc' := 151) at_148 (feq (by decide : ¬ ((1 : Int32) = (0 : Int32)))).1 rfl).aload (pc' := 153) (v := (.ref r18)) at_151 rfl rfl rfl).aload (pc' := 155) (v := (.ref r2)) at_153 rfl rfl rfl).iload (pc' := 157) (v := (Int32.ofNat u)) at_155 rfl rfl).iload (pc' := 159) (v := (Int32.ofNat v)) at_157 rfl rfl
      replace R := own_pure (R.callS (pc' := 162) (argsL := [(.ref r18), (.ref r2), (.int (Int32.ofNat u)), (.int (Int32.ofNat v))]) (rest := []) (W := 0) (w94 hw) (w95 hw) (w2 hw) (w96 hw) (by decide) (rm_ma C.l Z a0 hw r18 r2 h28 n0 (q :: b5 :: r2 :: r1 :: Ds) own_cs own_si huv hv4 S28_3 S28_1) rfl (lenOf pd20 rfl) rfl rfl at_159 (by decide) (by decide) (by decide) (by decide) rfl)
      replace R := (((((R.ifN (pc' := 165) at_162 (feq (by decide : ¬ ((1 : Int32) = (0 : Int32)))).1 rfl).aload (pc' := 167) (v := (.ref r18)) at_165 rfl rfl rfl).aload (pc' := 169) (v := (.ref r18)) at_167 rfl rfl rfl).acmp (pc' := 172) (same := true) at_169 rfl rfl (decide_eq_true rfl) (by decide) (by decide)).aload (pc' := 174) (v := (.ref r28)) at_172 rfl rfl rfl).aloadN (pc' := 175) (v := (.ref r1)) at_174 rfl rfl rfl
      replace R := (R.iload (pc' := 177) (v := (Int32.ofNat s)) at_175 rfl rfl).iload (pc' := 179) (v := (Int32.ofNat e)) at_177 rfl rfl
      replace R := own_pure (R.callS (pc' := 182) (argsL := [(.ref r28), (.ref r1), (.int (Int32.ofNat s)), (.int (Int32.ofNat e))]) (rest := []) (W := 0) (w94 hw) (w95 hw) (w2 hw) (w96 hw) (by decide) (rm_ma C.l Z a0 hw r28 r1 h28 n0 (q :: b5 :: r2 :: r1 :: Ds) own_cs own_si hse he S28 S28_0) rfl (lenOf pd20 rfl) rfl rfl at_179 (by decide) (by decide) (by decide) (by decide) rfl)
      replace R := (((((R.ifN (pc' := 185) at_182 (feq (by decide : ¬ ((1 : Int32) = (0 : Int32)))).1 rfl).iload (pc' := 187) (v := (0 : Int32)) at_185 rfl rfl).ifY (pc' := 197) at_187 (teq (by decide : (0 : Int32) = (0 : Int32))).1 (by decide) rfl).iload (pc' := 199) (v := (0 : Int32)) at_197 rfl rfl).ifY (pc' := 209) at_199 (teq (by decide : (0 : Int32) = (0 : Int32))).1 (by decide) rfl).iconst (pc' := 210) (z := (1 : Int32)) at_209 rfl rfl
      replace R := R.goto (pc' := 214) at_210 (by decide) rfl
      exact R.retN (Ds' := []) hret (by simp) (show nar .boolean 1 = 1 from rfl) at_214 (by decide) (by decide) (fun _ q => nomatch q) rfl
  · have ht : ¬ (seg [ca0, ca1, ca2, ca3] s e) = (seg [cb0, cb1, cb2, cb3] u v) := fun z => hi (congrArg ix z).symm
    have K30 := ((Keep.refl hF [q]).trans K6 (allS (Or.inl (List.mem_of_getElem? (i := 0) rfl)) all0))
    have F31 := XF.keep K30
    have K32 := ((Keep.refl hF [q]).trans K6 (allS (Or.inl (List.mem_of_getElem? (i := 0) rfl)) all0))
    have F33 := FF.keep K32 (ninS nf6 nin0)
    have nb29 := notB_arh H6 (by decide)
    have nf29 := neArh F31 H6 (w35 hw)
    have ns29_0 := neArh S6_0.1 H6 (w6 hw)
    have ns29_1 := neArh S6_1.1 H6 (w6 hw)
    have ns29_2 := neArh S6.1 H6 (w6 hw)
    obtain ⟨_, h29, _, ⟨r29, rfl, S29, K29, H29, rfl⟩, R⟩ := R.callV (pc' := 95) (y := (⟨"provento/files/FieldTexts", "of", "(Ljava/lang/String;II)Ljava/lang/String;"⟩ : MethodName)) (z := (⟨"provento/files/FieldTexts", "of", "(Ljava/lang/String;II)Ljava/lang/String;"⟩ : MethodName)) (argsL := [(.ref r2), (.int (Int32.ofNat u)), (.int (Int32.ofNat v))]) (rest := []) (W := 0) (w45 hw) (w46 hw) (fun s' hZ' => notFace_of_selects (args := #[]) (mvT hZ' (w48 hw))) (w48 hw) (w47 hw) (w36 hw) (w49 hw) (by decide) F31 (rm_ofnull C.l Z a0 hw b5 r2 h6 n0 (q :: b5 :: r2 :: r1 :: Ds) own_cs own_si huv hv4 F31 F33 S6_1 H6 OF (List.mem_of_getElem? (i := 0) rfl) (getH_miss (ix_b _).1 hi (by simp [getH])) ) rfl (lenOf pd19 rfl) rfl rfl at_92 (by decide) (by decide) (by decide) (by decide) rfl
    have S29_0 := S6_0.keep K29 (ninS ns29_0 nin0) (allS nb29 all0)
    have S29_1 := S6_1.keep K29 (ninS ns29_1 nin0) (allS nb29 all0)
    have S29_2 := S6.keep K29 (ninS ns29_2 nin0) (allS nb29 all0)
    replace R := (((((R.mono (ce' := 12) (sl' := 16423) (by decide) (by decide)).stk (S' := [(.ref r29)]) rfl).astore (pc' := 97) (l' := #[.val (.int i0), .val (.int i1), .val (.int i2), .val (.ref r1), .val (.ref r2), .val (.int (Int32.ofNat s)), .val (.int (Int32.ofNat e)), .val (.int (Int32.ofNat u)), .val (.int (Int32.ofNat v)), .val (.ref b5), .val (.ref r6), .val (.ref r29), .unset, .unset, .unset]) at_95 rfl rfl rfl).aload (pc' := 99) (v := (.ref b5)) at_97 rfl rfl rfl).aload (pc' := 101) (v := (.ref r2)) at_99 rfl rfl rfl).iload (pc' := 103) (v := (Int32.ofNat u)) at_101 rfl rfl
    replace R := R.iload (pc' := 105) (v := (Int32.ofNat v)) at_103 rfl rfl
    have K35 := ((Keep.refl h6 [q]).trans K29 (allS (Or.inl (List.mem_of_getElem? (i := 0) rfl)) all0))
    have F36 := F31.keep K35
    have K37 := ((Keep.refl h6 [q]).trans K29 (allS (Or.inl (List.mem_of_getElem? (i := 0) rfl)) all0))
    have F38 := F33.keep K37 (ninS nf29 nin0)
    replace R := own_pure (R.callV (pc' := 108) (y := (⟨"provento/files/FieldTexts", "of", "(Ljava/lang/String;II)Ljava/lang/String;"⟩ : MethodName)) (z := (⟨"provento/files/FieldTexts", "of", "(Ljava/lang/String;II)Ljava/lang/String;"⟩ : MethodName)) (argsL := [(.ref r2), (.int (Int32.ofNat u)), (.int (Int32.ofNat v))]) (rest := []) (W := 0) (w45 hw) (w46 hw) (fun s' hZ' => notFace_of_selects (args := #[]) (mvT hZ' (w48 hw))) (w48 hw) (w47 hw) (w36 hw) (w49 hw) (by decide) F36 (rm_ofhit C.l Z a0 hw b5 r2 h29 n0 (q :: b5 :: r2 :: r1 :: Ds) own_cs own_si huv hv4 F36 F38 S29_1 H29 OF (List.mem_of_getElem? (i := 0) rfl) (getH_hit (ix_b _).1 rfl) S29) rfl (lenOf pd19 rfl) rfl rfl at_105 (by decide) (by decide) (by decide) (by decide) rfl)
    replace R := ((((R.astore (pc' := 110) (l' := #[.val (.int i0), .val (.int i1), .val (.int i2), .val (.ref r1), .val (.ref r2), .val (.int (Int32.ofNat s)), .val (.int (Int32.ofNat e)), .val (.int (Int32.ofNat u)), .val (.int (Int32.ofNat v)), .val (.ref b5), .val (.ref r6), .val (.ref r29), .val (.ref r29), .unset, .unset]) at_108 rfl rfl rfl).aload (pc' := 112) (v := (.ref b5)) at_110 rfl rfl rfl).aloadN (pc' := 113) (v := (.ref r1)) at_112 rfl rfl rfl).iload (pc' := 115) (v := (Int32.ofNat s)) at_113 rfl rfl).iload (pc' := 117) (v := (Int32.ofNat e)) at_115 rfl rfl
    replace R := own_pure (R.callV (pc' := 120) (y := (⟨"provento/files/FieldTexts", "of", "(Ljava/lang/String;II)Ljava/lang/String;"⟩ : MethodName)) (z := (⟨"provento/files/FieldTexts", "of", "(Ljava/lang/String;II)Ljava/lang/String;"⟩ : MethodName)) (argsL := [(.ref r1), (.int (Int32.ofNat s)), (.int (Int32.ofNat e))]) (rest := []) (W := 0) (w45 hw) (w46 hw) (fun s' hZ' => notFace_of_selects (args := #[]) (mvT hZ' (w48 hw))) (w48 hw) (w47 hw) (w36 hw) (w49 hw) (by decide) F36 (rm_ofhit C.l Z a0 hw b5 r1 h29 n0 (q :: b5 :: r2 :: r1 :: Ds) own_cs own_si hse he F36 F38 S29_0 H29 OF (List.mem_of_getElem? (i := 0) rfl) (getH_miss (ix_b _).1 (fun z => hi z.symm) (getH_hit (ix_b _).1 rfl)) S29_2) rfl (lenOf pd19 rfl) rfl rfl at_117 (by decide) (by decide) (by decide) (by decide) rfl)
    replace R := (((((R.astore (pc' := 122) (l' := #[.val (.int i0), .val (.int i1), .val (.int i2), .val (.ref r1), .val (.ref r2), .val (.int (Int32.ofNat s)), .val (.int (Int32.ofNat e)), .val (.int (Int32.ofNat u)), .val (.int (Int32.ofNat v)), .val (.ref b5), .val (.ref r6), .val (.ref r29), .val (.ref r29), .val (.ref r6), .unset]) at_120 rfl rfl rfl).aloadN (pc' := 123) (v := (.ref r1)) at_122 rfl rfl rfl).iload (pc' := 125) (v := (Int32.ofNat s)) at_123 rfl rfl).iload (pc' := 127) (v := (Int32.ofNat e)) at_125 rfl rfl).aload (pc' := 129) (v := (.ref r2)) at_127 rfl rfl rfl).iload (pc' := 131) (v := (Int32.ofNat u)) at_129 rfl rfl
    replace R := R.iload (pc' := 133) (v := (Int32.ofNat v)) at_131 rfl rfl
    replace R := own_pure (R.callS (pc' := 136) (argsL := [(.ref r1), (.int (Int32.ofNat s)), (.int (Int32.ofNat e)), (.ref r2), (.int (Int32.ofNat u)), (.int (Int32.ofNat v))]) (rest := []) (W := 0) (w91 hw) (w92 hw) (w2 hw) (w93 hw) (by decide) (rm_rg C.l Z a0 hw r1 r2 h29 n0 (q :: b5 :: r2 :: r1 :: Ds) own_cs own_si (cs := [ca0, ca1, ca2, ca3]) (ds := [cb0, cb1, cb2, cb3]) (i := s) (j := e) (k := u) (l := v) hse he huv hv4 (by omega) (Nat.le_of_ble_eq_true rfl) (Nat.le_of_ble_eq_true rfl) S29_0 S29_1) rfl (lenOf pd16 rfl) rfl rfl at_133 (by decide) (by decide) (by decide) (by decide) rfl)
    replace R := R.stk (congrArg (fun z => ([Value.int z] : List Value)) (show bi (decide ((seg [ca0, ca1, ca2, ca3] s e) = (seg [cb0, cb1, cb2, cb3] u v))) = (0 : Int32) by rw [decide_eq_false ht]; rfl))
    replace R := ((((R.istore (pc' := 138) (l' := #[.val (.int i0), .val (.int i1), .val (.int i2), .val (.ref r1), .val (.ref r2), .val (.int (Int32.ofNat s)), .val (.int (Int32.ofNat e)), .val (.int (Int32.ofNat u)), .val (.int (Int32.ofNat v)), .val (.ref b5), .val (.ref r6), .val (.ref r29), .val (.ref r29), .val (.ref r6), .val (.int (0 : Int32))]) at_136 rfl rfl).aload (pc' := 140) (v := (.ref r6)) at_138 rfl rfl rfl).aloadN (pc' := 141) (v := (.ref r1)) at_140 rfl rfl rfl).iload (pc' := 143) (v := (Int32.ofNat s)) at_141 rfl rfl).iload (pc' := 145) (v := (Int32.ofNat e)) at_143 rfl rfl
    replace R := own_pure (R.callS (pc' := 148) (argsL := [(.ref r6), (.ref r1), (.int (Int32.ofNat s)), (.int (Int32.ofNat e))]) (rest := []) (W := 0) (w94 hw) (w95 hw) (w2 hw) (w96 hw) (by decide) (rm_ma C.l Z a0 hw r6 r1 h29 n0 (q :: b5 :: r2 :: r1 :: Ds) own_cs own_si hse he S29_2 S29_0) rfl (lenOf pd20 rfl) rfl rfl at_145 (by decide) (by decide) (by decide) (by decide) rfl)
    replace R := ((((R.ifN (pc' := 151) at_148 (feq (by decide : ¬ ((1 : Int32) = (0 : Int32)))).1 rfl).aload (pc' := 153) (v := (.ref r29)) at_151 rfl rfl rfl).aload (pc' := 155) (v := (.ref r2)) at_153 rfl rfl rfl).iload (pc' := 157) (v := (Int32.ofNat u)) at_155 rfl rfl).iload (pc' := 159) (v := (Int32.ofNat v)) at_157 rfl rfl
    replace R := own_pure (R.callS (pc' := 162) (argsL := [(.ref r29), (.ref r2), (.int (Int32.ofNat u)), (.int (Int32.ofNat v))]) (rest := []) (W := 0) (w94 hw) (w95 hw) (w2 hw) (w96 hw) (by decide) (rm_ma C.l Z a0 hw r29 r2 h29 n0 (q :: b5 :: r2 :: r1 :: Ds) own_cs own_si huv hv4 S29 S29_1) rfl (lenOf pd20 rfl) rfl rfl at_159 (by decide) (by decide) (by decide) (by decide) rfl)
    replace R := (((((R.ifN (pc' := 165) at_162 (feq (by decide : ¬ ((1 : Int32) = (0 : Int32)))).1 rfl).aload (pc' := 167) (v := (.ref r29)) at_165 rfl rfl rfl).aload (pc' := 169) (v := (.ref r29)) at_167 rfl rfl rfl).acmp (pc' := 172) (same := true) at_169 rfl rfl (decide_eq_true rfl) (by decide) (by decide)).aload (pc' := 174) (v := (.ref r6)) at_172 rfl rfl rfl).aloadN (pc' := 175) (v := (.ref r1)) at_174 rfl rfl rfl
    replace R := (R.iload (pc' := 177) (v := (Int32.ofNat s)) at_175 rfl rfl).iload (pc' := 179) (v := (Int32.ofNat e)) at_177 rfl rfl
    replace R := own_pure (R.callS (pc' := 182) (argsL := [(.ref r6), (.ref r1), (.int (Int32.ofNat s)), (.int (Int32.ofNat e))]) (rest := []) (W := 0) (w94 hw) (w95 hw) (w2 hw) (w96 hw) (by decide) (rm_ma C.l Z a0 hw r6 r1 h29 n0 (q :: b5 :: r2 :: r1 :: Ds) own_cs own_si hse he S29_2 S29_0) rfl (lenOf pd20 rfl) rfl rfl at_179 (by decide) (by decide) (by decide) (by decide) rfl)
    replace R := (((((R.ifN (pc' := 185) at_182 (feq (by decide : ¬ ((1 : Int32) = (0 : Int32)))).1 rfl).iload (pc' := 187) (v := (0 : Int32)) at_185 rfl rfl).ifY (pc' := 197) at_187 (teq (by decide : (0 : Int32) = (0 : Int32))).1 (by decide) rfl).iload (pc' := 199) (v := (0 : Int32)) at_197 rfl rfl).ifY (pc' := 209) at_199 (teq (by decide : (0 : Int32) = (0 : Int32))).1 (by decide) rfl).iconst (pc' := 210) (z := (1 : Int32)) at_209 rfl rfl
    replace R := R.goto (pc' := 214) at_210 (by decide) rfl
    exact R.retN (Ds' := []) hret (by simp) (show nar .boolean 1 = 1 from rfl) at_214 (by decide) (by decide) (fun _ q => nomatch q) rfl
set_option maxRecDepth 65536 in
set_option maxHeartbeats 40000000 in
theorem comes_1 {Post : Tables → Env → Array Value → State → Outcome → State → Prop} (hpost : ∀ tb e args s v u, (limb_1_1.after args s (.returned v) u = true ∧ limb_1_2.after args s (.returned v) u = true ∧ True) → ReturnedEndW s (.returned v) u (Jvm.fieldLocs frame_1_writes args s ++ Jvm.arrayLocs frame_1_arrays args s ++ Jvm.staticLocs frame_1_statics s) 40 33984 → Post tb e args s (.returned v) u) :
    ArmFor flags0 classFile x code maxLocals ret World_1 tables_1 room_1 Calls_1 rest_1 Pre_1 Post := by
  intro l hfl _ _ p e ha hc hk s m args below hf hA hF happ hP
  obtain ⟨hcalls, hrest, hpre⟩ := hP
  obtain ⟨-, -, -, hnamed, -, -, -, hat⟩ := (Spec.applies_iff hf).mp happ
  obtain ⟨hg, hn⟩ := and_e (Cond.before_iff.mp (show (Jvm.Cond.and given_1 narrow_1).before args s = true from hpre))
  obtain ⟨g1, g2⟩ := and_e hg
  obtain ⟨g3, g4⟩ := and_e g2
  obtain ⟨g5, g6⟩ := and_e g4
  obtain ⟨w0, w1, w2, rfl⟩ : ∃ w0 w1 w2 : Value, args = #[w0, w1, w2] := by
    have hs : args.size = 3 := by simpa [Cond.value, given_1] using g1
    obtain ⟨L⟩ := args
    match L, hs with
    | [w0, w1, w2], _ => exact ⟨w0, w1, w2, rfl⟩
  have hw := fun d (hd : d ∈ tables_1) => atoms_spec (ws := Jvm.Cond.code x code maxLocals ret :: tables_1) hat d (List.mem_cons_of_mem _ hd)
  have hfit : Fit s := fun {y c} hc i hi => by
    obtain ⟨ha, rfl⟩ := Array.getElem?_eq_some_iff.mp hc
    have q := List.all_eq_true.mp ((Array.all_eq_true_iff_forall_mem.mp hF) _ (Array.getElem_mem ha)) i (List.mem_range.mpr hi)
    simpa [Array.getElem?_eq_getElem hi] using q
  obtain ⟨hsets, hown0⟩ := atoms_of _ (rest_1_c_eq ▸ (show rest_1_c.before _ s = true from hrest))
  have hr0 := Cond.before_iff.mp hown0
  have own_cs : CompactOn s := by
    have n3 := not_v (Cond.before_iff.mp (hsets _ (List.mem_of_getElem? (i := 2) rfl)))
    obtain ⟨i7, e6⟩ := is_v (Cond.before_iff.mp (hsets _ (List.mem_of_getElem? (i := 1) rfl)))
    refine ⟨i7, Sta.start e6 (Or.inl (hsets _ (List.mem_of_getElem? (i := 0) rfl))), fun e0 => ?_⟩
    subst e0
    have q := eq_i e6 (Term.int_eval (0 : Int32)) rfl
    rw [q] at n3; cases n3
  have own_si : SiooOk s := by
    obtain ⟨v9, e10, r11⟩ := isR_v (Cond.before_iff.mp (hsets _ (List.mem_of_getElem? (i := 8) rfl)))
    exact ⟨v9, Sta.start e10 (Or.inl (hsets _ (List.mem_of_getElem? (i := 7) rfl))), r11⟩
  obtain ⟨i0, ei0⟩ := is_v g3
  obtain rfl : w0 = (.int i0) := Option.some.inj ei0
  obtain ⟨i1, ei1⟩ := is_v g5
  obtain rfl : w1 = (.int i1) := Option.some.inj ei1
  obtain ⟨i2, ei2⟩ := is_v g6
  obtain rfl : w2 = (.int i2) := Option.some.inj ei2
  have hcw : Jvm.Lit.compactW.before (#[(.int i0), (.int i1), (.int i2)] : Array Value) s = true := (hsets _ (List.mem_of_getElem? (i := 2) rfl))
  have wS : ∀ d ∈ Bundle.stringAtoms, d.before _ s = true := fun d hd => hw d ((by decide +kernel : ∀ d ∈ Bundle.stringAtoms, d ∈ tables_1) d hd)
  have hlk : Lk s := by
    intro own idx hm
    simp only [CL, consts_1, List.mem_cons, List.not_mem_nil, or_false, Prod.mk.injEq] at hm
    rcases hm with ⟨rfl, rfl⟩
    · exact ⟨_, _, (w82 hw), by decide +kernel, wS⟩
  have hlit : ∀ (own : String) (idx : Nat), (own, idx) ∈ CL → ConstHeldL s own idx := by
    intro own idx hm
    have hh : Jvm.Lit.constHeld s own idx := hcalls.1 (own, idx) hm
    have wi := wS _ (List.mem_of_getElem? (i := 1) rfl)
    have wa := wS _ (List.mem_of_getElem? (i := 2) rfl)
    simp only [CL, consts_1, List.mem_cons, List.not_mem_nil, or_false, Prod.mk.injEq] at hm
    rcases hm with ⟨rfl, rfl⟩
    · exact heldStart hh (w82 hw) (by decide +kernel) hcw wa wi
  have J0 : JJ s s.heap.size s.vm s.heap [] := ⟨Old.start s, fun e0 => (nomatch e0), fun x hx => (nomatch hx), hlk, fun own idx hm c k cf i units a q1 q2 q3 q4 q5 q6 => own_sx0 (hlit own idx hm c k cf i units a q1 q2 q3 q4 q5 q6)⟩
  obtain ⟨n, o, h1, h2, h3, v, L, Ds', rfl, hQ, hJ, hFr, hE⟩ := rm_law l s _ hw i0 i1 i2 s.heap s.heap.size [] own_cs own_si p e ha hc hk s m _ below hf ((Spec.applies_iff_loose hf).mp happ).1 ⟨rfl, State.Warmed39.refl s, rfl, J0⟩ trivial
  subst hQ
  refine ⟨n, _, h1, h2, h3, hpost _ _ _ _ _ _ ⟨Cond.after_iff.mpr rfl, Cond.after_iff.mpr (eq_i res_at (Term.int_eval (1)) rfl), trivial⟩ ⟨hE.1, hE.2.1, hE.2.2.1, (hE.2.2.2.sift fun y hy => Or.inr (hFr y hy)).mono (by decide) (by decide)⟩⟩
theorem main_1_1 : Claimed_1_1 := comes_1 fun _ _ _ _ _ _ h hF => ⟨h.1, hF⟩
theorem main_1_2 : Claimed_1_2 := comes_1 fun _ _ _ _ _ _ h hF => ⟨h.2.1, hF⟩
end Jvm.Pilot.@@N@@

namespace Jvm.Pilot.@@N@@
open Jvm Jvm.ClassFile Sem Op Lib Jvm.Free Jvm.Stand Jvm.Pilot.@@N@@.Jvm.D
/-! MADE BY PROGRAM (witnessworld.py) out of the Statement's table words and the real class files: 24 classes; the members and pool entries that the words name. The judged class is class 1, her method 1. -/
namespace start1
open Jvm.ClassFile
def u (s : String) : CpInfo := .utf8 (stringToUtf16 s)
/-- a pool by its gaps: so many unusable entries, then the entry; so many at the end -/
def gap : Nat → List CpInfo → List CpInfo
  | 0, r => r
  | n + 1, r => .unusable :: gap n r
def poolList (es : List (Nat × CpInfo)) (last : Nat) : List CpInfo := es.foldr (fun e r => gap e.1 (e.2 :: r)) (gap last [])
def pool (es : List (Nat × CpInfo)) (last : Nat) : Array CpInfo := ⟨poolList es last⟩
def fileOf (pool : Array CpInfo) (this : Nat) (attrs : Array Attribute := #[]) (ms : Array MethodInfo := #[]) (fl : Nat := 33) (sup : Nat := 0) (ifs : Array Nat := #[]) (fds : Array FieldInfo := #[]) : ClassFile where
  minorVersion := 0
  majorVersion := 65
  constantPool := pool
  accessFlags := fl
  thisClass := this
  superClass := sup
  interfaces := ifs
  fields := fds
  methods := ms
  attributes := attrs
def plain (name : String) (sup : Option ClassId) : Class where
  name := name
  kind := .ordinary
  loader := none
  accessFlags := 33
  super := sup
  interfaces := #[]
  cf := none
  fields := #[]
  methods := #[]
  instanceTypes := #[]
  staticTypes := #[]
  resolved := #[]
  callSites := []
  init := .initialized
  statics := none
  mirror := none

def pool0 : Array CpInfo := pool [(5, u "<init>"), (0, u "()V"), (1, .class_ 10), (1, u "java/lang/Object")] 113

def k0c0 : Code := { maxStack := 0, maxLocals := 1, code := object_method_1_code, exceptionTable := #[], attributes := #[] }
def k0m0 : Method := { name := "<init>", desc := "()V", sig := { parameters := [], returnType := none }, accessFlags := 1, code := some k0c0 }
/-- java/lang/Object -/
def k0 : Class := { plain "java/lang/Object" none with
  accessFlags := 33
  interfaces := #[]
  cf := some (fileOf pool0 8 #[] #[{ accessFlags := 1, nameIndex := 5, descriptorIndex := 6, attributes := #[] }] 33 0 #[] #[])
  fields := #[]
  methods := #[k0m0]
  instanceTypes := #[]
  staticTypes := #[]
  resolved := Array.replicate 124 none
  statics := none }

def pool1 : Array CpInfo := pool [(2, .class_ 4), (0, .nameAndType 5 6), (0, u "java/lang/Object"), (0, u "<init>"), (0, u "()V"), (0, .methodref 8 9), (0, .class_ 10), (0, .nameAndType 11 12), (0, u "provento/files/FieldTextsOfPinLaw"), (0, u "line"), (0, u "(I)Ljava/lang/String;"), (0, .class_ 14), (0, u "provento/files/FieldTexts"), (0, .methodref 13 3), (0, .methodref 13 17), (0, .nameAndType 18 19), (0, u "of"), (0, u "(Ljava/lang/String;II)Ljava/lang/String;"), (0, .methodref 8 21), (0, .nameAndType 22 23), (0, u "region"), (0, u "(Ljava/lang/String;IILjava/lang/String;II)Z"), (0, .methodref 8 25), (0, .nameAndType 26 27), (0, u "matches"), (0, u "(Ljava/lang/String;Ljava/lang/String;II)Z"), (0, .class_ 29), (0, u "java/lang/String"), (0, .methodref 28 31), (0, .nameAndType 5 32), (0, u "([C)V"), (0, .methodref 28 34), (0, .nameAndType 35 36), (0, u "length"), (0, u "()I"), (0, .methodref 28 38), (0, .nameAndType 39 40), (0, u "charAt"), (0, u "(I)C"), (2, u "law"), (0, u "(III)Z")] 3

def k1m0 : Method := { name := "<init>", desc := "()V", sig := { parameters := [], returnType := none }, accessFlags := 1, code := none }
def k1c1 : Code := { maxStack := 6, maxLocals := 15, code := code, exceptionTable := #[], attributes := #[] }
def k1m1 : Method := { name := "law", desc := "(III)Z", sig := { parameters := [.int, .int, .int], returnType := some .boolean }, accessFlags := 9, code := some k1c1 }
def k1c2 : Code := { maxStack := 4, maxLocals := 2, code := method_3_code, exceptionTable := #[], attributes := #[] }
def k1m2 : Method := { name := "line", desc := "(I)Ljava/lang/String;", sig := { parameters := [.int], returnType := some (.object "java/lang/String") }, accessFlags := 10, code := some k1c2 }
def k1c3 : Code := { maxStack := 6, maxLocals := 4, code := method_4_code, exceptionTable := #[], attributes := #[] }
def k1m3 : Method := { name := "matches", desc := "(Ljava/lang/String;Ljava/lang/String;II)Z", sig := { parameters := [(.object "java/lang/String"), (.object "java/lang/String"), .int, .int], returnType := some .boolean }, accessFlags := 10, code := some k1c3 }
def k1c4 : Code := { maxStack := 4, maxLocals := 7, code := method_5_code, exceptionTable := #[], attributes := #[] }
def k1m4 : Method := { name := "region", desc := "(Ljava/lang/String;IILjava/lang/String;II)Z", sig := { parameters := [(.object "java/lang/String"), .int, .int, (.object "java/lang/String"), .int, .int], returnType := some .boolean }, accessFlags := 10, code := some k1c4 }
/-- provento/files/FieldTextsOfPinLaw -/
def k1 : Class := { plain "provento/files/FieldTextsOfPinLaw" (some 0) with
  accessFlags := 49
  interfaces := #[]
  cf := some (fileOf pool1 8 #[] #[{ accessFlags := 1, nameIndex := 5, descriptorIndex := 6, attributes := #[] }, { accessFlags := 9, nameIndex := 43, descriptorIndex := 44, attributes := #[] }, { accessFlags := 10, nameIndex := 11, descriptorIndex := 12, attributes := #[] }, { accessFlags := 10, nameIndex := 26, descriptorIndex := 27, attributes := #[] }, { accessFlags := 10, nameIndex := 22, descriptorIndex := 23, attributes := #[] }] 49 2 #[] #[])
  fields := #[]
  methods := #[k1m0, k1m1, k1m2, k1m3, k1m4]
  instanceTypes := #[]
  staticTypes := #[]
  resolved := Array.replicate 48 none
  statics := none }

def pool2 : Array CpInfo := pool [(1, .class_ 2), (0, u "java/io/Serializable"), (0, .class_ 4), (0, u "java/lang/Object")] 2

/-- java/io/Serializable -/
def k2 : Class := { plain "java/io/Serializable" (some 0) with
  accessFlags := 1537
  interfaces := #[]
  cf := some (fileOf pool2 1 #[] #[] 1537 3 #[] #[])
  fields := #[]
  methods := #[]
  instanceTypes := #[]
  staticTypes := #[]
  resolved := Array.replicate 7 none
  statics := none }

def pool3 : Array CpInfo := pool [(1, .class_ 2), (0, u "java/lang/Comparable"), (0, .class_ 4), (0, u "java/lang/Object")] 7

/-- java/lang/Comparable -/
def k3 : Class := { plain "java/lang/Comparable" (some 0) with
  accessFlags := 1537
  interfaces := #[]
  cf := some (fileOf pool3 1 #[] #[] 1537 3 #[] #[])
  fields := #[]
  methods := #[]
  instanceTypes := #[]
  staticTypes := #[]
  resolved := Array.replicate 12 none
  statics := none }

def pool4 : Array CpInfo := pool [(2, .class_ 4), (1, u "java/lang/CharSequence"), (42, .class_ 48), (0, u "java/lang/CharSequence$1CodePointIterator"), (10, .class_ 60), (0, u "java/lang/CharSequence$1CharIterator"), (5, .class_ 67), (0, u "java/lang/Object")] 63

/-- java/lang/CharSequence -/
def k4 : Class := { plain "java/lang/CharSequence" (some 0) with
  accessFlags := 1537
  interfaces := #[]
  cf := some (fileOf pool4 2 #[.nestMembers #[47, 59]] #[] 1537 66 #[] #[])
  fields := #[]
  methods := #[]
  instanceTypes := #[]
  staticTypes := #[]
  resolved := Array.replicate 131 none
  statics := none }

def pool5 : Array CpInfo := pool [(1, .class_ 2), (0, u "java/lang/constant/Constable"), (0, .class_ 4), (0, u "java/lang/Object")] 6

/-- java/lang/constant/Constable -/
def k5 : Class := { plain "java/lang/constant/Constable" (some 0) with
  accessFlags := 1537
  interfaces := #[]
  cf := some (fileOf pool5 1 #[] #[] 1537 3 #[] #[])
  fields := #[]
  methods := #[]
  instanceTypes := #[]
  staticTypes := #[]
  resolved := Array.replicate 11 none
  statics := none }

def pool6 : Array CpInfo := pool [(1, .class_ 2), (0, u "java/lang/constant/ConstantDesc"), (0, .class_ 4), (0, u "java/lang/Object")] 32

/-- java/lang/constant/ConstantDesc -/
def k6 : Class := { plain "java/lang/constant/ConstantDesc" (some 0) with
  accessFlags := 1537
  interfaces := #[]
  cf := some (fileOf pool6 1 #[] #[] 1537 3 #[] #[])
  fields := #[]
  methods := #[]
  instanceTypes := #[]
  staticTypes := #[]
  resolved := Array.replicate 37 none
  statics := none }

def pool7 : Array CpInfo := pool [(1, .methodref 2 3), (0, .class_ 4), (0, .nameAndType 5 6), (0, u "java/lang/Object"), (0, u "<init>"), (0, u "()V"), (2, .fieldref 10 11), (0, .class_ 12), (0, .nameAndType 13 14), (0, u "java/lang/String"), (0, u "value"), (0, u "[B"), (0, .fieldref 10 16), (0, .nameAndType 17 18), (0, u "coder"), (0, u "B"), (2, u "hash"), (0, u "I"), (2, u "hashIsZero"), (0, u "Z"), (0, .methodref 10 28), (0, .nameAndType 5 29), (0, u "([CIILjava/lang/Void;)V"), (8, .fieldref 10 39), (0, .nameAndType 40 26), (0, u "COMPACT_STRINGS"), (1, .class_ 44), (1, u "java/lang/StringUTF16"), (0, u "compress"), (1, .methodref 42 48), (0, .nameAndType 49 50), (0, u "coderFromArrayLen"), (0, u "([BI)B"), (56, .class_ 109), (1, u "java/lang/StringLatin1"), (32, u "()Z"), (34, .methodref 42 178), (0, .nameAndType 45 179), (0, u "([CII)[B"), (31, u "([BB)V"), (122, u "()I"), (0, .methodref 10 336), (0, .nameAndType 17 337), (0, u "()B"), (25, u "([BI)C"), (12, u "([BI[BII)I"), (14, u "(II)V"), (35, u "(I)C"), (64, .methodref 10 493), (0, .nameAndType 494 142), (0, u "isLatin1"), (0, .methodref 107 496), (0, .nameAndType 497 363), (0, u "charAt"), (3, u "checkIndex"), (3, .methodref 10 506), (0, .nameAndType 507 334), (0, u "length"), (5, u "checkFromToIndex"), (7, .methodref 10 522), (0, .nameAndType 523 524), (0, u "checkBoundsBeginEnd"), (0, u "(III)V"), (34, .class_ 561), (1, u "jdk/internal/util/ArraysSupport"), (0, u "mismatch"), (12, .class_ 576), (0, u "java/lang/CharSequence"), (7, u "regionMatches"), (14, u "CASE_INSENSITIVE_ORDER"), (0, u "Ljava/util/Comparator;"), (6, .methodref 559 608), (0, .nameAndType 562 376), (3, u "(ILjava/lang/String;II)Z"), (70, u "substring"), (0, u "(II)Ljava/lang/String;"), (0, .methodref 107 686), (0, .nameAndType 687 688), (0, u "newString"), (0, u "([BII)Ljava/lang/String;"), (321, u "([C)V"), (42, .fieldref 1054 1055), (0, .class_ 1056), (0, .nameAndType 1057 1058), (0, u "jdk/internal/util/Preconditions"), (0, u "SIOOBE_FORMATTER"), (0, u "Ljava/util/function/BiFunction;"), (0, .methodref 1054 1060), (0, .nameAndType 501 1061), (0, u "(IILjava/util/function/BiFunction;)I"), (0, .methodref 1054 1063), (0, .nameAndType 513 1064), (0, u "(IIILjava/util/function/BiFunction;)I"), (36, u "serialPersistentFields"), (0, u "[Ljava/io/ObjectStreamField;"), (0, .class_ 1104), (0, u "java/lang/String$CaseInsensitiveComparator"), (1, .class_ 1107), (0, u "java/io/Serializable"), (0, .class_ 1109), (0, u "java/lang/Comparable"), (0, .class_ 1111), (0, u "java/lang/constant/Constable"), (0, .class_ 1113), (0, u "java/lang/constant/ConstantDesc"), (2, u "serialVersionUID"), (0, u "J"), (3, u "REPL"), (0, u "C"), (2, u "LATIN1"), (1, u "UTF16")] 323

def k7m0 : Method := { name := "<init>", desc := "()V", sig := { parameters := [], returnType := none }, accessFlags := 1, code := none }
def k7c1 : Code := { maxStack := 5, maxLocals := 2, code := jdk_42_method_3_code, exceptionTable := #[], attributes := #[] }
def k7m1 : Method := { name := "<init>", desc := "([C)V", sig := { parameters := [(.array .char)], returnType := none }, accessFlags := 1, code := some k7c1 }
def k7c2 : Code := { maxStack := 2, maxLocals := 1, code := jdk_42_method_54_code, exceptionTable := #[], attributes := #[] }
def k7m2 : Method := { name := "length", desc := "()I", sig := { parameters := [], returnType := some .int }, accessFlags := 1, code := some k7c2 }
def k7c3 : Code := { maxStack := 2, maxLocals := 2, code := jdk_42_method_56_code, exceptionTable := #[], attributes := #[] }
def k7m3 : Method := { name := "charAt", desc := "(I)C", sig := { parameters := [.int], returnType := some .char }, accessFlags := 1, code := some k7c3 }
def k7c4 : Code := { maxStack := 6, maxLocals := 8, code := jdk_42_method_73_code, exceptionTable := #[], attributes := #[] }
def k7m4 : Method := { name := "regionMatches", desc := "(ILjava/lang/String;II)Z", sig := { parameters := [.int, (.object "java/lang/String"), .int, .int], returnType := some .boolean }, accessFlags := 1, code := some k7c4 }
def k7c5 : Code := { maxStack := 3, maxLocals := 5, code := jdk_42_method_92_code, exceptionTable := #[], attributes := #[] }
def k7m5 : Method := { name := "substring", desc := "(II)Ljava/lang/String;", sig := { parameters := [.int, .int], returnType := some (.object "java/lang/String") }, accessFlags := 1, code := some k7c5 }
def k7c6 : Code := { maxStack := 4, maxLocals := 6, code := jdk_42_method_149_code, exceptionTable := #[], attributes := #[] }
def k7m6 : Method := { name := "<init>", desc := "([CIILjava/lang/Void;)V", sig := { parameters := [(.array .char), .int, .int, (.object "java/lang/Void")], returnType := none }, accessFlags := 2, code := some k7c6 }
def k7c7 : Code := { maxStack := 2, maxLocals := 3, code := jdk_42_method_151_code, exceptionTable := #[], attributes := #[] }
def k7m7 : Method := { name := "<init>", desc := "([BB)V", sig := { parameters := [(.array .byte), .byte], returnType := none }, accessFlags := 0, code := some k7c7 }
def k7c8 : Code := { maxStack := 1, maxLocals := 1, code := jdk_42_method_152_code, exceptionTable := #[], attributes := #[] }
def k7m8 : Method := { name := "coder", desc := "()B", sig := { parameters := [], returnType := some .byte }, accessFlags := 0, code := some k7c8 }
def k7c9 : Code := { maxStack := 1, maxLocals := 1, code := jdk_42_method_154_code, exceptionTable := #[], attributes := #[] }
def k7m9 : Method := { name := "isLatin1", desc := "()Z", sig := { parameters := [], returnType := some .boolean }, accessFlags := 0, code := some k7c9 }
def k7c10 : Code := { maxStack := 3, maxLocals := 2, code := jdk_42_method_155_code, exceptionTable := #[], attributes := #[] }
def k7m10 : Method := { name := "checkIndex", desc := "(II)V", sig := { parameters := [.int, .int], returnType := none }, accessFlags := 8, code := some k7c10 }
def k7c11 : Code := { maxStack := 4, maxLocals := 3, code := jdk_42_method_158_code, exceptionTable := #[], attributes := #[] }
def k7m11 : Method := { name := "checkBoundsBeginEnd", desc := "(III)V", sig := { parameters := [.int, .int, .int], returnType := none }, accessFlags := 8, code := some k7c11 }
/-- java/lang/String -/
def k7 : Class := { plain "java/lang/String" (some 0) with
  accessFlags := 49
  interfaces := #[2, 3, 4, 5, 6]
  cf := some (fileOf pool7 10 #[.nestMembers #[1103]] #[{ accessFlags := 1, nameIndex := 5, descriptorIndex := 6, attributes := #[] }, { accessFlags := 1, nameIndex := 5, descriptorIndex := 1010, attributes := #[] }, { accessFlags := 1, nameIndex := 507, descriptorIndex := 334, attributes := #[] }, { accessFlags := 1, nameIndex := 497, descriptorIndex := 427, attributes := #[] }, { accessFlags := 1, nameIndex := 584, descriptorIndex := 612, attributes := #[] }, { accessFlags := 1, nameIndex := 683, descriptorIndex := 684, attributes := #[] }, { accessFlags := 2, nameIndex := 5, descriptorIndex := 29, attributes := #[] }, { accessFlags := 0, nameIndex := 5, descriptorIndex := 211, attributes := #[] }, { accessFlags := 0, nameIndex := 17, descriptorIndex := 337, attributes := #[] }, { accessFlags := 0, nameIndex := 494, descriptorIndex := 142, attributes := #[] }, { accessFlags := 8, nameIndex := 501, descriptorIndex := 391, attributes := #[] }, { accessFlags := 8, nameIndex := 523, descriptorIndex := 524, attributes := #[] }] 49 2 #[1106, 1108, 575, 1110, 1112] #[{ accessFlags := 18, nameIndex := 13, descriptorIndex := 14, attributes := #[] }, { accessFlags := 18, nameIndex := 17, descriptorIndex := 18, attributes := #[] }, { accessFlags := 2, nameIndex := 21, descriptorIndex := 22, attributes := #[] }, { accessFlags := 2, nameIndex := 25, descriptorIndex := 26, attributes := #[] }, { accessFlags := 26, nameIndex := 1116, descriptorIndex := 1117, attributes := #[] }, { accessFlags := 24, nameIndex := 40, descriptorIndex := 26, attributes := #[] }, { accessFlags := 26, nameIndex := 1101, descriptorIndex := 1102, attributes := #[] }, { accessFlags := 26, nameIndex := 1121, descriptorIndex := 1122, attributes := #[] }, { accessFlags := 25, nameIndex := 599, descriptorIndex := 600, attributes := #[] }, { accessFlags := 24, nameIndex := 1125, descriptorIndex := 18, attributes := #[] }, { accessFlags := 24, nameIndex := 1127, descriptorIndex := 18, attributes := #[] }])
  fields := #[{ name := "value", type := (.array .byte), accessFlags := 18, slot := 0, constantValue := 0 }, { name := "coder", type := .byte, accessFlags := 18, slot := 1, constantValue := 0 }, { name := "hash", type := .int, accessFlags := 2, slot := 2, constantValue := 0 }, { name := "hashIsZero", type := .boolean, accessFlags := 2, slot := 3, constantValue := 0 }, { name := "serialVersionUID", type := .long, accessFlags := 26, slot := 0, constantValue := 0 }, { name := "COMPACT_STRINGS", type := .boolean, accessFlags := 24, slot := 1, constantValue := 0 }, { name := "serialPersistentFields", type := (.array (.object "java/io/ObjectStreamField")), accessFlags := 26, slot := 2, constantValue := 0 }, { name := "REPL", type := .char, accessFlags := 26, slot := 3, constantValue := 0 }, { name := "CASE_INSENSITIVE_ORDER", type := (.object "java/util/Comparator"), accessFlags := 25, slot := 4, constantValue := 0 }, { name := "LATIN1", type := .byte, accessFlags := 24, slot := 5, constantValue := 0 }, { name := "UTF16", type := .byte, accessFlags := 24, slot := 6, constantValue := 0 }]
  methods := #[k7m0, k7m1, k7m2, k7m3, k7m4, k7m5, k7m6, k7m7, k7m8, k7m9, k7m10, k7m11]
  instanceTypes := #[(.array .byte), .byte, .int, .boolean]
  staticTypes := #[.long, .boolean, (.array (.object "java/io/ObjectStreamField")), .char, (.object "java/util/Comparator"), .byte, .byte]
  resolved := Array.replicate 1451 none
  statics := some 0 }

def pool8 : Array CpInfo := pool [(6, .class_ 8), (1, u "java/lang/Object"), (0, u "<init>"), (0, u "()V"), (1, .class_ 14), (1, u "java/lang/StringUTF16"), (31, u "$assertionsDisabled"), (0, u "Z"), (13, u "HI_BYTE_SHIFT"), (0, u "I"), (2, u "LO_BYTE_SHIFT"), (49, .methodref 12 116), (0, .nameAndType 117 118), (0, u "compress"), (0, u "([CI[BII)I"), (3, u "([CII)[B"), (138, u "coderFromArrayLen"), (0, u "([BI)B"), (106, .class_ 371), (1, u "java/lang/StringUTF16$LinesSpliterator"), (58, u "MAX_LENGTH"), (196, .class_ 628), (0, u "java/lang/StringUTF16$CodePointsSpliterator"), (0, .class_ 630), (0, u "java/lang/StringUTF16$CharsSpliterator")] 4

def k8m0 : Method := { name := "<init>", desc := "()V", sig := { parameters := [], returnType := none }, accessFlags := 0, code := none }
def k8c1 : Code := { maxStack := 2, maxLocals := 2, code := jdk_52_method_15_code, exceptionTable := #[], attributes := #[] }
def k8m1 : Method := { name := "coderFromArrayLen", desc := "([BI)B", sig := { parameters := [(.array .byte), .int], returnType := some .byte }, accessFlags := 8, code := some k8c1 }
def k8c2 : Code := { maxStack := 5, maxLocals := 6, code := jdk_52_method_16_code, exceptionTable := #[], attributes := #[] }
def k8m2 : Method := { name := "compress", desc := "([CII)[B", sig := { parameters := [(.array .char), .int, .int], returnType := some (.array .byte) }, accessFlags := 9, code := some k8c2 }
def k8c3 : Code := { maxStack := 3, maxLocals := 7, code := jdk_52_method_21_code, exceptionTable := #[], attributes := #[] }
def k8m3 : Method := { name := "compress", desc := "([CI[BII)I", sig := { parameters := [(.array .char), .int, (.array .byte), .int, .int], returnType := some .int }, accessFlags := 9, code := some k8c3 }
/-- java/lang/StringUTF16 -/
def k8 : Class := { plain "java/lang/StringUTF16" (some 0) with
  accessFlags := 48
  interfaces := #[]
  cf := some (fileOf pool8 12 #[.nestMembers #[627, 629, 369]] #[{ accessFlags := 0, nameIndex := 9, descriptorIndex := 10, attributes := #[] }, { accessFlags := 8, nameIndex := 261, descriptorIndex := 262, attributes := #[] }, { accessFlags := 9, nameIndex := 117, descriptorIndex := 122, attributes := #[] }, { accessFlags := 9, nameIndex := 117, descriptorIndex := 118, attributes := #[] }] 48 6 #[] #[{ accessFlags := 26, nameIndex := 61, descriptorIndex := 62, attributes := #[] }, { accessFlags := 26, nameIndex := 65, descriptorIndex := 62, attributes := #[] }, { accessFlags := 24, nameIndex := 430, descriptorIndex := 62, attributes := #[] }, { accessFlags := 4120, nameIndex := 46, descriptorIndex := 47, attributes := #[] }])
  fields := #[{ name := "HI_BYTE_SHIFT", type := .int, accessFlags := 26, slot := 0, constantValue := 0 }, { name := "LO_BYTE_SHIFT", type := .int, accessFlags := 26, slot := 1, constantValue := 0 }, { name := "MAX_LENGTH", type := .int, accessFlags := 24, slot := 2, constantValue := 0 }, { name := "$assertionsDisabled", type := .boolean, accessFlags := 4120, slot := 3, constantValue := 0 }]
  methods := #[k8m0, k8m1, k8m2, k8m3]
  instanceTypes := #[]
  staticTypes := #[.int, .int, .int, .boolean]
  resolved := Array.replicate 635 none
  statics := none }

def pool9 : Array CpInfo := pool [(1, .methodref 2 3), (0, .class_ 4), (0, .nameAndType 5 6), (0, u "java/lang/Object"), (0, u "<init>"), (0, u "()V"), (0, .class_ 8), (0, u "provento/files/FieldTexts"), (0, .class_ 10), (0, u "java/lang/String"), (0, .fieldref 7 12), (0, .nameAndType 13 14), (0, u "kept"), (0, u "[Ljava/lang/String;"), (0, .methodref 9 16), (0, .nameAndType 17 18), (0, u "charAt"), (0, u "(I)C"), (0, .methodref 9 20), (0, .nameAndType 21 22), (0, u "length"), (0, u "()I"), (0, .methodref 9 24), (0, .nameAndType 25 26), (0, u "regionMatches"), (0, u "(ILjava/lang/String;II)Z"), (0, .methodref 9 28), (0, .nameAndType 29 30), (0, u "substring"), (0, u "(II)Ljava/lang/String;"), (0, u "KEPT"), (0, u "I"), (4, u "of"), (0, u "(Ljava/lang/String;II)Ljava/lang/String;")] 3

def k9c0 : Code := { maxStack := 2, maxLocals := 1, code := prog_36_method_1_code, exceptionTable := #[], attributes := #[] }
def k9m0 : Method := { name := "<init>", desc := "()V", sig := { parameters := [], returnType := none }, accessFlags := 0, code := some k9c0 }
def k9c1 : Code := { maxStack := 6, maxLocals := 8, code := prog_36_method_2_code, exceptionTable := #[], attributes := #[] }
def k9m1 : Method := { name := "of", desc := "(Ljava/lang/String;II)Ljava/lang/String;", sig := { parameters := [(.object "java/lang/String"), .int, .int], returnType := some (.object "java/lang/String") }, accessFlags := 0, code := some k9c1 }
/-- provento/files/FieldTexts -/
def k9 : Class := { plain "provento/files/FieldTexts" (some 0) with
  accessFlags := 48
  interfaces := #[]
  cf := some (fileOf pool9 7 #[] #[{ accessFlags := 0, nameIndex := 5, descriptorIndex := 6, attributes := #[] }, { accessFlags := 0, nameIndex := 37, descriptorIndex := 38, attributes := #[] }] 48 2 #[] #[{ accessFlags := 26, nameIndex := 31, descriptorIndex := 32, attributes := #[] }, { accessFlags := 18, nameIndex := 13, descriptorIndex := 14, attributes := #[] }])
  fields := #[{ name := "KEPT", type := .int, accessFlags := 26, slot := 0, constantValue := 0 }, { name := "kept", type := (.array (.object "java/lang/String")), accessFlags := 18, slot := 0, constantValue := 0 }]
  methods := #[k9m0, k9m1]
  instanceTypes := #[(.array (.object "java/lang/String"))]
  staticTypes := #[.int]
  resolved := Array.replicate 42 none
  statics := none }

def pool10 : Array CpInfo := pool [(2, .class_ 4), (1, u "java/lang/Object"), (0, u "<init>"), (0, u "()V"), (17, .class_ 26), (1, u "jdk/internal/util/Preconditions"), (6, u "checkIndex"), (13, u "checkFromToIndex"), (7, .class_ 56), (0, u "jdk/internal/util/Preconditions$4"), (57, .class_ 115), (0, u "jdk/internal/util/Preconditions$1"), (7, u "SIOOBE_FORMATTER"), (0, u "Ljava/util/function/BiFunction;"), (0, .class_ 126), (0, u "jdk/internal/util/Preconditions$2"), (3, u "AIOOBE_FORMATTER"), (0, .class_ 132), (0, u "jdk/internal/util/Preconditions$3"), (3, u "IOOBE_FORMATTER"), (41, u "(IILjava/util/function/BiFunction;)I"), (4, u "(IIILjava/util/function/BiFunction;)I")] 10

def k10m0 : Method := { name := "<init>", desc := "()V", sig := { parameters := [], returnType := none }, accessFlags := 1, code := none }
def k10c1 : Code := { maxStack := 3, maxLocals := 3, code := jdk_41_method_11_code, exceptionTable := #[], attributes := #[] }
def k10m1 : Method := { name := "checkIndex", desc := "(IILjava/util/function/BiFunction;)I", sig := { parameters := [.int, .int, (.object "java/util/function/BiFunction")], returnType := some .int }, accessFlags := 9, code := some k10c1 }
def k10c2 : Code := { maxStack := 4, maxLocals := 4, code := jdk_41_method_12_code, exceptionTable := #[], attributes := #[] }
def k10m2 : Method := { name := "checkFromToIndex", desc := "(IIILjava/util/function/BiFunction;)I", sig := { parameters := [.int, .int, .int, (.object "java/util/function/BiFunction")], returnType := some .int }, accessFlags := 9, code := some k10c2 }
/-- jdk/internal/util/Preconditions -/
def k10 : Class := { plain "jdk/internal/util/Preconditions" (some 0) with
  accessFlags := 33
  interfaces := #[]
  cf := some (fileOf pool10 24 #[.nestMembers #[55, 131, 125, 114]] #[{ accessFlags := 1, nameIndex := 5, descriptorIndex := 6, attributes := #[] }, { accessFlags := 9, nameIndex := 33, descriptorIndex := 178, attributes := #[] }, { accessFlags := 9, nameIndex := 47, descriptorIndex := 183, attributes := #[] }] 33 2 #[] #[{ accessFlags := 25, nameIndex := 123, descriptorIndex := 124, attributes := #[] }, { accessFlags := 25, nameIndex := 130, descriptorIndex := 124, attributes := #[] }, { accessFlags := 25, nameIndex := 136, descriptorIndex := 124, attributes := #[] }])
  fields := #[{ name := "SIOOBE_FORMATTER", type := (.object "java/util/function/BiFunction"), accessFlags := 25, slot := 0, constantValue := 0 }, { name := "AIOOBE_FORMATTER", type := (.object "java/util/function/BiFunction"), accessFlags := 25, slot := 1, constantValue := 0 }, { name := "IOOBE_FORMATTER", type := (.object "java/util/function/BiFunction"), accessFlags := 25, slot := 2, constantValue := 0 }]
  methods := #[k10m0, k10m1, k10m2]
  instanceTypes := #[]
  staticTypes := #[(.object "java/util/function/BiFunction"), (.object "java/util/function/BiFunction"), (.object "java/util/function/BiFunction")]
  resolved := Array.replicate 194 none
  statics := some 1 }

def pool11 : Array CpInfo := pool [(1, .class_ 2), (0, u "java/lang/String"), (1, .class_ 6), (1, u "java/lang/Object"), (0, u "<init>"), (0, u "()V"), (0, .methodref 1 10), (0, .nameAndType 11 12), (0, u "checkIndex"), (0, u "(II)V"), (1, .class_ 16), (1, u "java/lang/StringLatin1"), (36, u "([BI)C"), (58, .methodref 1 113), (0, .nameAndType 7 114), (0, u "([BB)V"), (6, u "$assertionsDisabled"), (0, u "Z"), (8, .class_ 133), (1, u "java/util/Arrays"), (17, .string 152), (0, u ""), (43, u "newString"), (0, u "([BII)Ljava/lang/String;"), (23, .class_ 223), (1, u "java/lang/StringLatin1$LinesSpliterator"), (8, .methodref 131 233), (0, .nameAndType 234 235), (0, u "copyOfRange"), (0, u "([BII)[B"), (16, u "charAt"), (137, .class_ 391), (0, u "java/lang/StringLatin1$CharsSpliterator")] 3

def k11m0 : Method := { name := "<init>", desc := "()V", sig := { parameters := [], returnType := none }, accessFlags := 0, code := none }
def k11c1 : Code := { maxStack := 2, maxLocals := 2, code := jdk_43_method_2_code, exceptionTable := #[], attributes := #[] }
def k11m1 : Method := { name := "charAt", desc := "([BI)C", sig := { parameters := [(.array .byte), .int], returnType := some .char }, accessFlags := 9, code := some k11c1 }
def k11c2 : Code := { maxStack := 6, maxLocals := 3, code := jdk_43_method_47_code, exceptionTable := #[], attributes := #[] }
def k11m2 : Method := { name := "newString", desc := "([BII)Ljava/lang/String;", sig := { parameters := [(.array .byte), .int, .int], returnType := some (.object "java/lang/String") }, accessFlags := 9, code := some k11c2 }
/-- java/lang/StringLatin1 -/
def k11 : Class := { plain "java/lang/StringLatin1" (some 0) with
  accessFlags := 48
  interfaces := #[]
  cf := some (fileOf pool11 14 #[.nestMembers #[390, 221]] #[{ accessFlags := 0, nameIndex := 7, descriptorIndex := 8, attributes := #[] }, { accessFlags := 9, nameIndex := 252, descriptorIndex := 53, attributes := #[] }, { accessFlags := 9, nameIndex := 196, descriptorIndex := 197, attributes := #[] }] 48 4 #[] #[{ accessFlags := 4120, nameIndex := 121, descriptorIndex := 122, attributes := #[] }])
  fields := #[{ name := "$assertionsDisabled", type := .boolean, accessFlags := 4120, slot := 0, constantValue := 0 }]
  methods := #[k11m0, k11m1, k11m2]
  instanceTypes := #[]
  staticTypes := #[.boolean]
  resolved := Array.replicate 395 none
  statics := none }

def pool12 : Array CpInfo := pool [(2, .class_ 4), (1, u "java/lang/Object"), (0, u "<init>"), (0, u "()V"), (7, .class_ 16), (1, u "java/util/Arrays"), (57, .class_ 76), (1, u "java/util/Arrays$NaturalOrder"), (36, .class_ 115), (1, u "java/util/Arrays$LegacyMergeSort"), (1, u "Z"), (21, u "copyOfRange"), (10, .methodref 151 152), (0, .class_ 153), (0, .nameAndType 154 155), (0, u "java/lang/System"), (0, u "arraycopy"), (0, u "(Ljava/lang/Object;ILjava/lang/Object;II)V"), (148, .methodref 305 306), (0, .class_ 307), (0, .nameAndType 308 309), (0, u "java/lang/Math"), (0, u "min"), (0, u "(II)I"), (29, .methodref 14 340), (0, .nameAndType 341 342), (0, u "copyOfRangeByte"), (0, u "([BII)[B"), (0, .methodref 14 344), (0, .nameAndType 345 346), (0, u "checkLength"), (0, u "(II)V"), (28, .class_ 376), (0, u "java/util/Arrays$ArrayList"), (68, u "$assertionsDisabled"), (269, u "MIN_ARRAY_SORT_GRAN"), (0, u "I"), (2, u "INSERTIONSORT_THRESHOLD"), (255, .class_ 976), (0, u "java/util/Arrays$ArrayItr")] 52

def k12m0 : Method := { name := "<init>", desc := "()V", sig := { parameters := [], returnType := none }, accessFlags := 2, code := none }
def k12c1 : Code := { maxStack := 4, maxLocals := 2, code := jdk_65_method_131_code, exceptionTable := #[], attributes := #[] }
def k12m1 : Method := { name := "checkLength", desc := "(II)V", sig := { parameters := [.int, .int], returnType := none }, accessFlags := 10, code := some k12c1 }
def k12c2 : Code := { maxStack := 3, maxLocals := 3, code := jdk_65_method_132_code, exceptionTable := #[], attributes := #[] }
def k12m2 : Method := { name := "copyOfRange", desc := "([BII)[B", sig := { parameters := [(.array .byte), .int, .int], returnType := some (.array .byte) }, accessFlags := 9, code := some k12c2 }
def k12c3 : Code := { maxStack := 6, maxLocals := 5, code := jdk_65_method_133_code, exceptionTable := #[], attributes := #[] }
def k12m3 : Method := { name := "copyOfRangeByte", desc := "([BII)[B", sig := { parameters := [(.array .byte), .int, .int], returnType := some (.array .byte) }, accessFlags := 10, code := some k12c3 }
/-- java/util/Arrays -/
def k12 : Class := { plain "java/util/Arrays" (some 0) with
  accessFlags := 49
  interfaces := #[]
  cf := some (fileOf pool12 14 #[.nestMembers #[975, 375, 113, 74]] #[{ accessFlags := 2, nameIndex := 5, descriptorIndex := 6, attributes := #[] }, { accessFlags := 10, nameIndex := 345, descriptorIndex := 346, attributes := #[] }, { accessFlags := 9, nameIndex := 139, descriptorIndex := 342, attributes := #[] }, { accessFlags := 10, nameIndex := 341, descriptorIndex := 342, attributes := #[] }] 49 2 #[] #[{ accessFlags := 26, nameIndex := 715, descriptorIndex := 716, attributes := #[] }, { accessFlags := 26, nameIndex := 719, descriptorIndex := 716, attributes := #[] }, { accessFlags := 4120, nameIndex := 445, descriptorIndex := 117, attributes := #[] }])
  fields := #[{ name := "MIN_ARRAY_SORT_GRAN", type := .int, accessFlags := 26, slot := 0, constantValue := 0 }, { name := "INSERTIONSORT_THRESHOLD", type := .int, accessFlags := 26, slot := 1, constantValue := 0 }, { name := "$assertionsDisabled", type := .boolean, accessFlags := 4120, slot := 2, constantValue := 0 }]
  methods := #[k12m0, k12m1, k12m2, k12m3]
  instanceTypes := #[]
  staticTypes := #[.int, .int, .boolean]
  resolved := Array.replicate 1029 none
  statics := none }

def pool13 : Array CpInfo := pool [(1, .class_ 2), (0, u "java/lang/Math"), (1, .class_ 6), (1, u "java/lang/Object"), (0, u "<init>"), (0, u "()V"), (89, .class_ 100), (1, u "java/lang/Math$RandomNumberGeneratorHolder"), (71, u "negativeZeroFloatBits"), (0, u "J"), (2, u "negativeZeroDoubleBits"), (24, u "min"), (43, u "$assertionsDisabled"), (0, u "Z"), (88, u "(II)I"), (2, u "twoToTheDoubleScaleDown"), (0, u "D"), (4, u "twoToTheDoubleScaleUp"), (9, u "E"), (3, u "PI"), (2, u "TAU"), (2, u "DEGREES_TO_RADIANS"), (0, u "RADIANS_TO_DEGREES")] 94

def k13m0 : Method := { name := "<init>", desc := "()V", sig := { parameters := [], returnType := none }, accessFlags := 2, code := none }
def k13c1 : Code := { maxStack := 2, maxLocals := 2, code := jdk_29_method_69_code, exceptionTable := #[], attributes := #[] }
def k13m1 : Method := { name := "min", desc := "(II)I", sig := { parameters := [.int, .int], returnType := some .int }, accessFlags := 9, code := some k13c1 }
/-- java/lang/Math -/
def k13 : Class := { plain "java/lang/Math" (some 0) with
  accessFlags := 49
  interfaces := #[]
  cf := some (fileOf pool13 1 #[.nestMembers #[98]] #[{ accessFlags := 2, nameIndex := 7, descriptorIndex := 8, attributes := #[] }, { accessFlags := 9, nameIndex := 201, descriptorIndex := 335, attributes := #[] }] 49 4 #[] #[{ accessFlags := 25, nameIndex := 354, descriptorIndex := 339, attributes := #[] }, { accessFlags := 25, nameIndex := 358, descriptorIndex := 339, attributes := #[] }, { accessFlags := 25, nameIndex := 361, descriptorIndex := 339, attributes := #[] }, { accessFlags := 26, nameIndex := 364, descriptorIndex := 339, attributes := #[] }, { accessFlags := 26, nameIndex := 365, descriptorIndex := 339, attributes := #[] }, { accessFlags := 26, nameIndex := 172, descriptorIndex := 173, attributes := #[] }, { accessFlags := 26, nameIndex := 176, descriptorIndex := 173, attributes := #[] }, { accessFlags := 8, nameIndex := 344, descriptorIndex := 339, attributes := #[] }, { accessFlags := 8, nameIndex := 338, descriptorIndex := 339, attributes := #[] }, { accessFlags := 4120, nameIndex := 245, descriptorIndex := 246, attributes := #[] }])
  fields := #[{ name := "E", type := .double, accessFlags := 25, slot := 0, constantValue := 0 }, { name := "PI", type := .double, accessFlags := 25, slot := 1, constantValue := 0 }, { name := "TAU", type := .double, accessFlags := 25, slot := 2, constantValue := 0 }, { name := "DEGREES_TO_RADIANS", type := .double, accessFlags := 26, slot := 3, constantValue := 0 }, { name := "RADIANS_TO_DEGREES", type := .double, accessFlags := 26, slot := 4, constantValue := 0 }, { name := "negativeZeroFloatBits", type := .long, accessFlags := 26, slot := 5, constantValue := 0 }, { name := "negativeZeroDoubleBits", type := .long, accessFlags := 26, slot := 6, constantValue := 0 }, { name := "twoToTheDoubleScaleUp", type := .double, accessFlags := 8, slot := 7, constantValue := 0 }, { name := "twoToTheDoubleScaleDown", type := .double, accessFlags := 8, slot := 8, constantValue := 0 }, { name := "$assertionsDisabled", type := .boolean, accessFlags := 4120, slot := 9, constantValue := 0 }]
  methods := #[k13m0, k13m1]
  instanceTypes := #[]
  staticTypes := #[.double, .double, .double, .double, .double, .long, .long, .double, .double, .boolean]
  resolved := Array.replicate 460 none
  statics := none }

def pool14 : Array CpInfo := pool [(2, .class_ 4), (1, u "java/lang/Object"), (0, u "<init>"), (0, u "()V"), (1, .class_ 10), (1, u "java/lang/System"), (0, u "allowSecurityManager"), (0, u "I"), (16, u "cons"), (0, u "Ljava/io/Console;"), (77, .class_ 110), (1, u "java/lang/System$CallersHolder"), (43, u "initialErrStream"), (0, u "Ljava/io/PrintStream;"), (19, u "security"), (0, u "Ljava/lang/SecurityManager;"), (31, .class_ 209), (0, u "java/lang/System$1"), (7, u "props"), (0, u "Ljava/util/Properties;"), (2, u "lineSeparator"), (0, u "Ljava/lang/String;"), (96, .class_ 321), (1, u "java/lang/System$LoggerFinder"), (5, .class_ 328), (0, u "java/lang/System$Logger"), (67, u "err"), (2, u "out"), (91, u "notSupportedJnuEncoding"), (15, u "in"), (17, u "initialIn"), (0, u "Ljava/io/InputStream;"), (35, u "bootLayer"), (0, u "Ljava/lang/ModuleLayer;"), (99, .class_ 664), (0, u "java/lang/System$2"), (9, u "NEVER"), (2, u "MAYBE"), (49, u "arraycopy"), (0, u "(Ljava/lang/Object;ILjava/lang/Object;II)V"), (72, .class_ 802), (0, u "java/lang/System$Logger$Level")] 31

def k14m0 : Method := { name := "<init>", desc := "()V", sig := { parameters := [], returnType := none }, accessFlags := 2, code := none }
def k14m1 : Method := { name := "arraycopy", desc := "(Ljava/lang/Object;ILjava/lang/Object;II)V", sig := { parameters := [(.object "java/lang/Object"), .int, (.object "java/lang/Object"), .int, .int], returnType := none }, accessFlags := 265, code := none }
/-- java/lang/System -/
def k14 : Class := { plain "java/lang/System" (some 0) with
  accessFlags := 49
  interfaces := #[]
  cf := some (fileOf pool14 8 #[.nestMembers #[319, 327, 801, 108, 663, 208]] #[{ accessFlags := 2, nameIndex := 5, descriptorIndex := 6, attributes := #[] }, { accessFlags := 265, nameIndex := 727, descriptorIndex := 728, attributes := #[] }] 49 2 #[] #[{ accessFlags := 25, nameIndex := 507, descriptorIndex := 526, attributes := #[] }, { accessFlags := 25, nameIndex := 399, descriptorIndex := 155, attributes := #[] }, { accessFlags := 25, nameIndex := 396, descriptorIndex := 155, attributes := #[] }, { accessFlags := 10, nameIndex := 525, descriptorIndex := 526, attributes := #[] }, { accessFlags := 26, nameIndex := 674, descriptorIndex := 12, attributes := #[] }, { accessFlags := 26, nameIndex := 677, descriptorIndex := 12, attributes := #[] }, { accessFlags := 10, nameIndex := 11, descriptorIndex := 12, attributes := #[] }, { accessFlags := 74, nameIndex := 175, descriptorIndex := 176, attributes := #[] }, { accessFlags := 10, nameIndex := 491, descriptorIndex := 222, attributes := #[] }, { accessFlags := 74, nameIndex := 29, descriptorIndex := 30, attributes := #[] }, { accessFlags := 74, nameIndex := 154, descriptorIndex := 155, attributes := #[] }, { accessFlags := 10, nameIndex := 217, descriptorIndex := 218, attributes := #[] }, { accessFlags := 10, nameIndex := 221, descriptorIndex := 222, attributes := #[] }, { accessFlags := 8, nameIndex := 562, descriptorIndex := 563, attributes := #[] }])
  fields := #[{ name := "in", type := (.object "java/io/InputStream"), accessFlags := 25, slot := 0, constantValue := 0 }, { name := "out", type := (.object "java/io/PrintStream"), accessFlags := 25, slot := 1, constantValue := 0 }, { name := "err", type := (.object "java/io/PrintStream"), accessFlags := 25, slot := 2, constantValue := 0 }, { name := "initialIn", type := (.object "java/io/InputStream"), accessFlags := 10, slot := 3, constantValue := 0 }, { name := "NEVER", type := .int, accessFlags := 26, slot := 4, constantValue := 0 }, { name := "MAYBE", type := .int, accessFlags := 26, slot := 5, constantValue := 0 }, { name := "allowSecurityManager", type := .int, accessFlags := 10, slot := 6, constantValue := 0 }, { name := "security", type := (.object "java/lang/SecurityManager"), accessFlags := 74, slot := 7, constantValue := 0 }, { name := "notSupportedJnuEncoding", type := (.object "java/lang/String"), accessFlags := 10, slot := 8, constantValue := 0 }, { name := "cons", type := (.object "java/io/Console"), accessFlags := 74, slot := 9, constantValue := 0 }, { name := "initialErrStream", type := (.object "java/io/PrintStream"), accessFlags := 74, slot := 10, constantValue := 0 }, { name := "props", type := (.object "java/util/Properties"), accessFlags := 10, slot := 11, constantValue := 0 }, { name := "lineSeparator", type := (.object "java/lang/String"), accessFlags := 10, slot := 12, constantValue := 0 }, { name := "bootLayer", type := (.object "java/lang/ModuleLayer"), accessFlags := 8, slot := 13, constantValue := 0 }]
  methods := #[k14m0, k14m1]
  instanceTypes := #[]
  staticTypes := #[(.object "java/io/InputStream"), (.object "java/io/PrintStream"), (.object "java/io/PrintStream"), (.object "java/io/InputStream"), .int, .int, .int, (.object "java/lang/SecurityManager"), (.object "java/lang/String"), (.object "java/io/Console"), (.object "java/io/PrintStream"), (.object "java/util/Properties"), (.object "java/lang/String"), (.object "java/lang/ModuleLayer")]
  resolved := Array.replicate 834 none
  statics := none }

def pool15 : Array CpInfo := pool [(9, u "<init>"), (6, .class_ 18), (1, u "java/lang/Object"), (0, u "()V"), (1, .class_ 23), (1, u "jdk/internal/util/ArraysSupport"), (0, u "LOG2_ARRAY_LONG_INDEX_SCALE"), (0, u "I"), (2, u "U"), (0, u "Ljdk/internal/misc/Unsafe;"), (8, u "BIG_ENDIAN"), (0, u "Z"), (8, u "LOG2_BYTE_BIT_SIZE"), (4, u "LOG2_ARRAY_INT_INDEX_SCALE"), (54, u "JLA"), (0, u "Ljdk/internal/access/JavaLangAccess;"), (11, u "LOG2_ARRAY_BOOLEAN_INDEX_SCALE"), (9, u "LOG2_ARRAY_BYTE_INDEX_SCALE"), (5, u "LOG2_ARRAY_CHAR_INDEX_SCALE"), (5, u "LOG2_ARRAY_SHORT_INDEX_SCALE"), (5, u "mismatch"), (12, u "LOG2_ARRAY_FLOAT_INDEX_SCALE"), (24, u "LOG2_ARRAY_DOUBLE_INDEX_SCALE"), (89, u "T_BOOLEAN"), (2, u "T_CHAR"), (1, u "T_FLOAT"), (1, u "T_DOUBLE"), (1, u "T_BYTE"), (1, u "T_SHORT"), (1, u "T_INT"), (1, u "T_LONG"), (1, u "SOFT_MAX_ARRAY_LENGTH"), (42, u "([BI[BII)I")] 40

def k15m0 : Method := { name := "<init>", desc := "()V", sig := { parameters := [], returnType := none }, accessFlags := 2, code := none }
def k15c1 : Code := { maxStack := 8, maxLocals := 8, code := jdk_48_method_14_code, exceptionTable := #[], attributes := #[] }
def k15m1 : Method := { name := "mismatch", desc := "([BI[BII)I", sig := { parameters := [(.array .byte), .int, (.array .byte), .int, .int], returnType := some .int }, accessFlags := 9, code := some k15c1 }
/-- jdk/internal/util/ArraysSupport -/
def k15 : Class := { plain "jdk/internal/util/ArraysSupport" (some 0) with
  accessFlags := 33
  interfaces := #[]
  cf := some (fileOf pool15 21 #[] #[{ accessFlags := 2, nameIndex := 9, descriptorIndex := 19, attributes := #[] }, { accessFlags := 9, nameIndex := 149, descriptorIndex := 337, attributes := #[] }] 33 16 #[] #[{ accessFlags := 24, nameIndex := 28, descriptorIndex := 29, attributes := #[] }, { accessFlags := 26, nameIndex := 38, descriptorIndex := 39, attributes := #[] }, { accessFlags := 25, nameIndex := 121, descriptorIndex := 25, attributes := #[] }, { accessFlags := 25, nameIndex := 131, descriptorIndex := 25, attributes := #[] }, { accessFlags := 25, nameIndex := 137, descriptorIndex := 25, attributes := #[] }, { accessFlags := 25, nameIndex := 143, descriptorIndex := 25, attributes := #[] }, { accessFlags := 25, nameIndex := 53, descriptorIndex := 25, attributes := #[] }, { accessFlags := 25, nameIndex := 24, descriptorIndex := 25, attributes := #[] }, { accessFlags := 25, nameIndex := 162, descriptorIndex := 25, attributes := #[] }, { accessFlags := 25, nameIndex := 187, descriptorIndex := 25, attributes := #[] }, { accessFlags := 26, nameIndex := 48, descriptorIndex := 25, attributes := #[] }, { accessFlags := 25, nameIndex := 277, descriptorIndex := 25, attributes := #[] }, { accessFlags := 25, nameIndex := 280, descriptorIndex := 25, attributes := #[] }, { accessFlags := 25, nameIndex := 282, descriptorIndex := 25, attributes := #[] }, { accessFlags := 25, nameIndex := 284, descriptorIndex := 25, attributes := #[] }, { accessFlags := 25, nameIndex := 286, descriptorIndex := 25, attributes := #[] }, { accessFlags := 25, nameIndex := 288, descriptorIndex := 25, attributes := #[] }, { accessFlags := 25, nameIndex := 290, descriptorIndex := 25, attributes := #[] }, { accessFlags := 25, nameIndex := 292, descriptorIndex := 25, attributes := #[] }, { accessFlags := 26, nameIndex := 108, descriptorIndex := 109, attributes := #[] }, { accessFlags := 25, nameIndex := 294, descriptorIndex := 25, attributes := #[] }])
  fields := #[{ name := "U", type := (.object "jdk/internal/misc/Unsafe"), accessFlags := 24, slot := 0, constantValue := 0 }, { name := "BIG_ENDIAN", type := .boolean, accessFlags := 26, slot := 1, constantValue := 0 }, { name := "LOG2_ARRAY_BOOLEAN_INDEX_SCALE", type := .int, accessFlags := 25, slot := 2, constantValue := 0 }, { name := "LOG2_ARRAY_BYTE_INDEX_SCALE", type := .int, accessFlags := 25, slot := 3, constantValue := 0 }, { name := "LOG2_ARRAY_CHAR_INDEX_SCALE", type := .int, accessFlags := 25, slot := 4, constantValue := 0 }, { name := "LOG2_ARRAY_SHORT_INDEX_SCALE", type := .int, accessFlags := 25, slot := 5, constantValue := 0 }, { name := "LOG2_ARRAY_INT_INDEX_SCALE", type := .int, accessFlags := 25, slot := 6, constantValue := 0 }, { name := "LOG2_ARRAY_LONG_INDEX_SCALE", type := .int, accessFlags := 25, slot := 7, constantValue := 0 }, { name := "LOG2_ARRAY_FLOAT_INDEX_SCALE", type := .int, accessFlags := 25, slot := 8, constantValue := 0 }, { name := "LOG2_ARRAY_DOUBLE_INDEX_SCALE", type := .int, accessFlags := 25, slot := 9, constantValue := 0 }, { name := "LOG2_BYTE_BIT_SIZE", type := .int, accessFlags := 26, slot := 10, constantValue := 0 }, { name := "T_BOOLEAN", type := .int, accessFlags := 25, slot := 11, constantValue := 0 }, { name := "T_CHAR", type := .int, accessFlags := 25, slot := 12, constantValue := 0 }, { name := "T_FLOAT", type := .int, accessFlags := 25, slot := 13, constantValue := 0 }, { name := "T_DOUBLE", type := .int, accessFlags := 25, slot := 14, constantValue := 0 }, { name := "T_BYTE", type := .int, accessFlags := 25, slot := 15, constantValue := 0 }, { name := "T_SHORT", type := .int, accessFlags := 25, slot := 16, constantValue := 0 }, { name := "T_INT", type := .int, accessFlags := 25, slot := 17, constantValue := 0 }, { name := "T_LONG", type := .int, accessFlags := 25, slot := 18, constantValue := 0 }, { name := "JLA", type := (.object "jdk/internal/access/JavaLangAccess"), accessFlags := 26, slot := 19, constantValue := 0 }, { name := "SOFT_MAX_ARRAY_LENGTH", type := .int, accessFlags := 25, slot := 20, constantValue := 0 }]
  methods := #[k15m0, k15m1]
  instanceTypes := #[]
  staticTypes := #[(.object "jdk/internal/misc/Unsafe"), .boolean, .int, .int, .int, .int, .int, .int, .int, .int, .int, .int, .int, .int, .int, .int, .int, .int, .int, (.object "jdk/internal/access/JavaLangAccess"), .int]
  resolved := Array.replicate 378 none
  statics := none }

def pool16 : Array CpInfo := pool [(1, u "java/lang/Cloneable"), (0, .class_ 1), (0, u "java/lang/Object"), (0, .class_ 3)] 3

/-- java/lang/Cloneable -/
def k16 : Class := { plain "java/lang/Cloneable" (some 0) with
  accessFlags := 1537
  interfaces := #[]
  cf := some (fileOf pool16 2 #[] #[] 1537 4 #[] #[])
  fields := #[]
  methods := #[]
  instanceTypes := #[]
  staticTypes := #[]
  resolved := Array.replicate 8 none
  statics := none }

/-- the primitive byte -/
def k17 : Class := { plain "byte" none with kind := .primitive 'B', accessFlags := 0x411 }
/-- [B -/
def k18 : Class := { plain "[B" (some 0) with kind := .array 17 .byte, interfaces := #[16, 2], accessFlags := 1041 }

/-- the primitive char -/
def k19 : Class := { plain "char" none with kind := .primitive 'C', accessFlags := 0x411 }
/-- [C -/
def k20 : Class := { plain "[C" (some 0) with kind := .array 19 .char, interfaces := #[16, 2], accessFlags := 1041 }

/-- the primitive int -/
def k21 : Class := { plain "int" none with kind := .primitive 'I', accessFlags := 0x411 }
/-- [I -/
def k22 : Class := { plain "[I" (some 0) with kind := .array 21 .int, interfaces := #[16, 2], accessFlags := 1041 }

/-- [Ljava/lang/String; -/
def k23 : Class := { plain "[Ljava/lang/String;" (some 0) with kind := .array 7 (.object "java/lang/String"), interfaces := #[16, 2], accessFlags := 1041 }

def heap : Heap := #[{ cls := 7, slots := #[.long 0, .int 1, .null, .int 0, .null, .int 0, .int 0], vm := .statics 7 },
  { cls := 10, slots := #[.null, .null, .null], vm := .statics 10 }]
def classes : Array Class := #[k0, k1, k2, k3, k4, k5, k6, k7, k8, k9, k10, k11, k12, k13, k14, k15, k16, k17, k18, k19, k20, k21, k22, k23]
def interned : List (Array UInt16 × Addr) := []
def slotsUsed : Nat := 10
def theMethod : MethodId := ⟨1, 1⟩
def args0 : Array Value := #[.int 1, .int 2, .int 3]
def aboutOver (below : List Frame) : State where
  vm := { classes := classes, interned := interned.toArray }
  heap := heap
  slotsUsed := slotsUsed
  threads := #[{ frames := .invoking theMethod args0 :: below }]
def below0 : List Frame := [.native { method := ⟨0, 0⟩, args := #[] }]
def about1 : State := aboutOver below0
def p0 : Program := .bare "" "" ""
def e0 : Env := launch0.env 0 0 0
theorem w_frames : about1.frames = Frame.invoking theMethod args0 :: below0 := rfl
set_option maxRecDepth 65536 in
theorem w_args : argsFit about1.vm theMethod args0 = true := by decide +kernel
set_option maxRecDepth 65536 in
theorem w_heap : heapFits about1 = true := by decide +kernel
set_option maxRecDepth 65536 in
theorem w_runnable : about1.curStatus? = some .runnable := by decide +kernel
set_option maxRecDepth 65536 in
theorem w_alone : about1.alone = true := by decide +kernel
set_option maxRecDepth 65536 in
theorem w_named : about1.methodNamed? x = some theMethod := by decide +kernel
set_option maxRecDepth 65536 in
theorem w_hears : about1.hears theMethod below0 = true := by decide +kernel
set_option maxRecDepth 65536 in
theorem w_ripe : about1.ripe theMethod args0 below0 = true := by decide +kernel
theorem w_running : about1.status = .running := rfl
set_option maxRecDepth 65536 in
theorem w_room : about1.hasRoom e0.platform room_1 = true :=
  launch0.hasRoom_least _ room_1 (by decide +kernel) (by decide +kernel) (by decide +kernel) (by decide +kernel) (by decide +kernel) (by decide +kernel)
theorem allAtoms_all (ts : List Jvm.Cond) (a : Array Jvm.Value) (st : Jvm.State) : (allAtoms ts).before a st = ts.all (fun c => c.before a st) := by
  induction ts with
  | nil => rfl
  | cons c t ih =>
    show (Jvm.Cond.and c (allAtoms t)).before a st = _
    rw [Jvm.Cond.before_and, ih, List.all_cons]
def words1 : List Jvm.Cond := Jvm.Cond.code x code maxLocals ret :: tables_1
/-- a 'code' word, met by the world's own term for the bytes: nothing is compared byte by byte -/
theorem code_word {y : MethodName} {bytes : ByteArray} {mx : Nat} {rt : Option FieldType} {a : Array Value} {s : State} {m : MethodId} {meth : Method} {c : Code} (h1 : s.methodNamed? y = some m) (h2 : s.vm.method? m = some meth) (h3 : meth.code = some c) (h4 : c.code = bytes)
    (h5 : (c.maxLocals == mx && c.exceptionTable.isEmpty && decide (c.maxStack ≤ mostOperands) && decide (meth.sig.returnType = rt) && !meth.locks && decide (parseMethodDescriptor y.desc = some meth.sig)) = true) : (Jvm.Cond.code y bytes mx rt).before a s = true := by
  simp only [Bool.and_eq_true, beq_iff_eq, Bool.not_eq_true', decide_eq_true_eq] at h5
  obtain ⟨⟨⟨⟨⟨g1, g2⟩, g3⟩, g4⟩, g5⟩, g6⟩ := h5
  simp [Cond.before, Cond.holds, Cond.value, h1, h2, h3, h4, g1, g2, g3, g4, g5, g6]
def isCode : Jvm.Cond → Bool
  | .code _ _ _ _ => true
  | _ => false
theorem all_split {L : List Jvm.Cond} {P : Jvm.Cond → Bool} (h1 : L.all (fun c => isCode c || P c) = true) (h2 : ∀ c ∈ L.filter isCode, P c = true) : L.all P = true := by
  refine List.all_eq_true.mpr fun c hc => ?_
  have h := List.all_eq_true.mp h1 c hc
  rcases Bool.eq_false_or_eq_true (isCode c) with hi | hi
  · exact h2 c (List.mem_filter.mpr ⟨hc, hi⟩)
  · simpa [hi] using h
set_option maxRecDepth 65536 in
theorem w_c0 : (Jvm.Cond.code x code maxLocals ret).before args0 about1 = true := code_word (m := ⟨1, 1⟩) (meth := k1m1) (c := k1c1) (by decide +kernel) rfl rfl rfl (by decide +kernel)
set_option maxRecDepth 65536 in
theorem w_c1 : (Jvm.Cond.code ({ cls := "provento/files/FieldTextsOfPinLaw", name := "line", desc := "(I)Ljava/lang/String;" } : Jvm.MethodName) method_3_code (2 : Nat) (Option.some (Jvm.ClassFile.FieldType.object "java/lang/String"))).before args0 about1 = true := code_word (m := ⟨1, 2⟩) (meth := k1m2) (c := k1c2) (by decide +kernel) rfl rfl rfl (by decide +kernel)
set_option maxRecDepth 65536 in
theorem w_c2 : (Jvm.Cond.code ({ cls := "java/lang/String", name := "<init>", desc := "([C)V" } : Jvm.MethodName) jdk_42_method_3_code (2 : Nat) (Option.none : Option Jvm.ClassFile.FieldType)).before args0 about1 = true := code_word (m := ⟨7, 1⟩) (meth := k7m1) (c := k7c1) (by decide +kernel) rfl rfl rfl (by decide +kernel)
set_option maxRecDepth 65536 in
theorem w_c3 : (Jvm.Cond.code ({ cls := "java/lang/String", name := "<init>", desc := "([CIILjava/lang/Void;)V" } : Jvm.MethodName) jdk_42_method_149_code (6 : Nat) (Option.none : Option Jvm.ClassFile.FieldType)).before args0 about1 = true := code_word (m := ⟨7, 6⟩) (meth := k7m6) (c := k7c6) (by decide +kernel) rfl rfl rfl (by decide +kernel)
set_option maxRecDepth 65536 in
theorem w_c4 : (Jvm.Cond.code ({ cls := "java/lang/Object", name := "<init>", desc := "()V" } : Jvm.MethodName) object_method_1_code (1 : Nat) (Option.none : Option Jvm.ClassFile.FieldType)).before args0 about1 = true := code_word (m := ⟨0, 0⟩) (meth := k0m0) (c := k0c0) (by decide +kernel) rfl rfl rfl (by decide +kernel)
set_option maxRecDepth 65536 in
theorem w_c5 : (Jvm.Cond.code ({ cls := "java/lang/StringUTF16", name := "compress", desc := "([CII)[B" } : Jvm.MethodName) jdk_52_method_16_code (6 : Nat) (Option.some (Jvm.ClassFile.FieldType.array Jvm.ClassFile.FieldType.byte))).before args0 about1 = true := code_word (m := ⟨8, 2⟩) (meth := k8m2) (c := k8c2) (by decide +kernel) rfl rfl rfl (by decide +kernel)
set_option maxRecDepth 65536 in
theorem w_c6 : (Jvm.Cond.code ({ cls := "java/lang/StringUTF16", name := "compress", desc := "([CI[BII)I" } : Jvm.MethodName) jdk_52_method_21_code (7 : Nat) (Option.some Jvm.ClassFile.FieldType.int)).before args0 about1 = true := code_word (m := ⟨8, 3⟩) (meth := k8m3) (c := k8c3) (by decide +kernel) rfl rfl rfl (by decide +kernel)
set_option maxRecDepth 65536 in
theorem w_c7 : (Jvm.Cond.code ({ cls := "java/lang/StringUTF16", name := "coderFromArrayLen", desc := "([BI)B" } : Jvm.MethodName) jdk_52_method_15_code (2 : Nat) (Option.some Jvm.ClassFile.FieldType.byte)).before args0 about1 = true := code_word (m := ⟨8, 1⟩) (meth := k8m1) (c := k8c1) (by decide +kernel) rfl rfl rfl (by decide +kernel)
set_option maxRecDepth 65536 in
theorem w_c8 : (Jvm.Cond.code ({ cls := "provento/files/FieldTexts", name := "<init>", desc := "()V" } : Jvm.MethodName) prog_36_method_1_code (1 : Nat) (Option.none : Option Jvm.ClassFile.FieldType)).before args0 about1 = true := code_word (m := ⟨9, 0⟩) (meth := k9m0) (c := k9c0) (by decide +kernel) rfl rfl rfl (by decide +kernel)
set_option maxRecDepth 65536 in
theorem w_c9 : (Jvm.Cond.code ({ cls := "provento/files/FieldTexts", name := "of", desc := "(Ljava/lang/String;II)Ljava/lang/String;" } : Jvm.MethodName) prog_36_method_2_code (8 : Nat) (Option.some (Jvm.ClassFile.FieldType.object "java/lang/String"))).before args0 about1 = true := code_word (m := ⟨9, 1⟩) (meth := k9m1) (c := k9c1) (by decide +kernel) rfl rfl rfl (by decide +kernel)
set_option maxRecDepth 65536 in
theorem w_c10 : (Jvm.Cond.code ({ cls := "java/lang/String", name := "substring", desc := "(II)Ljava/lang/String;" } : Jvm.MethodName) jdk_42_method_92_code (5 : Nat) (Option.some (Jvm.ClassFile.FieldType.object "java/lang/String"))).before args0 about1 = true := code_word (m := ⟨7, 5⟩) (meth := k7m5) (c := k7c5) (by decide +kernel) rfl rfl rfl (by decide +kernel)
set_option maxRecDepth 65536 in
theorem w_c11 : (Jvm.Cond.code ({ cls := "java/lang/String", name := "length", desc := "()I" } : Jvm.MethodName) jdk_42_method_54_code (1 : Nat) (Option.some Jvm.ClassFile.FieldType.int)).before args0 about1 = true := code_word (m := ⟨7, 2⟩) (meth := k7m2) (c := k7c2) (by decide +kernel) rfl rfl rfl (by decide +kernel)
set_option maxRecDepth 65536 in
theorem w_c12 : (Jvm.Cond.code ({ cls := "java/lang/String", name := "coder", desc := "()B" } : Jvm.MethodName) jdk_42_method_152_code (1 : Nat) (Option.some Jvm.ClassFile.FieldType.byte)).before args0 about1 = true := code_word (m := ⟨7, 8⟩) (meth := k7m8) (c := k7c8) (by decide +kernel) rfl rfl rfl (by decide +kernel)
set_option maxRecDepth 65536 in
theorem w_c13 : (Jvm.Cond.code ({ cls := "java/lang/String", name := "checkBoundsBeginEnd", desc := "(III)V" } : Jvm.MethodName) jdk_42_method_158_code (3 : Nat) (Option.none : Option Jvm.ClassFile.FieldType)).before args0 about1 = true := code_word (m := ⟨7, 11⟩) (meth := k7m11) (c := k7c11) (by decide +kernel) rfl rfl rfl (by decide +kernel)
set_option maxRecDepth 65536 in
theorem w_c14 : (Jvm.Cond.code ({ cls := "jdk/internal/util/Preconditions", name := "checkFromToIndex", desc := "(IIILjava/util/function/BiFunction;)I" } : Jvm.MethodName) jdk_41_method_12_code (4 : Nat) (Option.some Jvm.ClassFile.FieldType.int)).before args0 about1 = true := code_word (m := ⟨10, 2⟩) (meth := k10m2) (c := k10c2) (by decide +kernel) rfl rfl rfl (by decide +kernel)
set_option maxRecDepth 65536 in
theorem w_c15 : (Jvm.Cond.code ({ cls := "java/lang/String", name := "isLatin1", desc := "()Z" } : Jvm.MethodName) jdk_42_method_154_code (1 : Nat) (Option.some Jvm.ClassFile.FieldType.boolean)).before args0 about1 = true := code_word (m := ⟨7, 9⟩) (meth := k7m9) (c := k7c9) (by decide +kernel) rfl rfl rfl (by decide +kernel)
set_option maxRecDepth 65536 in
theorem w_c16 : (Jvm.Cond.code ({ cls := "java/lang/StringLatin1", name := "newString", desc := "([BII)Ljava/lang/String;" } : Jvm.MethodName) jdk_43_method_47_code (3 : Nat) (Option.some (Jvm.ClassFile.FieldType.object "java/lang/String"))).before args0 about1 = true := code_word (m := ⟨11, 2⟩) (meth := k11m2) (c := k11c2) (by decide +kernel) rfl rfl rfl (by decide +kernel)
set_option maxRecDepth 65536 in
theorem w_c17 : (Jvm.Cond.code ({ cls := "java/lang/String", name := "regionMatches", desc := "(ILjava/lang/String;II)Z" } : Jvm.MethodName) jdk_42_method_73_code (8 : Nat) (Option.some Jvm.ClassFile.FieldType.boolean)).before args0 about1 = true := code_word (m := ⟨7, 4⟩) (meth := k7m4) (c := k7c4) (by decide +kernel) rfl rfl rfl (by decide +kernel)
set_option maxRecDepth 65536 in
theorem w_c18 : (Jvm.Cond.code ({ cls := "provento/files/FieldTextsOfPinLaw", name := "region", desc := "(Ljava/lang/String;IILjava/lang/String;II)Z" } : Jvm.MethodName) method_5_code (7 : Nat) (Option.some Jvm.ClassFile.FieldType.boolean)).before args0 about1 = true := code_word (m := ⟨1, 4⟩) (meth := k1m4) (c := k1c4) (by decide +kernel) rfl rfl rfl (by decide +kernel)
set_option maxRecDepth 65536 in
theorem w_c19 : (Jvm.Cond.code ({ cls := "provento/files/FieldTextsOfPinLaw", name := "matches", desc := "(Ljava/lang/String;Ljava/lang/String;II)Z" } : Jvm.MethodName) method_4_code (4 : Nat) (Option.some Jvm.ClassFile.FieldType.boolean)).before args0 about1 = true := code_word (m := ⟨1, 3⟩) (meth := k1m3) (c := k1c3) (by decide +kernel) rfl rfl rfl (by decide +kernel)
set_option maxRecDepth 65536 in
theorem w_c20 : (Jvm.Cond.code ({ cls := "java/lang/String", name := "charAt", desc := "(I)C" } : Jvm.MethodName) jdk_42_method_56_code (2 : Nat) (Option.some Jvm.ClassFile.FieldType.char)).before args0 about1 = true := code_word (m := ⟨7, 3⟩) (meth := k7m3) (c := k7c3) (by decide +kernel) rfl rfl rfl (by decide +kernel)
set_option maxRecDepth 65536 in
theorem w_c21 : (Jvm.Cond.code ({ cls := "java/lang/StringLatin1", name := "charAt", desc := "([BI)C" } : Jvm.MethodName) jdk_43_method_2_code (2 : Nat) (Option.some Jvm.ClassFile.FieldType.char)).before args0 about1 = true := code_word (m := ⟨11, 1⟩) (meth := k11m1) (c := k11c1) (by decide +kernel) rfl rfl rfl (by decide +kernel)
set_option maxRecDepth 65536 in
theorem w_c22 : (Jvm.Cond.code ({ cls := "java/lang/String", name := "checkIndex", desc := "(II)V" } : Jvm.MethodName) jdk_42_method_155_code (2 : Nat) (Option.none : Option Jvm.ClassFile.FieldType)).before args0 about1 = true := code_word (m := ⟨7, 10⟩) (meth := k7m10) (c := k7c10) (by decide +kernel) rfl rfl rfl (by decide +kernel)
set_option maxRecDepth 65536 in
theorem w_c23 : (Jvm.Cond.code ({ cls := "jdk/internal/util/Preconditions", name := "checkIndex", desc := "(IILjava/util/function/BiFunction;)I" } : Jvm.MethodName) jdk_41_method_11_code (3 : Nat) (Option.some Jvm.ClassFile.FieldType.int)).before args0 about1 = true := code_word (m := ⟨10, 1⟩) (meth := k10m1) (c := k10c1) (by decide +kernel) rfl rfl rfl (by decide +kernel)
set_option maxRecDepth 65536 in
theorem w_c24 : (Jvm.Cond.code ({ cls := "java/util/Arrays", name := "copyOfRange", desc := "([BII)[B" } : Jvm.MethodName) jdk_65_method_132_code (3 : Nat) (Option.some (Jvm.ClassFile.FieldType.array Jvm.ClassFile.FieldType.byte))).before args0 about1 = true := code_word (m := ⟨12, 2⟩) (meth := k12m2) (c := k12c2) (by decide +kernel) rfl rfl rfl (by decide +kernel)
set_option maxRecDepth 65536 in
theorem w_c25 : (Jvm.Cond.code ({ cls := "java/util/Arrays", name := "copyOfRangeByte", desc := "([BII)[B" } : Jvm.MethodName) jdk_65_method_133_code (5 : Nat) (Option.some (Jvm.ClassFile.FieldType.array Jvm.ClassFile.FieldType.byte))).before args0 about1 = true := code_word (m := ⟨12, 3⟩) (meth := k12m3) (c := k12c3) (by decide +kernel) rfl rfl rfl (by decide +kernel)
set_option maxRecDepth 65536 in
theorem w_c26 : (Jvm.Cond.code ({ cls := "java/util/Arrays", name := "checkLength", desc := "(II)V" } : Jvm.MethodName) jdk_65_method_131_code (2 : Nat) (Option.none : Option Jvm.ClassFile.FieldType)).before args0 about1 = true := code_word (m := ⟨12, 1⟩) (meth := k12m1) (c := k12c1) (by decide +kernel) rfl rfl rfl (by decide +kernel)
set_option maxRecDepth 65536 in
theorem w_c27 : (Jvm.Cond.code ({ cls := "java/lang/Math", name := "min", desc := "(II)I" } : Jvm.MethodName) jdk_29_method_69_code (2 : Nat) (Option.some Jvm.ClassFile.FieldType.int)).before args0 about1 = true := code_word (m := ⟨13, 1⟩) (meth := k13m1) (c := k13c1) (by decide +kernel) rfl rfl rfl (by decide +kernel)
set_option maxRecDepth 65536 in
theorem w_c28 : (Jvm.Cond.code ({ cls := "java/lang/String", name := "<init>", desc := "([BB)V" } : Jvm.MethodName) jdk_42_method_151_code (3 : Nat) (Option.none : Option Jvm.ClassFile.FieldType)).before args0 about1 = true := code_word (m := ⟨7, 7⟩) (meth := k7m7) (c := k7c7) (by decide +kernel) rfl rfl rfl (by decide +kernel)
set_option maxRecDepth 65536 in
theorem w_c29 : (Jvm.Cond.code ({ cls := "jdk/internal/util/ArraysSupport", name := "mismatch", desc := "([BI[BII)I" } : Jvm.MethodName) jdk_48_method_14_code (8 : Nat) (Option.some Jvm.ClassFile.FieldType.int)).before args0 about1 = true := code_word (m := ⟨15, 1⟩) (meth := k15m1) (c := k15c1) (by decide +kernel) rfl rfl rfl (by decide +kernel)
def codes1 : List Jvm.Cond := [Jvm.Cond.code x code maxLocals ret, Jvm.Cond.code ({ cls := "provento/files/FieldTextsOfPinLaw", name := "line", desc := "(I)Ljava/lang/String;" } : Jvm.MethodName) method_3_code (2 : Nat) (Option.some (Jvm.ClassFile.FieldType.object "java/lang/String")), Jvm.Cond.code ({ cls := "java/lang/String", name := "<init>", desc := "([C)V" } : Jvm.MethodName) jdk_42_method_3_code (2 : Nat) (Option.none : Option Jvm.ClassFile.FieldType), Jvm.Cond.code ({ cls := "java/lang/String", name := "<init>", desc := "([CIILjava/lang/Void;)V" } : Jvm.MethodName) jdk_42_method_149_code (6 : Nat) (Option.none : Option Jvm.ClassFile.FieldType), Jvm.Cond.code ({ cls := "java/lang/Object", name := "<init>", desc := "()V" } : Jvm.MethodName) object_method_1_code (1 : Nat) (Option.none : Option Jvm.ClassFile.FieldType), Jvm.Cond.code ({ cls := "java/lang/StringUTF16", name := "compress", desc := "([CII)[B" } : Jvm.MethodName) jdk_52_method_16_code (6 : Nat) (Option.some (Jvm.ClassFile.FieldType.array Jvm.ClassFile.FieldType.byte)), Jvm.Cond.code ({ cls := "java/lang/StringUTF16", name := "compress", desc := "([CI[BII)I" } : Jvm.MethodName) jdk_52_method_21_code (7 : Nat) (Option.some Jvm.ClassFile.FieldType.int), Jvm.Cond.code ({ cls := "java/lang/StringUTF16", name := "coderFromArrayLen", desc := "([BI)B" } : Jvm.MethodName) jdk_52_method_15_code (2 : Nat) (Option.some Jvm.ClassFile.FieldType.byte), Jvm.Cond.code ({ cls := "provento/files/FieldTexts", name := "<init>", desc := "()V" } : Jvm.MethodName) prog_36_method_1_code (1 : Nat) (Option.none : Option Jvm.ClassFile.FieldType), Jvm.Cond.code ({ cls := "provento/files/FieldTexts", name := "of", desc := "(Ljava/lang/String;II)Ljava/lang/String;" } : Jvm.MethodName) prog_36_method_2_code (8 : Nat) (Option.some (Jvm.ClassFile.FieldType.object "java/lang/String")), Jvm.Cond.code ({ cls := "java/lang/String", name := "substring", desc := "(II)Ljava/lang/String;" } : Jvm.MethodName) jdk_42_method_92_code (5 : Nat) (Option.some (Jvm.ClassFile.FieldType.object "java/lang/String")), Jvm.Cond.code ({ cls := "java/lang/String", name := "length", desc := "()I" } : Jvm.MethodName) jdk_42_method_54_code (1 : Nat) (Option.some Jvm.ClassFile.FieldType.int), Jvm.Cond.code ({ cls := "java/lang/String", name := "coder", desc := "()B" } : Jvm.MethodName) jdk_42_method_152_code (1 : Nat) (Option.some Jvm.ClassFile.FieldType.byte), Jvm.Cond.code ({ cls := "java/lang/String", name := "checkBoundsBeginEnd", desc := "(III)V" } : Jvm.MethodName) jdk_42_method_158_code (3 : Nat) (Option.none : Option Jvm.ClassFile.FieldType), Jvm.Cond.code ({ cls := "jdk/internal/util/Preconditions", name := "checkFromToIndex", desc := "(IIILjava/util/function/BiFunction;)I" } : Jvm.MethodName) jdk_41_method_12_code (4 : Nat) (Option.some Jvm.ClassFile.FieldType.int), Jvm.Cond.code ({ cls := "java/lang/String", name := "isLatin1", desc := "()Z" } : Jvm.MethodName) jdk_42_method_154_code (1 : Nat) (Option.some Jvm.ClassFile.FieldType.boolean), Jvm.Cond.code ({ cls := "java/lang/StringLatin1", name := "newString", desc := "([BII)Ljava/lang/String;" } : Jvm.MethodName) jdk_43_method_47_code (3 : Nat) (Option.some (Jvm.ClassFile.FieldType.object "java/lang/String")), Jvm.Cond.code ({ cls := "java/lang/String", name := "regionMatches", desc := "(ILjava/lang/String;II)Z" } : Jvm.MethodName) jdk_42_method_73_code (8 : Nat) (Option.some Jvm.ClassFile.FieldType.boolean), Jvm.Cond.code ({ cls := "provento/files/FieldTextsOfPinLaw", name := "region", desc := "(Ljava/lang/String;IILjava/lang/String;II)Z" } : Jvm.MethodName) method_5_code (7 : Nat) (Option.some Jvm.ClassFile.FieldType.boolean), Jvm.Cond.code ({ cls := "provento/files/FieldTextsOfPinLaw", name := "matches", desc := "(Ljava/lang/String;Ljava/lang/String;II)Z" } : Jvm.MethodName) method_4_code (4 : Nat) (Option.some Jvm.ClassFile.FieldType.boolean), Jvm.Cond.code ({ cls := "java/lang/String", name := "charAt", desc := "(I)C" } : Jvm.MethodName) jdk_42_method_56_code (2 : Nat) (Option.some Jvm.ClassFile.FieldType.char), Jvm.Cond.code ({ cls := "java/lang/StringLatin1", name := "charAt", desc := "([BI)C" } : Jvm.MethodName) jdk_43_method_2_code (2 : Nat) (Option.some Jvm.ClassFile.FieldType.char), Jvm.Cond.code ({ cls := "java/lang/String", name := "checkIndex", desc := "(II)V" } : Jvm.MethodName) jdk_42_method_155_code (2 : Nat) (Option.none : Option Jvm.ClassFile.FieldType), Jvm.Cond.code ({ cls := "jdk/internal/util/Preconditions", name := "checkIndex", desc := "(IILjava/util/function/BiFunction;)I" } : Jvm.MethodName) jdk_41_method_11_code (3 : Nat) (Option.some Jvm.ClassFile.FieldType.int), Jvm.Cond.code ({ cls := "java/util/Arrays", name := "copyOfRange", desc := "([BII)[B" } : Jvm.MethodName) jdk_65_method_132_code (3 : Nat) (Option.some (Jvm.ClassFile.FieldType.array Jvm.ClassFile.FieldType.byte)), Jvm.Cond.code ({ cls := "java/util/Arrays", name := "copyOfRangeByte", desc := "([BII)[B" } : Jvm.MethodName) jdk_65_method_133_code (5 : Nat) (Option.some (Jvm.ClassFile.FieldType.array Jvm.ClassFile.FieldType.byte)), Jvm.Cond.code ({ cls := "java/util/Arrays", name := "checkLength", desc := "(II)V" } : Jvm.MethodName) jdk_65_method_131_code (2 : Nat) (Option.none : Option Jvm.ClassFile.FieldType), Jvm.Cond.code ({ cls := "java/lang/Math", name := "min", desc := "(II)I" } : Jvm.MethodName) jdk_29_method_69_code (2 : Nat) (Option.some Jvm.ClassFile.FieldType.int), Jvm.Cond.code ({ cls := "java/lang/String", name := "<init>", desc := "([BB)V" } : Jvm.MethodName) jdk_42_method_151_code (3 : Nat) (Option.none : Option Jvm.ClassFile.FieldType), Jvm.Cond.code ({ cls := "jdk/internal/util/ArraysSupport", name := "mismatch", desc := "([BI[BII)I" } : Jvm.MethodName) jdk_48_method_14_code (8 : Nat) (Option.some Jvm.ClassFile.FieldType.int)]
set_option maxRecDepth 65536 in
theorem codes_eq : words1.filter isCode = codes1 := rfl
theorem w_codes : ∀ c ∈ words1.filter isCode, c.before args0 about1 = true := by
  rw [codes_eq]
  intro c hc
  simp only [codes1, List.mem_cons, List.not_mem_nil, or_false] at hc
  rcases hc with rfl | rfl | rfl | rfl | rfl | rfl | rfl | rfl | rfl | rfl | rfl | rfl | rfl | rfl | rfl | rfl | rfl | rfl | rfl | rfl | rfl | rfl | rfl | rfl | rfl | rfl | rfl | rfl | rfl | rfl
  · exact w_c0
  · exact w_c1
  · exact w_c2
  · exact w_c3
  · exact w_c4
  · exact w_c5
  · exact w_c6
  · exact w_c7
  · exact w_c8
  · exact w_c9
  · exact w_c10
  · exact w_c11
  · exact w_c12
  · exact w_c13
  · exact w_c14
  · exact w_c15
  · exact w_c16
  · exact w_c17
  · exact w_c18
  · exact w_c19
  · exact w_c20
  · exact w_c21
  · exact w_c22
  · exact w_c23
  · exact w_c24
  · exact w_c25
  · exact w_c26
  · exact w_c27
  · exact w_c28
  · exact w_c29
set_option maxRecDepth 65536 in
theorem w_t1 : (words1.take 24).all (fun c => isCode c || c.before args0 about1) = true := by decide +kernel
set_option maxRecDepth 65536 in
theorem w_t2 : ((words1.drop 24).take 24).all (fun c => isCode c || c.before args0 about1) = true := by decide +kernel
set_option maxRecDepth 65536 in
theorem w_t3 : (((words1.drop 24).drop 24).take 24).all (fun c => isCode c || c.before args0 about1) = true := by decide +kernel
set_option maxRecDepth 65536 in
theorem w_t4 : ((((words1.drop 24).drop 24).drop 24).take 24).all (fun c => isCode c || c.before args0 about1) = true := by decide +kernel
set_option maxRecDepth 65536 in
theorem w_t5 : (((((words1.drop 24).drop 24).drop 24).drop 24).take 24).all (fun c => isCode c || c.before args0 about1) = true := by decide +kernel
set_option maxRecDepth 65536 in
theorem w_t6 : (((((words1.drop 24).drop 24).drop 24).drop 24).drop 24).all (fun c => isCode c || c.before args0 about1) = true := by decide +kernel
theorem w_tables : (allAtoms (Jvm.Cond.code x code maxLocals ret :: tables_1)).before args0 about1 = true := by
  rw [allAtoms_all]
  show words1.all (fun c => c.before args0 about1) = true
  refine all_split ?_ w_codes
  rw [← List.take_append_drop 24 words1, List.all_append, w_t1, ← List.take_append_drop 24 (words1.drop 24), List.all_append, w_t2, ← List.take_append_drop 24 ((words1.drop 24).drop 24), List.all_append, w_t3, ← List.take_append_drop 24 (((words1.drop 24).drop 24).drop 24), List.all_append, w_t4, ← List.take_append_drop 24 ((((words1.drop 24).drop 24).drop 24).drop 24), List.all_append, w_t5, w_t6]
  rfl
set_option maxRecDepth 65536 in
theorem w_rest : rest_1_c.before args0 about1 = true := by decide +kernel
set_option maxRecDepth 65536 in
theorem w_case : (Jvm.Cond.and given_1 narrow_1).before args0 about1 = true := by decide +kernel
set_option maxRecDepth 65536 in
theorem w_consts : constsHeld consts_1 about1 := Jvm.Lit.constsHeldB_iff.mp (by decide +kernel)
theorem w_applies : (headSpec (Jvm.Cond.code x code maxLocals ret :: tables_1) room_1).applies x e0.platform about1 = true :=
  (Spec.applies_iff w_frames).mpr ⟨w_running, w_runnable, w_alone, w_named, w_hears, w_ripe, w_room, w_tables⟩
theorem atStart : AtStart classFile x code maxLocals ret World_1 tables_1 room_1 Calls_1 rest_1 Pre_1 launch0 p0 e0 about1 theMethod args0 below0 :=
  ⟨lists_1, trivial, launch0.admits_env _ _ _, launch0.least_env, fairChoices_fair.cas, fairChoices_fair.clock, w_frames, w_args, w_heap, w_applies, ⟨w_consts, trivial⟩, w_rest, w_case⟩
end start1
theorem witness_1 : WitnessClaimed_1 := ⟨start1.p0, start1.e0, start1.about1, start1.theMethod, start1.args0, start1.below0, start1.atStart⟩
end Jvm.Pilot.@@N@@
