import JvmDerived
import JvmDerived.Pilot.@@N@@Statement
import JvmDerived.Pilot.@@N@@Code
set_option linter.unusedVariables false
set_option linter.unusedSimpArgs false
@@BLOCK:LamKit.lean.txt@@
/- laws to paste: Road.backV, Road.eqW, Road.codOf (cut by pick.py; bodies as the Statement names them) -/
namespace Jvm.Pilot.@@N@@
namespace StrChars
open Jvm Sem ClassFile Op Lib Jvm.Stand Jvm.Free.XT Jvm.Free.ALB Jvm.Free.JM Jvm.Free
open Jvm.Lib.Cold (StaticIs)
/-- a char array whose places are chars -/
def Ch (a : Addr) (A : Cell) (U : State) : Prop := Arr .char a A U ∧ Typed .char A
theorem Ch.mv {a : Addr} {A : Cell} {U U' : State} (h : Ch a A U) (hal : U.vm.Alike U'.vm) (hh : U'.heap = U.heap) : Ch a A U' := ⟨h.1.mv hal hh, h.2⟩
theorem Ch.keep {a : Addr} {A : Cell} {U U' : State} (h : Ch a A U) (hal : U.vm.Alike U'.vm) (hk : U'.heap[a]? = some A) : Ch a A U' := ⟨h.1.keep hal hk, h.2⟩
/-- what place i of a char[]'s cell holds -/
def cv (A : Cell) (i : Nat) : Int32 := match A.slots[i]? with | some (.int x) => x | _ => 0
theorem Ch.get {a : Addr} {A : Cell} {U : State} (h : Ch a A U) {i : Nat} (hi : i < A.slots.size) : A.slots[i]? = some (.int (cv A i)) := by
  have e := Array.getElem?_eq_getElem hi
  have f := h.2 i _ e
  unfold cv; rw [e]
  generalize A.slots[i] = v at f
  cases v <;> simp [fits] at f ⊢
/-- the byte that i2b leaves of a char -/
def lo8 (x : Int32) : Int32 := x.toInt8.toInt32
theorem fits_lo8 (y : Int32) : fits .byte (.int (lo8 y)) = true := by
  have h1 := y.toInt8.le_toInt
  have h2 := y.toInt8.toInt_lt
  simp only [lo8, fits, Bool.and_eq_true, decide_eq_true_eq, Int32.le_iff_toInt_le, Int8.toInt_toInt32, show (-128 : Int32).toInt = -128 from by decide, show (127 : Int32).toInt = 127 from by decide]
  omega
/-- A' is A but that each place j of lo .. hi - 1 holds f j -/
def Laid (A A' : Cell) (lo hi : Nat) (f : Nat → Value) : Prop := A'.cls = A.cls ∧ A'.vm = A.vm ∧ A'.slots.size = A.slots.size ∧ ∀ i, A'.slots[i]? = if lo ≤ i ∧ i < hi then some (f i) else A.slots[i]?
theorem Laid.zero (A : Cell) (lo : Nat) (f : Nat → Value) : Laid A A lo (lo + 0) f := ⟨rfl, rfl, rfl, fun i => by rw [if_neg (by omega)]⟩
theorem Laid.step {A Ak : Cell} {lo k : Nat} {f : Nat → Value} {v : Value} (h : Laid A Ak lo k f) (hlo : lo ≤ k) (hk : k < Ak.slots.size) (hv : v = f k) : Laid A (Ak.setSlot k v) lo (k + 1) f := by
  refine ⟨h.1, h.2.1, by simpa [Cell.setSlot] using h.2.2.1, fun i => ?_⟩
  by_cases e : k = i
  · subst e; rw [Cell.slots_setSlot_self v hk, if_pos (by omega), hv]
  · rw [Cell.slots_setSlot_ne v e, h.2.2.2 i]
    by_cases q : lo ≤ i ∧ i < k
    · rw [if_pos q, if_pos (by omega)]
    · rw [if_neg q, if_neg (by omega)]
def U16 : String := "java/lang/StringUTF16"
namespace Cmp5
def yN : MethodName := ⟨"java/lang/StringUTF16", "compress", "([CI[BII)I"⟩
abbrev yB : ByteArray := jdk_52_method_21_code
theorem d0 : decode yB 0 = .ok (.iconst 0, 1) := by decide +kernel
theorem d1 : decode yB 1 = .ok (.istore 5, 2) := by decide +kernel
theorem d3 : decode yB 3 = .ok (.iload 5, 2) := by decide +kernel
theorem d5 : decode yB 5 = .ok (.iload 4, 2) := by decide +kernel
theorem d7 : decode yB 7 = .ok (.if_icmp (.ge) 37, 3) := by decide +kernel
theorem d10 : decode yB 10 = .ok (.aload_n 0, 1) := by decide +kernel
theorem d11 : decode yB 11 = .ok (.iload_n 1, 1) := by decide +kernel
theorem d12 : decode yB 12 = .ok (.caload, 1) := by decide +kernel
theorem d13 : decode yB 13 = .ok (.istore 6, 2) := by decide +kernel
theorem d15 : decode yB 15 = .ok (.iload 6, 2) := by decide +kernel
theorem d17 : decode yB 17 = .ok (.sipush 255, 3) := by decide +kernel
theorem d20 : decode yB 20 = .ok (.if_icmp (.le) 6, 3) := by decide +kernel
theorem d26 : decode yB 26 = .ok (.aload_n 2, 1) := by decide +kernel
theorem d27 : decode yB 27 = .ok (.iload_n 3, 1) := by decide +kernel
theorem d28 : decode yB 28 = .ok (.iload 6, 2) := by decide +kernel
theorem d30 : decode yB 30 = .ok (.i2b, 1) := by decide +kernel
theorem d31 : decode yB 31 = .ok (.bastore, 1) := by decide +kernel
theorem d32 : decode yB 32 = .ok (.iinc 1 1, 3) := by decide +kernel
theorem d35 : decode yB 35 = .ok (.iinc 3 1, 3) := by decide +kernel
theorem d38 : decode yB 38 = .ok (.iinc 5 1, 3) := by decide +kernel
theorem d41 : decode yB 41 = .ok (.goto (-38), 3) := by decide +kernel
theorem d44 : decode yB 44 = .ok (.iload 4, 2) := by decide +kernel
theorem d46 : decode yB 46 = .ok (.ireturn, 1) := by decide +kernel
def site : List Cond := []
def tab : Cond := tabOf yN yB 7 (some .int) site
def P (b : Addr) (A : Cell) (d : Addr) (B : Cell) (o q len : Nat) (args : Array Value) (s : State) : Prop := args = #[.ref b, .int (Int32.ofNat o), .ref d, .int (Int32.ofNat q), .int (Int32.ofNat len)] ∧ Ch b A s ∧ Arr .byte d B s ∧ b ≠ d ∧ o + len ≤ A.slots.size ∧ q + len ≤ B.slots.size ∧ ∀ i, i < len → ¬ 255 < cv A (o + i)
def E (b : Addr) (A : Cell) (d : Addr) (B : Cell) (o q len : Nat) (r : Option Value) (s u : State) : Prop := r = some (.int (Int32.ofNat len)) ∧ ∃ B', Put d B' s u ∧ Laid B B' q (q + len) (fun j => Value.int (lo8 (cv A (o + (j - q)))))
/-- no char of the range above 255: len; the places written hold each char's low byte -/
theorem law (l : Launch) (b : Addr) (A : Cell) (d : Addr) (B : Cell) (o q len : Nat) : Law l yN 5 5 0 0 yB 7 (some .int) site (P b A d B o q len) (E b A d B o q len) (copyLocs d q len) 0 0 := by
  refine Law.of_walk (plainFor_of_name (by decide +kernel)) (by decide +kernel) (by decide +kernel) (by decide) (fun _ _ h => by rw [h.1]; rfl) (fun _ U U' hal hh h => ⟨h.1, h.2.1.mv hal hh, h.2.2.1.mv hal hh, h.2.2.2⟩) (fun r U U' V V' h1 hal h2 h => ⟨h.1, h.2.elim fun B' q => ⟨B', q.1.mv h1 h2, q.2⟩⟩) ?_
  intro p e s m args below meth c s₁ X0 hexec hbytes hml hret hlk hnm hown hh0 W hP
  obtain ⟨rfl, hA, hB, hne, l1, l2, hp⟩ := hP
  have c1 : Steps p.tables e below (s₁.setTop (entryFrame m #[.ref b, .int (Int32.ofNat o), .ref d, .int (Int32.ofNat q), .int (Int32.ofNat len)] 7)) (s₁.setTop (mkF m 0 #[.val (.ref b), .val (.int (Int32.ofNat o)), .val (.ref d), .val (.int (Int32.ofNat q)), .val (.int (Int32.ofNat len)), .unset, .unset] [])) := entry rfl
  have hA0 := hA.1.mv X0.warmed.alike hh0
  have hB0 := hB.mv X0.warmed.alike hh0
  have a31 := hA.1.2.2.2
  have c2 : Steps p.tables e below (s₁.setTop (entryFrame m #[.ref b, .int (Int32.ofNat o), .ref d, .int (Int32.ofNat q), .int (Int32.ofNat len)] 7)) (s₁.setTop (mkF m 3 #[.val (.ref b), .val (.int (Int32.ofNat o)), .val (.ref d), .val (.int (Int32.ofNat q)), .val (.int (Int32.ofNat len)), .val (.int 0), .unset] [])) := c1.trans (by
    refine iconstV X0.here hexec rfl 0 (hb hbytes d0) (by decide) ?_
    refine XS.istore X0.here hexec rfl (hb hbytes d1) rfl rfl ?_
    exact Steps.refl _)
  have loop : ∀ (r i : Nat), i + r = len → ∀ (z : Slot), (z = .unset ∨ ∃ w, z = .val w ∧ w.category = 1) → ∀ (Tl : State) (Bk : Cell), Stand p l e { frames := 0, locals := 0, cells := 0, slots := 0 } s m #[.ref b, .int (Int32.ofNat o), .ref d, .int (Int32.ofNat q), .int (Int32.ofNat len)] below meth c Tl ([] ++ copyLocs d q i) 0 0 → Put d Bk s₁ Tl → Laid B Bk q (q + i) (fun j => Value.int (lo8 (cv A (o + (j - q))))) →
      Steps p.tables e below (s₁.setTop (entryFrame m #[.ref b, .int (Int32.ofNat o), .ref d, .int (Int32.ofNat q), .int (Int32.ofNat len)] 7)) (Tl.setTop (mkF m 3 #[.val (.ref b), .val (.int (Int32.ofNat (o + i))), .val (.ref d), .val (.int (Int32.ofNat (q + i))), .val (.int (Int32.ofNat len)), .val (.int (Int32.ofNat i)), z] [])) → ∃ (T' : State) (B' : Cell) (z' : Slot), Stand p l e { frames := 0, locals := 0, cells := 0, slots := 0 } s m #[.ref b, .int (Int32.ofNat o), .ref d, .int (Int32.ofNat q), .int (Int32.ofNat len)] below meth c T' ([] ++ copyLocs d q len) 0 0 ∧ Put d B' s₁ T' ∧ Laid B B' q (q + len) (fun j => Value.int (lo8 (cv A (o + (j - q))))) ∧
      Steps p.tables e below (s₁.setTop (entryFrame m #[.ref b, .int (Int32.ofNat o), .ref d, .int (Int32.ofNat q), .int (Int32.ofNat len)] 7)) (T'.setTop (mkF m 3 #[.val (.ref b), .val (.int (Int32.ofNat (o + len))), .val (.ref d), .val (.int (Int32.ofNat (q + len))), .val (.int (Int32.ofNat len)), .val (.int (Int32.ofNat len)), z'] [])) := by
    intro r
    induction r with
    | zero =>
      intro i hi z hz Tl Bk Xl pl fl cl
      have hil : i = len := by omega
      rw [hil] at Xl fl cl
      exact ⟨Tl, Bk, z, Xl, pl, fl, cl⟩
    | succ r ih =>
      intro i hi z hz Tl Bk Xl pl fl cl
      have all := X0.warmed.alike.symm.trans Xl.warmed.alike
      have hAl := hA0.keep all (pl.other hne hA0.1)
      have hBk := hB0.like all pl.1 fl.1 fl.2.1 fl.2.2.1
      have hlt : q + i < Bk.slots.size := by rw [fl.2.2.1]; omega
      have c3 : Steps p.tables e below (s₁.setTop (entryFrame m #[.ref b, .int (Int32.ofNat o), .ref d, .int (Int32.ofNat q), .int (Int32.ofNat len)] 7)) (Tl.setTop (mkF m 12 #[.val (.ref b), .val (.int (Int32.ofNat (o + i))), .val (.ref d), .val (.int (Int32.ofNat (q + i))), .val (.int (Int32.ofNat len)), .val (.int (Int32.ofNat i)), z] [.int (Int32.ofNat (o + i)), .ref b])) := cl.trans (by
        refine XS.iload Xl.here hexec rfl (hb hbytes d3) rfl ?_
        refine XS.iload Xl.here hexec rfl (hb hbytes d5) rfl ?_
        refine XS.icmpNo Xl.here hexec rfl (hb hbytes d7) rfl (ii_ge_f (lt32 (by omega) (by omega))) ?_
        refine XS.aloadN Xl.here hexec rfl (hb hbytes d10) rfl rfl ?_
        refine XS.iloadN Xl.here hexec rfl (hb hbytes d11) rfl ?_
        exact Steps.refl _)
      have c4 : Steps p.tables e below (s₁.setTop (entryFrame m #[.ref b, .int (Int32.ofNat o), .ref d, .int (Int32.ofNat q), .int (Int32.ofNat len)] 7)) (Tl.setTop (mkF m 13 #[.val (.ref b), .val (.int (Int32.ofNat (o + i))), .val (.ref d), .val (.int (Int32.ofNat (q + i))), .val (.int (Int32.ofNat len)), .val (.int (Int32.ofNat i)), z] [.int (cv A (o + i))])) := c3.trans (by
        refine Xl.aget hexec hAl rfl (hA.get (i := o + i) (by omega)) rfl rfl (hb hbytes d12) ?_
        exact Steps.refl _)
      have c5 : Steps p.tables e below (s₁.setTop (entryFrame m #[.ref b, .int (Int32.ofNat o), .ref d, .int (Int32.ofNat q), .int (Int32.ofNat len)] 7)) (Tl.setTop (mkF m 15 #[.val (.ref b), .val (.int (Int32.ofNat (o + i))), .val (.ref d), .val (.int (Int32.ofNat (q + i))), .val (.int (Int32.ofNat len)), .val (.int (Int32.ofNat i)), .val (.int (cv A (o + i)))] [])) := c4.trans (by
        refine XS.istoreS Xl.here hexec rfl (hb hbytes d13) rfl rfl hz ?_
        exact Steps.refl _)
      have c6 : Steps p.tables e below (s₁.setTop (entryFrame m #[.ref b, .int (Int32.ofNat o), .ref d, .int (Int32.ofNat q), .int (Int32.ofNat len)] 7)) (Tl.setTop (mkF m 31 #[.val (.ref b), .val (.int (Int32.ofNat (o + i))), .val (.ref d), .val (.int (Int32.ofNat (q + i))), .val (.int (Int32.ofNat len)), .val (.int (Int32.ofNat i)), .val (.int (cv A (o + i)))] [.int (lo8 (cv A (o + i))), .int (Int32.ofNat (q + i)), .ref d])) := c5.trans (by
        refine XS.iload Xl.here hexec rfl (hb hbytes d15) rfl ?_
        refine sipushV Xl.here hexec rfl 255 (hb hbytes d17) (by decide) ?_
        refine XS.icmpYes Xl.here hexec rfl (pc0 := 20) rfl (hb hbytes d20) rfl (ii_le_t (hp i (by omega))) (by decide) rfl ?_
        refine XS.aloadN Xl.here hexec rfl (hb hbytes d26) rfl rfl ?_
        refine XS.iloadN Xl.here hexec rfl (hb hbytes d27) rfl ?_
        refine XS.iload Xl.here hexec rfl (hb hbytes d28) rfl ?_
        refine i2b Xl.here hexec rfl (hb hbytes d30) rfl ?_
        exact Steps.refl _)
      obtain ⟨T7, X7, p7, st7⟩ := Xl.aput hexec hBk rfl hlt rfl (fits_lo8 (cv A (o + i))) (g := (mkF m 31 #[.val (.ref b), .val (.int (Int32.ofNat (o + i))), .val (.ref d), .val (.int (Int32.ofNat (q + i))), .val (.int (Int32.ofNat len)), .val (.int (Int32.ofNat i)), .val (.int (cv A (o + i)))] [.int (lo8 (cv A (o + i))), .int (Int32.ofNat (q + i)), .ref d])) rfl (rest := []) rfl (hb hbytes d31)
      have c8 : Steps p.tables e below (s₁.setTop (entryFrame m #[.ref b, .int (Int32.ofNat o), .ref d, .int (Int32.ofNat q), .int (Int32.ofNat len)] 7)) (T7.setTop (mkF m 32 #[.val (.ref b), .val (.int (Int32.ofNat (o + i))), .val (.ref d), .val (.int (Int32.ofNat (q + i))), .val (.int (Int32.ofNat len)), .val (.int (Int32.ofNat i)), .val (.int (cv A (o + i)))] [])) := c6.trans (st7 _ (Steps.refl _))
      have c9 : Steps p.tables e below (s₁.setTop (entryFrame m #[.ref b, .int (Int32.ofNat o), .ref d, .int (Int32.ofNat q), .int (Int32.ofNat len)] 7)) (T7.setTop (mkF m 3 #[.val (.ref b), .val (.int (Int32.ofNat (o + i) + 1)), .val (.ref d), .val (.int (Int32.ofNat (q + i) + 1)), .val (.int (Int32.ofNat len)), .val (.int (Int32.ofNat i + 1)), .val (.int (cv A (o + i)))] [])) := c8.trans (by
        refine iincV X7.here hexec rfl 1 (hb hbytes d32) (by decide) rfl rfl ?_
        refine iincV X7.here hexec rfl 1 (hb hbytes d35) (by decide) rfl rfl ?_
        refine iincV X7.here hexec rfl 1 (hb hbytes d38) (by decide) rfl rfl ?_
        refine XS.goto X7.here hexec rfl (pc0 := 41) rfl (hb hbytes d41) (by decide) rfl ?_
        exact Steps.refl _)
      have c10 : Steps p.tables e below (s₁.setTop (entryFrame m #[.ref b, .int (Int32.ofNat o), .ref d, .int (Int32.ofNat q), .int (Int32.ofNat len)] 7)) (T7.setTop (mkF m 3 #[.val (.ref b), .val (.int (Int32.ofNat (o + (i + 1)))), .val (.ref d), .val (.int (Int32.ofNat (q + (i + 1)))), .val (.int (Int32.ofNat len)), .val (.int (Int32.ofNat (i + 1))), .val (.int (cv A (o + i)))] [])) := by
        have := c9
        rw [succ32, succ32, succ32] at this
        exact this
      exact ih (i + 1) (by omega) _ (Or.inr ⟨_, rfl, rfl⟩) T7 _ (by rw [copyLocs_step, ← List.append_assoc]; exact X7) (pl.trans p7) (fl.step (by omega) hlt (by simp)) c10
  obtain ⟨T9, B9, z9, X9, p9, f9, g9⟩ := loop len 0 (by omega) .unset (Or.inl rfl) s₁ B (by simpa [copyLocs] using X0) ⟨hB0.1, fun _ _ => rfl, rfl⟩ (Laid.zero _ _ _) c2
  have c11 : Steps p.tables e below (s₁.setTop (entryFrame m #[.ref b, .int (Int32.ofNat o), .ref d, .int (Int32.ofNat q), .int (Int32.ofNat len)] 7)) (T9.setTop (mkF m 46 #[.val (.ref b), .val (.int (Int32.ofNat (o + len))), .val (.ref d), .val (.int (Int32.ofNat (q + len))), .val (.int (Int32.ofNat len)), .val (.int (Int32.ofNat len)), z9] [.int (Int32.ofNat len)])) := g9.trans (by
    refine XS.iload X9.here hexec rfl (hb hbytes d3) rfl ?_
    refine XS.iload X9.here hexec rfl (hb hbytes d5) rfl ?_
    refine XS.icmpYes X9.here hexec rfl (pc0 := 7) rfl (hb hbytes d7) rfl (ii_ge_t (nlt32 (by omega) (Nat.le_refl _))) (by decide) rfl ?_
    refine XS.iload X9.here hexec rfl (hb hbytes d44) rfl ?_
    exact Steps.refl _)
  exact ⟨T9, some (.int (Int32.ofNat len)), _, _, _, X9, by simp, rfl, rfl, (fun h => by cases h), ⟨rfl, B9, p9.from hh0, f9⟩, fun fs hl => c11.trans (X9.ireturnOut hexec hret rfl (Or.inl rfl) (hb hbytes d46) hl)⟩
end Cmp5
namespace Cmp3
def yN : MethodName := ⟨"java/lang/StringUTF16", "compress", "([CII)[B"⟩
abbrev yB : ByteArray := jdk_52_method_16_code
theorem d0 : decode yB 0 = .ok (.iload_n 2, 1) := by decide +kernel
theorem d1 : decode yB 1 = .ok (.newarray .byte, 2) := by decide +kernel
theorem d3 : decode yB 3 = .ok (.astore_n 3, 1) := by decide +kernel
theorem d4 : decode yB 4 = .ok (.aload_n 0, 1) := by decide +kernel
theorem d5 : decode yB 5 = .ok (.iload_n 1, 1) := by decide +kernel
theorem d6 : decode yB 6 = .ok (.aload_n 3, 1) := by decide +kernel
theorem d7 : decode yB 7 = .ok (.iconst 0, 1) := by decide +kernel
theorem d8 : decode yB 8 = .ok (.iload_n 2, 1) := by decide +kernel
theorem d9 : decode yB 9 = .ok (.invokestatic 115, 3) := by decide +kernel
theorem d12 : decode yB 12 = .ok (.istore 4, 2) := by decide +kernel
theorem d14 : decode yB 14 = .ok (.iload 4, 2) := by decide +kernel
theorem d16 : decode yB 16 = .ok (.iload_n 2, 1) := by decide +kernel
theorem d17 : decode yB 17 = .ok (.if_icmp (.eq) 40, 3) := by decide +kernel
theorem d57 : decode yB 57 = .ok (.aload_n 3, 1) := by decide +kernel
theorem d58 : decode yB 58 = .ok (.areturn, 1) := by decide +kernel
def site : List Cond := [.arrayClass .byte, Cmp5.tab] ++ staticW U16 115 Cmp5.yN
def tab : Cond := tabOf yN yB 6 (some (.array .byte)) site
def P (b : Addr) (A : Cell) (o len : Nat) (args : Array Value) (s : State) : Prop := args = #[.ref b, .int (Int32.ofNat o), .int (Int32.ofNat len)] ∧ Ch b A s ∧ o + len ≤ A.slots.size ∧ len ≤ 536870912 ∧ ∀ i, i < len → ¬ 255 < cv A (o + i)
def E (b : Addr) (A : Cell) (o len : Nat) (r : Option Value) (s u : State) : Prop := NewArr .byte "[B" len (fun j => .int (lo8 (cv A (o + j)))) r s u ∧ u.heap.size = s.heap.size + 1
/-- no char of the range above 255: a new byte[] of their low bytes -/
theorem law (l : Launch) (b : Addr) (A : Cell) (o len : Nat) : Law l yN 3 3 1 18 yB 6 (some (.array .byte)) site (P b A o len) (E b A o len) [] 1 len := by
  refine Law.of_walk (plainFor_of_name (by decide +kernel)) (by decide +kernel) (by decide +kernel) (by decide) (fun _ _ h => by rw [h.1]; rfl) (fun _ U U' hal hh h => ⟨h.1, h.2.1.mv hal hh, h.2.2⟩) (fun r U U' V V' h1 hal h2 h => ⟨NewArr.mv r U U' V V' h1 hal h2 h.1, by rw [h1, h2]; exact h.2⟩) ?_
  intro p e s m args below meth c s₁ X0 hexec hbytes hml hret hlk hnm hown hh0 W hP
  obtain ⟨rfl, hA, l1, l2, hp⟩ := hP
  have a31 := hA.1.2.2.2
  have c1 : Steps p.tables e below (s₁.setTop (entryFrame m #[.ref b, .int (Int32.ofNat o), .int (Int32.ofNat len)] 6)) (s₁.setTop (mkF m 0 #[.val (.ref b), .val (.int (Int32.ofNat o)), .val (.int (Int32.ofNat len)), .unset, .unset, .unset] [])) := entry rfl
  have c2 : Steps p.tables e below (s₁.setTop (entryFrame m #[.ref b, .int (Int32.ofNat o), .int (Int32.ofNat len)] 6)) (s₁.setTop (mkF m 1 #[.val (.ref b), .val (.int (Int32.ofNat o)), .val (.int (Int32.ofNat len)), .unset, .unset, .unset] [.int (Int32.ofNat len)])) := c1.trans (by
    refine XS.iloadN X0.here hexec rfl (hb hbytes d0) rfl ?_
    exact Steps.refl _)
  obtain ⟨T3, B3, X3, ba3, bs3, bv3, bh3, bf3, st3⟩ := X0.anew hexec (atype := .byte) (wk W (.arrayClass .byte)) rfl (by show len * 1 ≤ _; omega) (by omega) (g := (mkF m 1 #[.val (.ref b), .val (.int (Int32.ofNat o)), .val (.int (Int32.ofNat len)), .unset, .unset, .unset] [.int (Int32.ofNat len)])) rfl (hb hbytes d1) (rest := []) rfl (Nat.le_refl _) (by show 0 + len ≤ len; omega)
  rw [hh0] at ba3 st3
  have kp3 : XT.Kept s T3 := (XT.Kept.of_eq hh0).push bh3
  have hA3 := hA.keep X3.warmed.alike (kp3 _ _ hA.1.1)
  have hne : b ≠ s.heap.size := hA.1.ne
  have c4 : Steps p.tables e below (s₁.setTop (entryFrame m #[.ref b, .int (Int32.ofNat o), .int (Int32.ofNat len)] 6)) (T3.setTop (mkF m 3 #[.val (.ref b), .val (.int (Int32.ofNat o)), .val (.int (Int32.ofNat len)), .unset, .unset, .unset] [.ref s.heap.size])) := c2.trans (st3 _ (Steps.refl _))
  have c5 : Steps p.tables e below (s₁.setTop (entryFrame m #[.ref b, .int (Int32.ofNat o), .int (Int32.ofNat len)] 6)) (T3.setTop (mkF m 9 #[.val (.ref b), .val (.int (Int32.ofNat o)), .val (.int (Int32.ofNat len)), .val (.ref s.heap.size), .unset, .unset] [.int (Int32.ofNat len), .int 0, .ref s.heap.size, .int (Int32.ofNat o), .ref b])) := c4.trans (by
    refine XS.astoreN X3.here hexec rfl (hb hbytes d3) rfl rfl rfl ?_
    refine XS.aloadN X3.here hexec rfl (hb hbytes d4) rfl rfl ?_
    refine XS.iloadN X3.here hexec rfl (hb hbytes d5) rfl ?_
    refine XS.aloadN X3.here hexec rfl (hb hbytes d6) rfl rfl ?_
    refine iconstV X3.here hexec rfl 0 (hb hbytes d7) (by decide) ?_
    refine XS.iloadN X3.here hexec rfl (hb hbytes d8) rfl ?_
    exact Steps.refl _)
  obtain ⟨v6, T6, X6, E6, g6⟩ := X3.callS hexec (Cmp5.law l b A s.heap.size B3 o 0 len) hown (wks W (staticW U16 115 Cmp5.yN)) (wk W Cmp5.tab) (W := 0) (Nat.le_of_ble_eq_true rfl) (Nat.le_of_ble_eq_true rfl) (Nat.le_refl _) (by show 0 + len + 0 ≤ len; omega) (g := (mkF m 9 #[.val (.ref b), .val (.int (Int32.ofNat o)), .val (.int (Int32.ofNat len)), .val (.ref s.heap.size), .unset, .unset] [.int (Int32.ofNat len), .int (Int32.ofNat 0), .ref s.heap.size, .int (Int32.ofNat o), .ref b])) rfl (by rw [hml]; rfl) c5 (argsL := [.ref b, .int (Int32.ofNat o), .ref s.heap.size, .int (Int32.ofNat 0), .int (Int32.ofNat len)]) (rest := []) rfl rfl (by show 2 * 0 + 0 ≤ _; decide) (hb hbytes d9) (⟨rfl, hA3, ba3, hne, l1, by rw [bs3]; simp, hp⟩)
  obtain ⟨rfl, B6, p6, f6⟩ := E6
  have c7 : Steps p.tables e below (s₁.setTop (entryFrame m #[.ref b, .int (Int32.ofNat o), .int (Int32.ofNat len)] 6)) (T6.setTop (mkF m 12 #[.val (.ref b), .val (.int (Int32.ofNat o)), .val (.int (Int32.ofNat len)), .val (.ref s.heap.size), .unset, .unset] [.int (Int32.ofNat len)])) := g6
  have c8 : Steps p.tables e below (s₁.setTop (entryFrame m #[.ref b, .int (Int32.ofNat o), .int (Int32.ofNat len)] 6)) (T6.setTop (mkF m 58 #[.val (.ref b), .val (.int (Int32.ofNat o)), .val (.int (Int32.ofNat len)), .val (.ref s.heap.size), .val (.int (Int32.ofNat len)), .unset] [.ref s.heap.size])) := c7.trans (by
    refine XS.istore X6.here hexec rfl (hb hbytes d12) rfl rfl ?_
    refine XS.iload X6.here hexec rfl (hb hbytes d14) rfl ?_
    refine XS.iloadN X6.here hexec rfl (hb hbytes d16) rfl ?_
    refine XS.icmpYes X6.here hexec rfl (pc0 := 17) rfl (hb hbytes d17) rfl (ii_eq_t rfl) (by decide) rfl ?_
    refine XS.aloadN X6.here hexec rfl (hb hbytes d57) rfl rfl ?_
    exact Steps.refl _)
  have X8 := X6.wide (L' := []) (cells' := 1) (slots' := len) (fun x hx hlt => by
    simp only [List.nil_append, copyLocs, List.mem_map, List.mem_range] at hx
    obtain ⟨i, -, rfl⟩ := hx
    exact absurd hlt (Nat.lt_irrefl _)) (Nat.le_refl _) (by omega)
  exact ⟨T6, some (.ref s.heap.size), _, _, _, X8, rfl, rfl, rfl, (fun h => by cases h), ⟨⟨rfl, B6, ba3.like (X3.warmed.alike.symm.trans X6.warmed.alike) p6.1 f6.1 f6.2.1 f6.2.2.1, f6.2.1.trans bv3, by rw [X6.warmed.alike.findClass, f6.1]; exact bf3, by rw [f6.2.2.1, bs3]; simp, fun j hj => by rw [f6.2.2.2 j, if_pos (by omega)]; rfl, kp3.put p6 (Nat.le_refl _)⟩, by rw [p6.2.2, bh3, hh0]; simp⟩, fun fs hl => c8.trans (X8.areturnOut hexec rfl hret rfl (hb hbytes d58) hl)⟩
end Cmp3
namespace CodL
def yN : MethodName := ⟨"java/lang/StringUTF16", "coderFromArrayLen", "([BI)B"⟩
abbrev yB : ByteArray := jdk_52_method_15_code
theorem d0 : decode yB 0 = .ok (.iload_n 1, 1) := by decide +kernel
theorem d1 : decode yB 1 = .ok (.aload_n 0, 1) := by decide +kernel
theorem d2 : decode yB 2 = .ok (.arraylength, 1) := by decide +kernel
theorem d3 : decode yB 3 = .ok (.isub, 1) := by decide +kernel
theorem d4 : decode yB 4 = .ok (.bipush 31, 2) := by decide +kernel
theorem d6 : decode yB 6 = .ok (.iushr, 1) := by decide +kernel
theorem d7 : decode yB 7 = .ok (.i2b, 1) := by decide +kernel
theorem d8 : decode yB 8 = .ok (.ireturn, 1) := by decide +kernel
def site : List Cond := []
def tab : Cond := tabOf yN yB 2 (some .byte) site
def P (d : Addr) (B : Cell) (args : Array Value) (s : State) : Prop := args = #[.ref d, .int (Int32.ofNat B.slots.size)] ∧ Arr .byte d B s
def E (r : Option Value) (s u : State) : Prop := XT.PureE (some (.int 0)) r s u
/-- an array as long as the number of chars: LATIN1 -/
theorem law (l : Launch) (d : Addr) (B : Cell) : Law l yN 2 2 0 0 yB 2 (some .byte) site (P d B) E [] 0 0 := by
  refine Law.of_walk (plainFor_of_name (by decide +kernel)) (by decide +kernel) (by decide +kernel) (by decide) (fun _ _ h => by rw [h.1]; rfl) (fun _ U U' hal hh h => ⟨h.1, h.2.mv hal hh⟩) (fun r U U' V V' h1 hal h2 h => XT.PureE.mv r U U' V V' h1 hal h2 h) ?_
  intro p e s m args below meth c s₁ X0 hexec hbytes hml hret hlk hnm hown hh0 W hP
  obtain ⟨rfl, hB⟩ := hP
  have hB0 := hB.mv X0.warmed.alike hh0
  have c1 : Steps p.tables e below (s₁.setTop (entryFrame m #[.ref d, .int (Int32.ofNat B.slots.size)] 2)) (s₁.setTop (mkF m 0 #[.val (.ref d), .val (.int (Int32.ofNat B.slots.size))] [])) := entry rfl
  have c2 : Steps p.tables e below (s₁.setTop (entryFrame m #[.ref d, .int (Int32.ofNat B.slots.size)] 2)) (s₁.setTop (mkF m 2 #[.val (.ref d), .val (.int (Int32.ofNat B.slots.size))] [.ref d, .int (Int32.ofNat B.slots.size)])) := c1.trans (by
    refine XS.iloadN X0.here hexec rfl (hb hbytes d0) rfl ?_
    refine XS.aloadN X0.here hexec rfl (hb hbytes d1) rfl rfl ?_
    exact Steps.refl _)
  have c3 : Steps p.tables e below (s₁.setTop (entryFrame m #[.ref d, .int (Int32.ofNat B.slots.size)] 2)) (s₁.setTop (mkF m 8 #[.val (.ref d), .val (.int (Int32.ofNat B.slots.size))] [.int (lo8 (ushr (Int32.ofNat B.slots.size - Int32.ofNat B.slots.size) 31))])) := c2.trans (by
    refine X0.alen hexec hB0 rfl rfl (hb hbytes d2) ?_
    refine XS.isub X0.here hexec rfl (hb hbytes d3) rfl ?_
    refine bipushV X0.here hexec rfl 31 (hb hbytes d4) (by decide) ?_
    refine iushr X0.here hexec rfl (hb hbytes d6) rfl ?_
    refine i2b X0.here hexec rfl (hb hbytes d7) rfl ?_
    exact Steps.refl _)
  have e0 : lo8 (ushr (Int32.ofNat B.slots.size - Int32.ofNat B.slots.size) 31) = 0 := by rw [Int32.sub_self]; decide
  rw [e0] at c3
  exact ⟨s₁, some (.int 0), _, _, _, X0, rfl, rfl, rfl, (fun h => by cases h), ⟨rfl, hh0⟩, fun fs hl => c3.trans (X0.ireturnOut hexec hret rfl (Or.inr (Or.inr (Or.inl rfl))) (hb hbytes d8) hl)⟩
end CodL
/-- the String at a is Latin-1 over a new byte[] (the heap's one new cell): the low bytes of the len chars of A from o on; every cell but a is kept -/
def Got (a : Addr) (D : Cell) (fV fC : Field) (A : Cell) (o len : Nat) (r : Option Value) (s u : State) : Prop := r = none ∧ ∃ D' V : Cell, Blank "java/lang/String" a D' u ∧ Same D D' [fV.slot, fC.slot] ∧ D'.slots[fV.slot]? = some (.ref s.heap.size) ∧ D'.slots[fC.slot]? = some (.int 0) ∧ Arr .byte s.heap.size V u ∧ V.vm = .none ∧ u.vm.findClass "[B" = some V.cls ∧ V.slots.size = len ∧ (∀ j, j < len → V.slots[j]? = some (.int (lo8 (cv A (o + j))))) ∧ (∀ (y : Addr) (c : Cell), y ≠ a → s.heap[y]? = some c → u.heap[y]? = some c) ∧ u.heap.size = s.heap.size + 1
theorem Got.mv {a : Addr} {D A : Cell} {fV fC : Field} {o len : Nat} : ∀ r (U U' V V' : State), U'.heap = U.heap → V.vm.Alike V'.vm → V'.heap = V.heap → Got a D fV fC A o len r U V → Got a D fV fC A o len r U' V' :=
  fun r U U' V V' h1 hal h2 ⟨e0, D', X, a1, a2, a3, a4, a5, a6, a7, a8, a9, a10, a11⟩ => ⟨e0, D', X, a1.mv hal h2, a2, by rw [h1]; exact a3, a4, by rw [h1]; exact a5.mv hal h2, a6, by rw [hal.findClass]; exact a7, a8, a9, by rw [h1, h2]; exact a10, by rw [h1, h2]; exact a11⟩
namespace New4
def yN : MethodName := ⟨"java/lang/String", "<init>", "([CIILjava/lang/Void;)V"⟩
abbrev yB : ByteArray := jdk_42_method_149_code
theorem d0 : decode yB 0 = .ok (.aload_n 0, 1) := by decide +kernel
theorem d1 : decode yB 1 = .ok (.invokespecial 1, 3) := by decide +kernel
theorem d4 : decode yB 4 = .ok (.iload_n 3, 1) := by decide +kernel
theorem d5 : decode yB 5 = .ok (.ifCond (.ne) 22, 3) := by decide +kernel
theorem d27 : decode yB 27 = .ok (.getstatic 38, 3) := by decide +kernel
theorem d30 : decode yB 30 = .ok (.ifCond (.eq) 28, 3) := by decide +kernel
theorem d33 : decode yB 33 = .ok (.aload_n 1, 1) := by decide +kernel
theorem d34 : decode yB 34 = .ok (.iload_n 2, 1) := by decide +kernel
theorem d35 : decode yB 35 = .ok (.iload_n 3, 1) := by decide +kernel
theorem d36 : decode yB 36 = .ok (.invokestatic 177, 3) := by decide +kernel
theorem d39 : decode yB 39 = .ok (.astore 5, 2) := by decide +kernel
theorem d41 : decode yB 41 = .ok (.aload_n 0, 1) := by decide +kernel
theorem d42 : decode yB 42 = .ok (.aload 5, 2) := by decide +kernel
theorem d44 : decode yB 44 = .ok (.iload_n 3, 1) := by decide +kernel
theorem d45 : decode yB 45 = .ok (.invokestatic 47, 3) := by decide +kernel
theorem d48 : decode yB 48 = .ok (.putfield 15, 3) := by decide +kernel
theorem d51 : decode yB 51 = .ok (.aload_n 0, 1) := by decide +kernel
theorem d52 : decode yB 52 = .ok (.aload 5, 2) := by decide +kernel
theorem d54 : decode yB 54 = .ok (.putfield 9, 3) := by decide +kernel
theorem d57 : decode yB 57 = .ok (.return_, 1) := by decide +kernel
def site : List Cond := [.fieldLink "java/lang/String" 38 "java/lang/String" "COMPACT_STRINGS" "Z", Cmp3.tab, CodL.tab, .laysFinal "java/lang/String" "java/lang/String" "value" "[B", .fieldLink "java/lang/String" 9 "java/lang/String" "value" "[B", .laysFinal "java/lang/String" "java/lang/String" "coder" "B", .fieldLink "java/lang/String" 15 "java/lang/String" "coder" "B"] ++ objW "java/lang/String" 1 ++ staticW "java/lang/String" 177 Cmp3.yN ++ staticW "java/lang/String" 47 CodL.yN
def tab : Cond := tabOf yN yB 6 none site
def P (a : Addr) (D : Cell) (fV fC : Field) (b : Addr) (A : Cell) (z : Int32) (o len : Nat) (args : Array Value) (s : State) : Prop := args = #[.ref a, .ref b, .int (Int32.ofNat o), .int (Int32.ofNat len), .null] ∧ Blank "java/lang/String" a D s ∧ Found "java/lang/String" "value" "[B" fV s ∧ Found "java/lang/String" "coder" "B" fC s ∧ Ch b A s ∧ StaticIs s "java/lang/String" "COMPACT_STRINGS" "Z" (.int z) ∧ ¬ z = 0 ∧ 0 < len ∧ o + len ≤ A.slots.size ∧ len ≤ 536870912 ∧ ∀ i, i < len → ¬ 255 < cv A (o + i)
def E (a : Addr) (D : Cell) (fV fC : Field) (A : Cell) (o len : Nat) (r : Option Value) (s u : State) : Prop := Got a D fV fC A o len r s u
/-- len > 0, no char of the range above 255: a Latin-1 String of their low bytes -/
theorem law (l : Launch) (a : Addr) (D : Cell) (fV fC : Field) (b : Addr) (A : Cell) (z : Int32) (o len : Nat) : Law l yN 5 4 2 35 yB 6 none site (P a D fV fC b A z o len) (E a D fV fC A o len) [⟨a, fC.slot⟩, ⟨a, fV.slot⟩] 1 len := by
  refine Law.of_walk (plainFor_of_name (by decide +kernel)) (by decide +kernel) (by decide +kernel) (by decide) (fun _ _ h => by rw [h.1]; rfl) (fun _ U U' hal hh h => ⟨h.1, h.2.1.mv hal hh, h.2.2.1.al hal, h.2.2.2.1.al hal, h.2.2.2.2.1.mv hal hh, h.2.2.2.2.2.1.there hal hh, h.2.2.2.2.2.2⟩) (fun r U U' V V' h1 hal h2 h => Got.mv r U U' V V' h1 hal h2 h) ?_
  intro p e s m args below meth c s₁ X0 hexec hbytes hml hret hlk hnm hown hh0 W hP
  obtain ⟨rfl, hB, f1, f2, hA, s1, hz, l0, l1, l2, hp⟩ := hP
  have a31 := hA.1.2.2.2
  have c1 : Steps p.tables e below (s₁.setTop (entryFrame m #[.ref a, .ref b, .int (Int32.ofNat o), .int (Int32.ofNat len), .null] 6)) (s₁.setTop (mkF m 0 #[.val (.ref a), .val (.ref b), .val (.int (Int32.ofNat o)), .val (.int (Int32.ofNat len)), .val .null, .unset] [])) := entry rfl
  have c2 : Steps p.tables e below (s₁.setTop (entryFrame m #[.ref a, .ref b, .int (Int32.ofNat o), .int (Int32.ofNat len), .null] 6)) (s₁.setTop (mkF m 1 #[.val (.ref a), .val (.ref b), .val (.int (Int32.ofNat o)), .val (.int (Int32.ofNat len)), .val .null, .unset] [.ref a])) := c1.trans (by
    refine XS.aloadN X0.here hexec rfl (hb hbytes d0) rfl rfl ?_
    exact Steps.refl _)
  obtain ⟨T3, X3, q3, st3⟩ := X0.oinit hexec hown (wks W (objW "java/lang/String" 1)) (g := (mkF m 1 #[.val (.ref a), .val (.ref b), .val (.int (Int32.ofNat o)), .val (.int (Int32.ofNat len)), .val .null, .unset] [.ref a])) rfl (by rw [hml]; rfl) (rest := []) rfl (hb hbytes d1) (W := 0) (by show 2 * 0 + 0 ≤ _; decide) (Nat.le_of_ble_eq_true rfl) (Nat.le_of_ble_eq_true rfl)
  have hh3 := q3.trans hh0
  have c4 : Steps p.tables e below (s₁.setTop (entryFrame m #[.ref a, .ref b, .int (Int32.ofNat o), .int (Int32.ofNat len), .null] 6)) (T3.setTop (mkF m 27 #[.val (.ref a), .val (.ref b), .val (.int (Int32.ofNat o)), .val (.int (Int32.ofNat len)), .val .null, .unset] [])) := (c2.trans (st3 _ (Steps.refl _))).trans (by
    refine XS.iloadN X3.here hexec rfl (hb hbytes d4) rfl ?_
    refine XS.ifYes X3.here hexec rfl (pc0 := 5) rfl (hb hbytes d5) rfl (i0_ne_t (nz32 (by omega) l0)) (by decide) rfl ?_
    exact Steps.refl _)
  obtain ⟨T5, X5, q5, st5⟩ := X3.sget hexec hown (wk W (.fieldLink "java/lang/String" 38 "java/lang/String" "COMPACT_STRINGS" "Z")) s1 (fun _ _ h => by rw [hh3]; exact h) (g := (mkF m 27 #[.val (.ref a), .val (.ref b), .val (.int (Int32.ofNat o)), .val (.int (Int32.ofNat len)), .val .null, .unset] [])) rfl (hb hbytes d27)
  have hh5 := q5.trans hh3
  have c6 : Steps p.tables e below (s₁.setTop (entryFrame m #[.ref a, .ref b, .int (Int32.ofNat o), .int (Int32.ofNat len), .null] 6)) (T5.setTop (mkF m 30 #[.val (.ref a), .val (.ref b), .val (.int (Int32.ofNat o)), .val (.int (Int32.ofNat len)), .val .null, .unset] [.int z])) := c4.trans (st5 _ (Steps.refl _))
  have c7 : Steps p.tables e below (s₁.setTop (entryFrame m #[.ref a, .ref b, .int (Int32.ofNat o), .int (Int32.ofNat len), .null] 6)) (T5.setTop (mkF m 36 #[.val (.ref a), .val (.ref b), .val (.int (Int32.ofNat o)), .val (.int (Int32.ofNat len)), .val .null, .unset] [.int (Int32.ofNat len), .int (Int32.ofNat o), .ref b])) := c6.trans (by
    refine XS.ifNo X5.here hexec rfl (hb hbytes d30) rfl (i0_eq_f hz) ?_
    refine XS.aloadN X5.here hexec rfl (hb hbytes d33) rfl rfl ?_
    refine XS.iloadN X5.here hexec rfl (hb hbytes d34) rfl ?_
    refine XS.iloadN X5.here hexec rfl (hb hbytes d35) rfl ?_
    exact Steps.refl _)
  obtain ⟨v8, T8, X8, E8, g8⟩ := X5.callS hexec (Cmp3.law l b A o len) hown (wks W (staticW "java/lang/String" 177 Cmp3.yN)) (wk W Cmp3.tab) (W := 0) (Nat.le_of_ble_eq_true rfl) (Nat.le_of_ble_eq_true rfl) (Nat.le_refl _) (by show 0 + len ≤ len; omega) (g := (mkF m 36 #[.val (.ref a), .val (.ref b), .val (.int (Int32.ofNat o)), .val (.int (Int32.ofNat len)), .val .null, .unset] [.int (Int32.ofNat len), .int (Int32.ofNat o), .ref b])) rfl (by rw [hml]; rfl) c7 (argsL := [.ref b, .int (Int32.ofNat o), .int (Int32.ofNat len)]) (rest := []) rfl rfl (by show 2 * 0 + 0 ≤ _; decide) (hb hbytes d36) (⟨rfl, hA.mv X5.warmed.alike hh5, l1, l2, hp⟩)
  obtain ⟨e8, z8⟩ := E8
  obtain ⟨rfl, N, n1, n2, n3, n4, n5, n6⟩ := NewArr.mv _ T5 s _ _ hh5.symm (Vm.Alike.refl _) rfl e8
  rw [hh5] at z8
  have hB1 := hB.keep X8.warmed.alike (n6 _ _ hB.1)
  have hne : s.heap.size ≠ a := (Nat.ne_of_lt (Array.getElem?_eq_some_iff.mp hB.1).1).symm
  have c9 : Steps p.tables e below (s₁.setTop (entryFrame m #[.ref a, .ref b, .int (Int32.ofNat o), .int (Int32.ofNat len), .null] 6)) (T8.setTop (mkF m 39 #[.val (.ref a), .val (.ref b), .val (.int (Int32.ofNat o)), .val (.int (Int32.ofNat len)), .val .null, .unset] [.ref s.heap.size])) := g8
  have c10 : Steps p.tables e below (s₁.setTop (entryFrame m #[.ref a, .ref b, .int (Int32.ofNat o), .int (Int32.ofNat len), .null] 6)) (T8.setTop (mkF m 45 #[.val (.ref a), .val (.ref b), .val (.int (Int32.ofNat o)), .val (.int (Int32.ofNat len)), .val .null, .val (.ref s.heap.size)] [.int (Int32.ofNat N.slots.size), .ref s.heap.size, .ref a])) := by
    have hc : Steps p.tables e below (s₁.setTop (entryFrame m #[.ref a, .ref b, .int (Int32.ofNat o), .int (Int32.ofNat len), .null] 6)) (T8.setTop (mkF m 45 #[.val (.ref a), .val (.ref b), .val (.int (Int32.ofNat o)), .val (.int (Int32.ofNat len)), .val .null, .val (.ref s.heap.size)] [.int (Int32.ofNat len), .ref s.heap.size, .ref a])) := c9.trans (by
      refine XS.astore X8.here hexec rfl (hb hbytes d39) rfl rfl rfl ?_
      refine XS.aloadN X8.here hexec rfl (hb hbytes d41) rfl rfl ?_
      refine XS.aload X8.here hexec rfl (hb hbytes d42) rfl rfl ?_
      refine XS.iloadN X8.here hexec rfl (hb hbytes d44) rfl ?_
      exact Steps.refl _)
    rw [n4]; exact hc
  obtain ⟨v11, T11, X11, E11, g11⟩ := X8.callS hexec (CodL.law l s.heap.size N) hown (wks W (staticW "java/lang/String" 47 CodL.yN)) (wk W CodL.tab) (W := 1) (Nat.le_of_ble_eq_true rfl) (Nat.le_of_ble_eq_true rfl) (Nat.le_refl _) (by show 0 + len + 0 ≤ len; omega) (g := (mkF m 45 #[.val (.ref a), .val (.ref b), .val (.int (Int32.ofNat o)), .val (.int (Int32.ofNat len)), .val .null, .val (.ref s.heap.size)] [.int (Int32.ofNat N.slots.size), .ref s.heap.size, .ref a])) rfl (by rw [hml]; rfl) c10 (argsL := [.ref s.heap.size, .int (Int32.ofNat N.slots.size)]) (rest := [.ref a]) rfl rfl (by show 2 * 0 + (1 + 0) ≤ _; decide) (hb hbytes d45) (⟨rfl, n1⟩)
  obtain ⟨rfl, q11⟩ := E11
  have hB11 := hB1.mv (X8.warmed.alike.symm.trans X11.warmed.alike) q11
  have c12 : Steps p.tables e below (s₁.setTop (entryFrame m #[.ref a, .ref b, .int (Int32.ofNat o), .int (Int32.ofNat len), .null] 6)) (T11.setTop (mkF m 48 #[.val (.ref a), .val (.ref b), .val (.int (Int32.ofNat o)), .val (.int (Int32.ofNat len)), .val .null, .val (.ref s.heap.size)] [.int 0, .ref a])) := g11
  obtain ⟨T13, X13, p13, bl13, sl13, st13⟩ := X11.finit hexec hown (wk W (.fieldLink "java/lang/String" 15 "java/lang/String" "coder" "B")) (Or.inr ⟨_, (wk W (.laysFinal "java/lang/String" "java/lang/String" "coder" "B"))⟩) (Or.inl ⟨rfl, hnm⟩) f2 (Or.inl rfl) hB11 (t := .byte) (by decide +kernel) rfl (g := (mkF m 48 #[.val (.ref a), .val (.ref b), .val (.int (Int32.ofNat o)), .val (.int (Int32.ofNat len)), .val .null, .val (.ref s.heap.size)] [.int 0, .ref a])) rfl (rest := []) rfl (hb hbytes d48)
  have c14 : Steps p.tables e below (s₁.setTop (entryFrame m #[.ref a, .ref b, .int (Int32.ofNat o), .int (Int32.ofNat len), .null] 6)) (T13.setTop (mkF m 54 #[.val (.ref a), .val (.ref b), .val (.int (Int32.ofNat o)), .val (.int (Int32.ofNat len)), .val .null, .val (.ref s.heap.size)] [.ref s.heap.size, .ref a])) := (c12.trans (st13 _ (Steps.refl _))).trans (by
    refine XS.aloadN X13.here hexec rfl (hb hbytes d51) rfl rfl ?_
    refine XS.aload X13.here hexec rfl (hb hbytes d52) rfl rfl ?_
    exact Steps.refl _)
  obtain ⟨T15, X15, p15, bl15, sl15, st15⟩ := X13.finit hexec hown (wk W (.fieldLink "java/lang/String" 9 "java/lang/String" "value" "[B")) (Or.inr ⟨_, (wk W (.laysFinal "java/lang/String" "java/lang/String" "value" "[B"))⟩) (Or.inl ⟨rfl, hnm⟩) f1 (Or.inl rfl) bl13 (t := (.array .byte)) (by decide +kernel) rfl (g := (mkF m 54 #[.val (.ref a), .val (.ref b), .val (.int (Int32.ofNat o)), .val (.int (Int32.ofNat len)), .val .null, .val (.ref s.heap.size)] [.ref s.heap.size, .ref a])) rfl (rest := []) rfl (hb hbytes d54)
  have c16 : Steps p.tables e below (s₁.setTop (entryFrame m #[.ref a, .ref b, .int (Int32.ofNat o), .int (Int32.ofNat len), .null] 6)) (T15.setTop (mkF m 57 #[.val (.ref a), .val (.ref b), .val (.int (Int32.ofNat o)), .val (.int (Int32.ofNat len)), .val .null, .val (.ref s.heap.size)] [])) := c14.trans (st15 _ (Steps.refl _))
  have ap := apart (Or.inr ⟨_, (wk W (.laysFinal "java/lang/String" "java/lang/String" "value" "[B"))⟩) (Or.inr ⟨_, (wk W (.laysFinal "java/lang/String" "java/lang/String" "coder" "B"))⟩) f1 f2 (t₁ := .array .byte) (t₂ := .byte) (by decide +kernel) (by decide +kernel) (by decide)
  have al := X8.warmed.alike.symm.trans X15.warmed.alike
  have n7 : T11.heap[s.heap.size]? = some N := by rw [q11]; exact n1.1
  exact ⟨T15, none, _, _, _, X15, by simp, rfl, by omega, (fun _ => rfl), ⟨rfl, _, N, bl15, ((Same.refl D _).set _ (by simp)).set _ (by simp), sl15, (Cell.slots_setSlot_ne _ ap).trans sl13, n1.keep al (p15.other hne (p13.other hne n7)), n2, by rw [al.findClass]; exact n3, n4, n5, fun y c h1 h2 => p15.other h1 (p13.other h1 (by rw [q11]; exact n6 y c h2)), by rw [p15.2.2, p13.2.2, q11]; exact z8⟩, fun fs hl => c16.trans (X15.returnOut hexec hret (hb hbytes d57) hl)⟩
end New4
namespace New1
def yN : MethodName := ⟨"java/lang/String", "<init>", "([C)V"⟩
abbrev yB : ByteArray := jdk_42_method_3_code
theorem d0 : decode yB 0 = .ok (.aload_n 0, 1) := by decide +kernel
theorem d1 : decode yB 1 = .ok (.aload_n 1, 1) := by decide +kernel
theorem d2 : decode yB 2 = .ok (.iconst 0, 1) := by decide +kernel
theorem d3 : decode yB 3 = .ok (.aload_n 1, 1) := by decide +kernel
theorem d4 : decode yB 4 = .ok (.arraylength, 1) := by decide +kernel
theorem d5 : decode yB 5 = .ok (.aconst_null, 1) := by decide +kernel
theorem d6 : decode yB 6 = .ok (.invokespecial 27, 3) := by decide +kernel
theorem d9 : decode yB 9 = .ok (.return_, 1) := by decide +kernel
def site : List Cond := [New4.tab] ++ initW "java/lang/String" 27 New4.yN
def tab : Cond := tabOf yN yB 2 none site
def P (a : Addr) (D : Cell) (fV fC : Field) (b : Addr) (A : Cell) (z : Int32) (args : Array Value) (s : State) : Prop := args = #[.ref a, .ref b] ∧ Blank "java/lang/String" a D s ∧ Found "java/lang/String" "value" "[B" fV s ∧ Found "java/lang/String" "coder" "B" fC s ∧ Ch b A s ∧ StaticIs s "java/lang/String" "COMPACT_STRINGS" "Z" (.int z) ∧ ¬ z = 0 ∧ 0 < A.slots.size ∧ A.slots.size ≤ 536870912 ∧ ∀ i, i < A.slots.size → ¬ 255 < cv A i
def E (a : Addr) (D : Cell) (fV fC : Field) (A : Cell) (r : Option Value) (s u : State) : Prop := Got a D fV fC A 0 A.slots.size r s u
/-- new String(chars), not empty, no char above 255: a Latin-1 String of their low bytes -/
theorem law (l : Launch) (a : Addr) (D : Cell) (fV fC : Field) (b : Addr) (A : Cell) (z : Int32) : Law l yN 2 1 3 52 yB 2 none site (P a D fV fC b A z) (E a D fV fC A) [⟨a, fC.slot⟩, ⟨a, fV.slot⟩] 1 A.slots.size := by
  refine Law.of_walk (plainFor_of_name (by decide +kernel)) (by decide +kernel) (by decide +kernel) (by decide) (fun _ _ h => by rw [h.1]; rfl) (fun _ U U' hal hh h => ⟨h.1, h.2.1.mv hal hh, h.2.2.1.al hal, h.2.2.2.1.al hal, h.2.2.2.2.1.mv hal hh, h.2.2.2.2.2.1.there hal hh, h.2.2.2.2.2.2⟩) (fun r U U' V V' h1 hal h2 h => Got.mv r U U' V V' h1 hal h2 h) ?_
  intro p e s m args below meth c s₁ X0 hexec hbytes hml hret hlk hnm hown hh0 W hP
  obtain ⟨rfl, hB, f1, f2, hA, s1, hz, l0, l2, hp⟩ := hP
  have c1 : Steps p.tables e below (s₁.setTop (entryFrame m #[.ref a, .ref b] 2)) (s₁.setTop (mkF m 0 #[.val (.ref a), .val (.ref b)] [])) := entry rfl
  have c2 : Steps p.tables e below (s₁.setTop (entryFrame m #[.ref a, .ref b] 2)) (s₁.setTop (mkF m 6 #[.val (.ref a), .val (.ref b)] [.null, .int (Int32.ofNat A.slots.size), .int 0, .ref b, .ref a])) := c1.trans (by
    refine XS.aloadN X0.here hexec rfl (hb hbytes d0) rfl rfl ?_
    refine XS.aloadN X0.here hexec rfl (hb hbytes d1) rfl rfl ?_
    refine iconstV X0.here hexec rfl 0 (hb hbytes d2) (by decide) ?_
    refine XS.aloadN X0.here hexec rfl (hb hbytes d3) rfl rfl ?_
    refine X0.alen hexec (hA.1.mv X0.warmed.alike hh0) rfl rfl (hb hbytes d4) ?_
    refine XS.aconstNull X0.here hexec rfl (hb hbytes d5) ?_
    exact Steps.refl _)
  obtain ⟨v3, T3, X3, E3, g3⟩ := X0.callN hexec (New4.law l a D fV fC b A z 0 A.slots.size) rfl hown (wks W (initW "java/lang/String" 27 New4.yN)) (W New4.tab (by simp only [site, List.mem_cons, List.mem_append, true_or, or_true])) (W := 0) (Nat.le_of_ble_eq_true rfl) (Nat.le_of_ble_eq_true rfl) (Nat.le_refl _) (by show 0 + A.slots.size ≤ A.slots.size; omega) (g := (mkF m 6 #[.val (.ref a), .val (.ref b)] [.null, .int (Int32.ofNat A.slots.size), .int (Int32.ofNat 0), .ref b, .ref a])) rfl (by rw [hml]; rfl) c2 (argsL := [.ref b, .int (Int32.ofNat 0), .int (Int32.ofNat A.slots.size), .null]) (rest := []) rfl rfl (by show 2 * 0 + 0 ≤ _; decide) (hb hbytes d6) (⟨rfl, hB.mv X0.warmed.alike hh0, f1.al X0.warmed.alike, f2.al X0.warmed.alike, hA.mv X0.warmed.alike hh0, s1.there X0.warmed.alike hh0, hz, l0, by omega, l2, fun i hi => by rw [Nat.zero_add]; exact hp i hi⟩)
  have e0 := Got.mv _ s₁ s _ _ hh0.symm (Vm.Alike.refl _) rfl E3
  obtain rfl := e0.1
  have c4 : Steps p.tables e below (s₁.setTop (entryFrame m #[.ref a, .ref b] 2)) (T3.setTop (mkF m 9 #[.val (.ref a), .val (.ref b)] [])) := g3
  exact ⟨T3, none, _, _, _, X3, by simp, rfl, by omega, (fun _ => rfl), e0, fun fs hl => c4.trans (X3.returnOut hexec hret (hb hbytes d9) hl)⟩
theorem pays {l : Launch} {R : Room} {p : Program} {e : Env} {below : List Frame} {s : State} {sargs : Array Value} {len W : Nat} (a : Addr) (D : Cell) (fV fC : Field) (b : Addr) (A : Cell) (z : Int32) (htab : tab.before sargs s = true) (hfr : 4 ≤ R.frames) (hlo : W + 65 ≤ R.locals) :
    Back l R p e below s sargs yN len W (fun A₁ a₁ => A₁.cells + 1 ≤ R.cells ∧ A₁.slots + A.slots.size ≤ R.slots ∧ P a D fV fC b A z a₁ A₁.U) (fun A₁ _ v₁ B₁ => E a D fV fC A v₁ A₁.U B₁.U ∧ B₁.locs = A₁.locs ++ [⟨a, fC.slot⟩, ⟨a, fV.slot⟩] ∧ B₁.cells = A₁.cells + 1 ∧ B₁.slots = A₁.slots + A.slots.size) :=
  (law l a D fV fC b A z).pays htab hfr (by omega)
end New1
/-- the byte, read back as charAt reads it, is the char -/
theorem lo8_mask {x : Int32} (h0 : ¬ x < 0) (h1 : ¬ 255 < x) : lo8 x &&& 255 = x := by
  have t : ∀ k : Fin 256, lo8 (Int32.ofNat k.val) &&& 255 = Int32.ofNat k.val := by decide +kernel
  rw [Int32.lt_iff_toInt_lt] at h0 h1
  have e0 : (0 : Int32).toInt = 0 := rfl
  have e1 : (255 : Int32).toInt = 255 := rfl
  obtain ⟨k, hk⟩ : ∃ k : Nat, x.toInt = k := ⟨x.toInt.toNat, by omega⟩
  have hx : x = Int32.ofNat k := Int32.toInt_inj.mp (by rw [hk, Int32.toInt_ofNat_small (by omega)])
  rw [hx]
  exact t ⟨k, by omega⟩
end StrChars
namespace StrChars.Road
open Jvm Sem ClassFile Op Lib Jvm.Stand Jvm.Free Jvm.Free.XT
open Jvm.Lib.Cold (StaticIs)
abbrev ST : String := "java/lang/String"
/-- every table word that New1's law asks, flat -/
abbrev words : List Jvm.Cond := [.code New1.yN New1.yB 2 none, .initialized ST, .methodLink ST 27 New4.yN, .instanceMethod New4.yN,
  .code New4.yN New4.yB 6 none, .fieldLink ST 38 ST "COMPACT_STRINGS" "Z", .laysFinal ST ST "value" "[B", .fieldLink ST 9 ST "value" "[B", .laysFinal ST ST "coder" "B", .fieldLink ST 15 ST "coder" "B",
  .methodLink ST 1 Lib.objectInit, .instanceMethod Lib.objectInit, .code Lib.objectInit ⟨#[0xb1]⟩ 1 none, .methodLink ST 177 Cmp3.yN, .static Cmp3.yN, .methodLink ST 47 CodL.yN, .static CodL.yN,
  .code Cmp3.yN Cmp3.yB 6 (some (.array .byte)), .initialized U16, .arrayClass .byte, .methodLink U16 115 Cmp5.yN, .static Cmp5.yN, .code Cmp5.yN Cmp5.yB 7 (some .int), .code CodL.yN CodL.yB 2 (some .byte)]
theorem tab_of {a : Array Value} {s : State} (h : ∀ w ∈ words, w.before a s = true) : New1.tab.before a s = true := by
  have h5 : Cmp5.tab.before a s = true := unparts (wk h (.code Cmp5.yN Cmp5.yB 7 (some .int))) (wks h (.initialized Cmp5.yN.cls :: Cmp5.site))
  have hc : CodL.tab.before a s = true := unparts (wk h (.code CodL.yN CodL.yB 2 (some .byte))) (wks h (.initialized CodL.yN.cls :: CodL.site))
  have q5 : ∀ w ∈ Cmp5.tab :: words, w.before a s = true := fun w hw => (List.mem_cons.mp hw).elim (fun e => e ▸ h5) (h w)
  have h3 : Cmp3.tab.before a s = true := unparts (wk q5 (.code Cmp3.yN Cmp3.yB 6 (some (.array .byte)))) (wks q5 (.initialized Cmp3.yN.cls :: Cmp3.site))
  have q3 : ∀ w ∈ Cmp3.tab :: CodL.tab :: words, w.before a s = true := fun w hw => (List.mem_cons.mp hw).elim (fun e => e ▸ h3) fun hw => (List.mem_cons.mp hw).elim (fun e => e ▸ hc) (h w)
  have h4 : New4.tab.before a s = true := unparts (wk q3 (.code New4.yN New4.yB 6 none)) (wks q3 (.initialized New4.yN.cls :: New4.site))
  have q4 : ∀ w ∈ New4.tab :: words, w.before a s = true := fun w hw => (List.mem_cons.mp hw).elim (fun e => e ▸ h4) (h w)
  exact unparts (wk q4 (.code New1.yN New1.yB 2 none)) (wks q4 (.initialized New1.yN.cls :: New1.site))
/-- the words ride from the start Z to the walk's own state -/
theorem moved {Z s : State} {a0 args : Array Value} (hZ : Z.Warmed39 s.vm) (hw : ∀ d ∈ words, d.before a0 Z = true) : ∀ d ∈ words, d.before args s = true := fun d hd => by
  have q := hw d hd
  have t : ∀ d ∈ words, d = .arrayClass .byte ∨ (d.onTables && d.keepsFace) = true := by decide +kernel
  rcases t d hd with rfl | t
  · exact RoadKit.mvA hZ q
  · exact RoadKit.mv hZ q t
/-- WHAT COMES BACK, over the tables of the start Z: h the heap at the call, h' behind it -/
def Q (Z : State) (x : Addr) (A : Cell) (h : Heap) (v : Option Value) (h' : Heap) (L : List Loc) : Prop := v = none ∧ (∀ y ∈ L, y.base = x) ∧ RoadKit.Keep h h' [x] ∧ h'.size = h.size + 1 ∧ RoadKit.Exa Z h' x ST ∧ RoadKit.Fld Z h' x ST "value" "[B" (.ref h.size) ∧ RoadKit.Fld Z h' x ST "coder" "B" (.int 0) ∧
  (∃ V : Cell, RoadKit.Arr Z h' h.size V .byte ∧ V.vm = .none ∧ Z.vm.findClass "[B" = some V.cls ∧ V.slots.size = A.slots.size ∧ ∀ j, j < A.slots.size → V.slots[j]? = some (.int (lo8 (cv A j)))) ∧
  ∀ (O n d : String) (w : Value), RoadKit.Fld Z h x O n d w → RoadKit.slotOf Z O n d ≠ RoadKit.slotOf Z ST "value" "[B" → RoadKit.slotOf Z O n d ≠ RoadKit.slotOf Z ST "coder" "B" → RoadKit.Fld Z h' x O n d w
/-- **new String(chars) AT A CALL, IN THE ROAD'S FORM**: for specialBack behind newO: x the fresh String, b the char[] with the cell A -/
theorem back {p : Program} {l : Launch} {e : Env} {R : Room} {s : State} {args : Array Value} {below : List Frame} {len W : Nat} {Z : State} {a0 : Array Value} {h : Heap} (hZ : Z.Warmed39 s.vm) (hw : ∀ d ∈ words, d.before a0 Z = true) {kI : Nat} (wi : (Jvm.Cond.instantiable ST kI).before a0 Z = true)
    {x b : Addr} {A : Cell} {z : Int32} {v0 c0 : Value} (E : RoadKit.Exa Z h x ST) (V : RoadKit.Fld Z h x ST "value" "[B" v0) (C : RoadKit.Fld Z h x ST "coder" "B" c0) (K : RoadKit.Arr Z h b A .char) (hty : Typed .char A) (S : RoadKit.Sta Z h ST "COMPACT_STRINGS" "Z" (.int z)) (hz : ¬ z = 0)
    (l0 : 0 < A.slots.size) (l2 : A.slots.size ≤ 536870912) (hp : ∀ i, i < A.slots.size → ¬ 255 < cv A i) (hfr : 4 ≤ R.frames) (hlo : W + 65 ≤ R.locals) :
    Back l R p e below s args New1.yN len W (fun P a => a = #[.ref x, .ref b] ∧ P.U.heap = h ∧ P.cells + 1 ≤ R.cells ∧ P.slots + A.slots.size ≤ R.slots)
      (fun P _ v B => ∃ L, Q Z x A h v B.U.heap L ∧ B.locs = P.locs ++ L ∧ B.cells = P.cells + 1 ∧ B.slots = P.slots + A.slots.size) := by
  intro m meth c P g ig mk a X hg hsize hdg hW hn hp'
  obtain ⟨rfl, rfl, r1, r2⟩ := hp'
  have al : Z.vm.Alike P.U.vm := hZ.alike.trans X.warmed.alike
  obtain ⟨D, cfV, kV, iV, fV, hD, gV, stV, knV, obV, asV, slV⟩ := id V
  obtain ⟨D', cfC, kC, iC, fC, hD', gC, stC, -, -, asC, slC⟩ := id C
  cases hD.symm.trans hD'
  obtain ⟨D2, kD, e1, e2, e3, e4, e5⟩ := id E
  cases hD.symm.trans e1
  obtain ⟨c2, k2, i1, i2, i3, -⟩ := Cond.instantiable_spec wi
  cases e2.symm.trans i1
  cases e3.symm.trans i2
  obtain ⟨kU, u1, u2⟩ := al.2.2 _ _ e3
  have hB : Blank ST x D P.U := ⟨hD, ⟨knV, fun q hq => by rw [hq] at obV; cases obV⟩, by rw [al.findClass]; exact e2, kU, u1, by rw [u2]; exact i3, by rw [u2]; exact e5 i3⟩
  have F1 : Found ST "value" "[B" fV P.U := ⟨SBG.found_only al ⟨cfV, kV, iV, gV⟩, stV⟩
  have F2 : Found ST "coder" "B" fC P.U := ⟨SBG.found_only al ⟨cfC, kC, iC, gC⟩, stC⟩
  have hA : Ch b A P.U := ⟨⟨K.1, State.isArrayOf_alike al K.2.1, K.2.2, by omega⟩, hty⟩
  have hS : StaticIs P.U ST "COMPACT_STRINGS" "Z" (.int z) := by
    obtain ⟨cfS, iS, kS, fS, st, cS, t1, t2, t3, t4, t5, t6, t7⟩ := S
    exact StaticIs.there (s := { Z with heap := P.U.heap }) ⟨cfS, iS, kS, fS, st, cS, t1, t2, t3, t4, t5, (fun q => by rw [q] at t6; cases t6), t7⟩ al rfl
  obtain ⟨v, B, X', ⟨⟨hv, E', V', q1, q2, q3, q4, q5, q6, q7, q8, q9, q10, q11⟩, hl, hc, hs⟩, st⟩ := New1.pays x D fV fC b A z (tab_of (moved hZ hw)) hfr hlo m meth c P g ig mk _ X hg hsize hdg hW hn ⟨r1, r2, rfl, hB, F1, F2, hA, hS, hz, l0, l2, hp⟩
  have al' : Z.vm.Alike B.U.vm := hZ.alike.trans X'.warmed.alike
  have hsz : E'.slots.size = D.slots.size := by
    obtain ⟨-, -, -, kB, w1, w2, w3⟩ := q1
    obtain ⟨kB', y1, y2⟩ := al'.2.2 _ _ e3
    rw [q2.2.1] at w1
    cases w1.symm.trans y1
    rw [w3, e5 i3, y2]
  refine ⟨v, B, X', ⟨_, ⟨hv, ?_, ⟨by omega, fun y cy hy hn' => q10 y cy (by simpa using hn') hy, fun y cy hy => ?_⟩, q11, ⟨E', _, q1.1, by rw [q2.2.1]; exact e2, by rw [q2.2.1]; exact e3, by rw [q2.1]; exact obV, fun _ => by rw [hsz]; exact e5 i3⟩,
    ⟨E', cfV, kV, iV, fV, q1.1, gV, stV, by rw [q2.1]; exact knV, by rw [q2.1]; exact obV, by rw [q2.2.1]; exact asV, q3⟩, ⟨E', cfC, kC, iC, fC, q1.1, gC, stC, by rw [q2.1]; exact knV, by rw [q2.1]; exact obV, by rw [q2.2.1]; exact asC, q4⟩,
    ⟨V', ⟨q5.1, State.isArrayOf_alike al'.symm q5.2.1, q5.2.2.1⟩, q6, by rw [← al'.findClass]; exact q7, q8, fun j hj => by have := q9 j hj; rwa [Nat.zero_add] at this⟩, fun O n d w F n1 n2 => ?_⟩, hl, hc, hs⟩, st⟩
  · intro y hy
    simp only [List.mem_cons, List.not_mem_nil, or_false] at hy
    rcases hy with rfl | rfl <;> rfl
  · by_cases q : y = x
    · subst q
      cases hD.symm.trans hy
      exact ⟨E', q1.1, q2.2.1, q2.1, hsz⟩
    · exact ⟨cy, q10 y cy q hy, rfl, rfl, rfl⟩
  · obtain ⟨D3, cf, k, i, f, g1, g2, g3, g4, g5, g6, g7⟩ := F
    cases hD.symm.trans g1
    simp only [RoadKit.slotOf, g2, gV, gC, Option.map_some, Option.getD_some] at n1 n2
    exact ⟨E', cf, k, i, f, q1.1, g2, g3, by rw [q2.1]; exact g4, by rw [q2.1]; exact g5, by rw [q2.2.1]; exact g6, by rw [q2.2.2 f.slot (by simp [n1, n2])]; exact g7⟩
end StrChars.Road
namespace StrChars.Road
open Jvm Sem ClassFile Op Lib Jvm.Stand Jvm.Free Jvm.Free.XT
/-- WHAT COMES BACK, the byte[] as a list of values -/
def QA (Z : State) (x : Addr) (zn : Int32) (cs : List Int32) (h : Heap) (v : Option Value) (h' : Heap) (L : List Loc) : Prop := v = none ∧ (∀ y ∈ L, y.base = x) ∧ RoadKit.Keep h h' [x] ∧ h'.size = h.size + 1 ∧ RoadKit.Exa Z h' x ST ∧ RoadKit.Fld Z h' x ST "value" "[B" (.ref h.size) ∧ RoadKit.Fld Z h' x ST "coder" "B" (.int 0) ∧
  (∃ kb, Z.vm.findClass "[B" = some kb ∧ RoadKit.Arv Z h' h.size kb .byte zn (cs.map fun c => .int (lo8 c)) (.int 0)) ∧
  ∀ (O n d : String) (w : Value), RoadKit.Fld Z h x O n d w → RoadKit.slotOf Z O n d ≠ RoadKit.slotOf Z ST "value" "[B" → RoadKit.slotOf Z O n d ≠ RoadKit.slotOf Z ST "coder" "B" → RoadKit.Fld Z h' x O n d w
/-- **new String(chars) AT A CALL, THE ARRAYS AS LISTS**: the char[] at b holds cs, not empty, no char above 255 -/
theorem backArv {p : Program} {l : Launch} {e : Env} {R : Room} {s : State} {args : Array Value} {below : List Frame} {len W : Nat} {Z : State} {a0 : Array Value} {h : Heap} (hZ : Z.Warmed39 s.vm) (hw : ∀ d ∈ words, d.before a0 Z = true) {kI : Nat} (wi : (Jvm.Cond.instantiable ST kI).before a0 Z = true)
    {x b : Addr} {k : ClassId} {zn z : Int32} {cs : List Int32} {dv v0 c0 : Value} (E : RoadKit.Exa Z h x ST) (V : RoadKit.Fld Z h x ST "value" "[B" v0) (C : RoadKit.Fld Z h x ST "coder" "B" c0) (K : RoadKit.Arv Z h b k .char zn (cs.map Value.int) dv) (S : RoadKit.Sta Z h ST "COMPACT_STRINGS" "Z" (.int z)) (hz : ¬ z = 0)
    (hlen : zn.toNatClampNeg = cs.length) (h0 : 0 < cs.length) (hbig : cs.length ≤ 536870912) (hall : ∀ c ∈ cs, ¬ 255 < c) (hfr : 4 ≤ R.frames) (hlo : W + 65 ≤ R.locals) :
    Back l R p e below s args New1.yN len W (fun P a => a = #[.ref x, .ref b] ∧ P.U.heap = h ∧ P.cells + 1 ≤ R.cells ∧ P.slots + cs.length ≤ R.slots)
      (fun P _ v B => ∃ L, QA Z x zn cs h v B.U.heap L ∧ B.locs = P.locs ++ L ∧ B.cells = P.cells + 1 ∧ B.slots = P.slots + cs.length) := by
  obtain ⟨A, K1, K2, K3, K4, K5, K6⟩ := K
  have e : A.slots.size = cs.length := K3.trans hlen
  have hat : ∀ (i : Nat) (hi : i < cs.length), A.slots[i]? = some (.int cs[i]) := fun i hi => by rw [K5 i (by omega)]; simp [List.getD_eq_getElem?_getD, hi]
  have hcv : ∀ (i : Nat) (hi : i < cs.length), cv A i = cs[i] := fun i hi => by unfold cv; rw [hat i hi]
  have hty : Typed .char A := fun i v hv => by
    have hi : i < A.slots.size := (Array.getElem?_eq_some_iff.mp hv).1
    have q := K5 i hi
    rw [hv] at q
    rw [Option.some.inj q]
    exact K6 i hi
  refine Back.mono (back hZ hw wi E V C K1 hty S hz (by omega) (by omega) (fun i hi => by rw [hcv i (by omega)]; exact hall _ (List.getElem_mem _)) hfr hlo) (fun P a hp => ⟨hp.1, hp.2.1, hp.2.2.1, by rw [e]; exact hp.2.2.2⟩) (fun P a v B hp hq => ?_)
  obtain ⟨L, ⟨q1, q2, q3, q4, q5, q6, q7, ⟨V', v1, v2, v3, v4, v5⟩, q9⟩, hl, hc, hs⟩ := hq
  refine ⟨L, ⟨q1, q2, q3, q4, q5, q6, q7, ⟨V'.cls, v3, V', v1, rfl, by rw [v4, e, hlen], K4, fun i hi => ?_, fun i hi => ?_⟩, q9⟩, hl, hc, by rw [hs, e]⟩
  · have hi' : i < cs.length := by omega
    rw [v5 i (by omega), hcv i hi']; simp [List.getD_eq_getElem?_getD, hi']
  · have hi' : i < cs.length := by omega
    simp only [List.getD_eq_getElem?_getD, List.getElem?_map, List.getElem?_eq_getElem hi', Option.map_some, Option.getD_some]
    exact fits_lo8 _
end StrChars.Road
namespace StrChars.Road
open Jvm Sem ClassFile Op Lib Jvm.Stand Jvm.Free Jvm.Free.XT
/-- WHAT COMES BACK, in the writer's own shape -/
def QV (Z : State) (x : Addr) (N : Int32) (bs : List Int32) (h : Heap) (n0 : Nat) (v : Option Value) (h' : Heap) (L : List Loc) : Prop := v = none ∧ RoadKit.Fr n0 L ∧ RoadKit.Keep h h' [x] ∧ RoadKit.Exa Z h' x ST ∧ RoadKit.Fld Z h' x ST "coder" "B" (.int 0) ∧
  ∃ (t : Addr) (kb : ClassId), n0 ≤ t ∧ h.size ≤ t ∧ ¬ t = x ∧ RoadKit.Fld Z h' x ST "value" "[B" (.ref t) ∧ RoadKit.Arv Z h' t kb .byte N (bs.map Value.int) (.int 0)
/-- **new String(chars) AT A CALL, FOR THE WRITER**: a char[] of n known ints, each 0 to 255 -/
theorem backV {p : Program} {l : Launch} {e : Env} {R : Room} {s : State} {args : Array Value} {below : List Frame} {len W : Nat} {Z : State} {a0 : Array Value} {h : Heap} (hZ : Z.Warmed39 s.vm) (hw : ∀ d ∈ words, d.before a0 Z = true) {kI : Nat} (wi : (Jvm.Cond.instantiable ST kI).before a0 Z = true)
    {x b : Addr} {kC : ClassId} {cs bs : List Int32} {d v0 c0 : Value} {z N : Int32} {n n0 : Nat} (hx0 : n0 ≤ x) (hh0 : n0 ≤ h.size) (E : RoadKit.Exa Z h x ST) (V : RoadKit.Fld Z h x ST "value" "[B" v0) (C : RoadKit.Fld Z h x ST "coder" "B" c0) (K : RoadKit.Arv Z h b kC .char N (cs.map Value.int) d) (S : RoadKit.Sta Z h ST "COMPACT_STRINGS" "Z" (.int z)) (hz : ¬ z = 0)
    (hn : cs.length = n) (hN : N = Int32.ofNat n) (l0 : 0 < n) (l2 : n ≤ 4000) (hp : ∀ c ∈ cs, ¬ c < 0 ∧ ¬ (255 : Int32) < c) (hb : bs = cs.map (fun c => c.toInt8.toInt32)) (hfr : 4 ≤ R.frames) (hlo : W + 65 ≤ R.locals) :
    Back l R p e below s args (⟨"java/lang/String", "<init>", "([C)V"⟩ : MethodName) len W (fun P a => a = #[.ref x, .ref b] ∧ P.U.heap = h ∧ P.cells + 1 ≤ R.cells ∧ P.slots + n ≤ R.slots)
      (fun P _ v B => ∃ L, QV Z x N bs h n0 v B.U.heap L ∧ B.locs = P.locs ++ L ∧ B.cells = P.cells + 1 ∧ B.slots = P.slots + n) := by
  subst hn hN hb
  refine Back.mono (backArv hZ hw wi E V C K S hz (n32 (by omega)) l0 (by omega) (fun c hc => (hp c hc).2) hfr hlo) (fun P a hp => hp) (fun P a v B hp hq => ?_)
  obtain ⟨L, ⟨q1, q2, q3, q4, q5, q6, q7, ⟨kb, v1, v2⟩, q9⟩, hl, hc, hs⟩ := hq
  exact ⟨L, ⟨q1, fun y hy => by rw [q2 y hy]; exact hx0, q3, q5, q7, h.size, kb, hh0, Nat.le_refl _, Nat.ne_of_gt E.lt, q6, by rw [List.map_map]; exact v2⟩, hl, hc, hs⟩
end StrChars.Road
namespace StrChars
open Jvm Sem ClassFile Op Lib Jvm.Stand Jvm.Free.XT Jvm.Free.ALB Jvm.Free.JM Jvm.Free
open Jvm.Lib.Cold (StaticIs)
def hi8 (x : Int32) : Int32 := lo8 (x >>> ((8 : Int32) &&& 31))
/-- what StringUTF16.getChar makes of two bytes -/
def pairCh (u v : Int32) : Int32 := (((u &&& 255) <<< ((0 : Int32) &&& 31)) ||| ((v &&& 255) <<< ((8 : Int32) &&& 31))).toUInt32.toUInt16.toUInt32.toInt32
theorem lo8_and (x : Int32) : (lo8 x &&& 255).toBitVec.toNat = x.toBitVec.toNat % 256 := by
  have h : (lo8 x).toBitVec = (x.toBitVec.signExtend 8).signExtend 32 := by rw [lo8, Int8.toBitVec_toInt32, Int32.toBitVec_toInt8]
  rw [Int32.toBitVec_and, BitVec.toNat_and, h]
  have e : ((x.toBitVec.signExtend 8).signExtend 32).toNat % 256 = x.toBitVec.toNat % 256 := by
    rw [BitVec.toNat_signExtend]
    have hlt := x.toBitVec.isLt
    simp only [BitVec.toNat_setWidth, BitVec.toNat_signExtend]
    split <;> split <;> omega
  rw [← e]
  exact Nat.and_two_pow_sub_one_eq_mod _ 8
theorem pair_says {c : Int32} (h0 : ¬ c < 0) (h1 : ¬ 65535 < c) : pairCh (lo8 c) (hi8 c) = c := by
  rw [Int32.lt_iff_toInt_lt] at h0 h1
  have e0 : (0 : Int32).toInt = 0 := rfl
  have e1 : (65535 : Int32).toInt = 65535 := rfl
  have hc : c.toInt = c.toBitVec.toNat := by
    have := c.toBitVec.isLt
    have e : c.toInt = c.toBitVec.toInt := rfl
    rw [e] at h0 h1
    rw [e]
    rw [BitVec.toInt_eq_toNat_cond] at h0 h1 ⊢
    split at h0 <;> split <;> omega
  have hn : c.toBitVec.toNat < 65536 := by omega
  have a1 := lo8_and c
  have a2 : (hi8 c &&& 255).toBitVec.toNat = c.toBitVec.toNat / 256 := by
    rw [hi8, lo8_and]
    have e : ((8 : Int32) &&& 31) = 8 := by decide
    rw [e, Int32.toBitVec_shiftRight]
    have e2 : ((8 : Int32).toBitVec.smod 32) = 8#32 := by decide
    rw [e2, BitVec.sshiftRight_eq', BitVec.toNat_sshiftRight_of_msb_false (by rw [BitVec.msb_eq_false_iff_two_mul_lt]; omega)]
    show c.toBitVec.toNat >>> 8 % 256 = _
    rw [Nat.shiftRight_eq_div_pow]
    omega
  unfold pairCh
  apply Int32.toBitVec_inj.mp
  apply BitVec.eq_of_toNat_eq
  have f0 : ((0 : Int32) &&& 31) = 0 := by decide
  have f8 : ((8 : Int32) &&& 31) = 8 := by decide
  rw [f0, f8]
  have g : (((lo8 c &&& 255) <<< (0 : Int32)) ||| ((hi8 c &&& 255) <<< (8 : Int32))).toBitVec.toNat = c.toBitVec.toNat := by
    rw [Int32.toBitVec_or, Int32.toBitVec_shiftLeft, Int32.toBitVec_shiftLeft]
    have s0 : ((0 : Int32).toBitVec.smod 32) = 0#32 := by decide
    have s8 : ((8 : Int32).toBitVec.smod 32) = 8#32 := by decide
    rw [s0, s8, BitVec.toNat_or]
    simp only [BitVec.shiftLeft_eq', BitVec.toNat_shiftLeft, a1, a2]
    show (c.toBitVec.toNat % 256) <<< 0 % 2 ^ 32 ||| (c.toBitVec.toNat / 256) <<< 8 % 2 ^ 32 = _
    rw [Nat.shiftLeft_zero, Nat.mod_eq_of_lt (show c.toBitVec.toNat % 256 < 2 ^ 32 by omega), Nat.mod_eq_of_lt (show (c.toBitVec.toNat / 256) <<< 8 < 2 ^ 32 by rw [Nat.shiftLeft_eq]; omega), Nat.or_comm, ← Nat.shiftLeft_add_eq_or_of_lt (by omega), Nat.shiftLeft_eq]
    omega
  show BitVec.toNat (((((lo8 c &&& 255) <<< (0 : Int32)) ||| ((hi8 c &&& 255) <<< (8 : Int32))).toBitVec.setWidth 16).setWidth 32) = _
  rw [BitVec.toNat_setWidth, BitVec.toNat_setWidth, g]
  omega
end StrChars
namespace StrChars
open Jvm Sem ClassFile Op Lib Jvm.Stand Jvm.Free.XT Jvm.Free.ALB Jvm.Free.JM Jvm.Free
open Jvm.Lib.Cold (StaticIs)
/-- the array's cell V codes the n chars f 0 .. f (n - 1) by the coder cd, as the JDK does: coder 1 just where some char is above 255 -/
def Cod (cd : Int32) (n : Nat) (f : Nat → Int32) (V : Cell) : Prop := (cd = 0 ∧ V.slots.size = n ∧ ∀ j, j < n → V.slots[j]? = some (.int (lo8 (f j))) ∧ ¬ 255 < f j) ∨ (cd = 1 ∧ V.slots.size = 2 * n ∧ (∀ j, j < n → V.slots[2 * j]? = some (.int (lo8 (f j))) ∧ V.slots[2 * j + 1]? = some (.int (hi8 (f j)))) ∧ ∃ j, j < n ∧ 255 < f j)
/-- **x is a String of the n chars f 0 .. f (n - 1)**, Latin-1 or UTF-16; its array at t has the cell V -/
def Txt (x t : Addr) (V : Cell) (cd : Int32) (n : Nat) (f : Nat → Int32) (U : State) : Prop := Exact "java/lang/String" x U ∧ Has x "java/lang/String" "value" "[B" (.ref t) U ∧ Has x "java/lang/String" "coder" "B" (.int cd) U ∧ XT.Arr .byte t V U ∧ Cod cd n f V ∧ ∀ j, j < n → ¬ f j < 0 ∧ ¬ 65535 < f j
theorem Txt.mv {x t : Addr} {V : Cell} {cd : Int32} {n : Nat} {f : Nat → Int32} {U U' : State} (h : Txt x t V cd n f U) (hal : U.vm.Alike U'.vm) (hh : U'.heap = U.heap) : Txt x t V cd n f U' := ⟨h.1.mv hal hh, h.2.1.mv hal hh, h.2.2.1.mv hal hh, h.2.2.2.1.mv hal hh, h.2.2.2.2⟩
end StrChars
namespace StrChars.Road
open Jvm Sem ClassFile Op Lib Jvm.Stand Jvm.Free Jvm.Free.XT
open Jvm.Lib.Cold (StaticIs)
theorem consq {a : Array Value} {s : State} {c : Jvm.Cond} {L : List Jvm.Cond} (h0 : c.before a s = true) (h : ∀ w ∈ L, w.before a s = true) : ∀ w ∈ c :: L, w.before a s = true := fun w hw => (List.mem_cons.mp hw).elim (fun e => e ▸ h0) (h w)
/-- the bytes of the chars cs, low before high -/
def wideBytes : List Int32 → List Value
  | [] => []
  | c :: cs => .int (lo8 c) :: .int (hi8 c) :: wideBytes cs
theorem wide_lo (d : Value) : ∀ (cs : List Int32) (j : Nat), j < cs.length → (wideBytes cs).getD (2 * j) d = .int (lo8 (cs.getD j 0))
  | [], j, h => absurd h (Nat.not_lt_zero j)
  | c :: cs, 0, _ => rfl
  | c :: cs, j + 1, h => by
    have q := wide_lo d cs j (by simpa using h)
    rw [show 2 * (j + 1) = 2 * j + 1 + 1 from by omega]
    simpa [wideBytes] using q
theorem wide_hi (d : Value) : ∀ (cs : List Int32) (j : Nat), j < cs.length → (wideBytes cs).getD (2 * j + 1) d = .int (hi8 (cs.getD j 0))
  | [], j, h => absurd h (Nat.not_lt_zero j)
  | c :: cs, 0, _ => rfl
  | c :: cs, j + 1, h => by
    have q := wide_hi d cs j (by simpa using h)
    rw [show 2 * (j + 1) + 1 = 2 * j + 1 + 1 + 1 from by omega]
    simpa [wideBytes] using q
theorem low_at (d : Value) (cs : List Int32) (j : Nat) (h : j < cs.length) : (cs.map fun c => Value.int (lo8 c)).getD j d = .int (lo8 (cs.getD j 0)) := by
  simp [List.getD_eq_getElem?_getD, h]
/-- an array of N2 bytes vs codes the chars cs by the coder cd -/
def CodA (cs : List Int32) (cd N2 : Int32) (vs : List Value) : Prop := (cd = 0 ∧ N2 = Int32.ofNat cs.length ∧ vs = (cs.map fun c => Value.int (lo8 c)) ∧ ∀ c ∈ cs, ¬ 255 < c) ∨ (cd = 1 ∧ N2 = Int32.ofNat (2 * cs.length) ∧ vs = wideBytes cs ∧ ∃ c ∈ cs, 255 < c)
theorem CodA.cod {cs : List Int32} {cd N2 : Int32} {vs : List Value} {V : Cell} (h : CodA cs cd N2 vs) (hn : 2 * cs.length < 2 ^ 31) (hs : V.slots.size = N2.toNatClampNeg) (hv : RoadKit.Has V vs (.int 0)) : Cod cd cs.length (fun j => cs.getD j 0) V := by
  rcases h with ⟨rfl, rfl, rfl, h⟩ | ⟨rfl, rfl, rfl, c, hc, hw⟩
  · rw [n32 (by omega)] at hs
    exact Or.inl ⟨rfl, hs, fun j hj => ⟨by rw [hv j (by omega), low_at _ _ _ hj], by
      have e : cs.getD j 0 = cs[j] := by simp [List.getD_eq_getElem?_getD, hj]
      show ¬ 255 < cs.getD j 0
      rw [e]; exact h _ (List.getElem_mem _)⟩⟩
  · rw [n32 (by omega)] at hs
    obtain ⟨j, hj, rfl⟩ := List.getElem_of_mem hc
    exact Or.inr ⟨rfl, hs, fun j hj => ⟨by rw [hv _ (by omega), wide_lo _ _ _ hj], by rw [hv _ (by omega), wide_hi _ _ _ hj]⟩, j, hj, by
      have e : cs.getD j 0 = cs[j] := by simp [List.getD_eq_getElem?_getD, hj]
      show 255 < cs.getD j 0
      rw [e]; exact hw⟩
/-- an object of exactly java/lang/String, its two fields found: as the laws ask it -/
theorem strObj {Z U : State} {a0 : Array Value} {kI : Nat} (wi : (Jvm.Cond.instantiable ST kI).before a0 Z = true) (al : Z.vm.Alike U.vm) {x : Addr} {v0 c0 : Value} (E : RoadKit.Exa Z U.heap x ST) (V : RoadKit.Fld Z U.heap x ST "value" "[B" v0) (C : RoadKit.Fld Z U.heap x ST "coder" "B" c0) :
    ∃ (D : Cell) (fV fC : Field), Blank ST x D U ∧ Found ST "value" "[B" fV U ∧ Found ST "coder" "B" fC U ∧ D.slots[fV.slot]? = some v0 ∧ D.slots[fC.slot]? = some c0 ∧ RoadKit.slotOf Z ST "value" "[B" = fV.slot ∧ RoadKit.slotOf Z ST "coder" "B" = fC.slot := by
  obtain ⟨D, cfV, kV, iV, fV, hD, gV, stV, knV, obV, asV, slV⟩ := V
  obtain ⟨D', cfC, kC, iC, fC, hD', gC, stC, -, -, asC, slC⟩ := C
  cases hD.symm.trans hD'
  obtain ⟨D2, kD, e1, e2, e3, e4, e5⟩ := E
  cases hD.symm.trans e1
  obtain ⟨c2, k2, i1, i2, i3, -⟩ := Cond.instantiable_spec wi
  cases e2.symm.trans i1
  cases e3.symm.trans i2
  obtain ⟨kU, u1, u2⟩ := al.2.2 _ _ e3
  exact ⟨D, fV, fC, ⟨hD, ⟨knV, fun q hq => by rw [hq] at obV; cases obV⟩, by rw [al.findClass]; exact e2, kU, u1, by rw [u2]; exact i3, by rw [u2]; exact e5 i3⟩, ⟨SBG.found_only al ⟨cfV, kV, iV, gV⟩, stV⟩, ⟨SBG.found_only al ⟨cfC, kC, iC, gC⟩, stC⟩, slV, slC, by simp [RoadKit.slotOf, gV], by simp [RoadKit.slotOf, gC]⟩
theorem sta_is {Z U : State} (al : Z.vm.Alike U.vm) {C n d : String} {v : Value} (S : RoadKit.Sta Z U.heap C n d v) : StaticIs U C n d v := by
  obtain ⟨cfS, iS, kS, fS, st, cS, t1, t2, t3, t4, t5, t6, t7⟩ := S
  exact StaticIs.there (s := { Z with heap := U.heap }) ⟨cfS, iS, kS, fS, st, cS, t1, t2, t3, t4, t5, (fun q => by rw [q] at t6; cases t6), t7⟩ al rfl
end StrChars.Road
namespace StrChars
open Jvm Sem ClassFile Op Lib Jvm.Stand Jvm.Free.XT Jvm.Free.ALB Jvm.Free.JM Jvm.Free
open Jvm.Lib.Cold (StaticIs)
/-- what place i of a byte[]'s cell holds -/
def yv (A : Cell) (i : Nat) : Int32 := match A.slots[i]? with | some (.int x) => x | _ => 0
theorem yv_get {a : Addr} {A : Cell} {U : State} (h : XT.Arr .byte a A U) (ht : Typed .byte A) {i : Nat} (hi : i < A.slots.size) : A.slots[i]? = some (.int (yv A i)) := by
  have e := Array.getElem?_eq_getElem hi
  have f := ht i _ e
  unfold yv; rw [e]
  generalize A.slots[i] = v at f
  cases v <;> simp [fits] at f ⊢
/-- the two arrays are equal, place for place -/
def EqC (A B : Cell) : Prop := A.slots.size = B.slots.size ∧ ∀ i, i < A.slots.size → yv A i = yv B i
/-- a boolean that says whether p -/
def Says01 (q : Prop) (r : Option Value) (s u : State) : Prop := ∃ v : Int32, r = some (.int v) ∧ u.heap = s.heap ∧ ((v = 1 ∧ q) ∨ (v = 0 ∧ ¬ q))
theorem Says01.mv {q : Prop} : ∀ r (U U' V V' : State), U'.heap = U.heap → V.vm.Alike V'.vm → V'.heap = V.heap → Says01 q r U V → Says01 q r U' V' :=
  fun r U U' V V' h1 _ h2 ⟨v, a, b, c⟩ => ⟨v, a, by rw [h1, h2]; exact b, c⟩
namespace LEq
def yN : MethodName := ⟨"java/lang/StringLatin1", "equals", "([B[B)Z"⟩
abbrev yB : ByteArray := jdk_43_method_13_code
theorem d0 : decode yB 0 = .ok (.aload_n 0, 1) := by decide +kernel
theorem d1 : decode yB 1 = .ok (.arraylength, 1) := by decide +kernel
theorem d2 : decode yB 2 = .ok (.aload_n 1, 1) := by decide +kernel
theorem d3 : decode yB 3 = .ok (.arraylength, 1) := by decide +kernel
theorem d4 : decode yB 4 = .ok (.if_icmp (.ne) 30, 3) := by decide +kernel
theorem d7 : decode yB 7 = .ok (.iconst 0, 1) := by decide +kernel
theorem d8 : decode yB 8 = .ok (.istore_n 2, 1) := by decide +kernel
theorem d9 : decode yB 9 = .ok (.iload_n 2, 1) := by decide +kernel
theorem d10 : decode yB 10 = .ok (.aload_n 0, 1) := by decide +kernel
theorem d11 : decode yB 11 = .ok (.arraylength, 1) := by decide +kernel
theorem d12 : decode yB 12 = .ok (.if_icmp (.ge) 20, 3) := by decide +kernel
theorem d15 : decode yB 15 = .ok (.aload_n 0, 1) := by decide +kernel
theorem d16 : decode yB 16 = .ok (.iload_n 2, 1) := by decide +kernel
theorem d17 : decode yB 17 = .ok (.baload, 1) := by decide +kernel
theorem d18 : decode yB 18 = .ok (.aload_n 1, 1) := by decide +kernel
theorem d19 : decode yB 19 = .ok (.iload_n 2, 1) := by decide +kernel
theorem d20 : decode yB 20 = .ok (.baload, 1) := by decide +kernel
theorem d21 : decode yB 21 = .ok (.if_icmp (.eq) 5, 3) := by decide +kernel
theorem d24 : decode yB 24 = .ok (.iconst 0, 1) := by decide +kernel
theorem d25 : decode yB 25 = .ok (.ireturn, 1) := by decide +kernel
theorem d26 : decode yB 26 = .ok (.iinc 2 1, 3) := by decide +kernel
theorem d29 : decode yB 29 = .ok (.goto (-20), 3) := by decide +kernel
theorem d32 : decode yB 32 = .ok (.iconst 1, 1) := by decide +kernel
theorem d33 : decode yB 33 = .ok (.ireturn, 1) := by decide +kernel
theorem d34 : decode yB 34 = .ok (.iconst 0, 1) := by decide +kernel
theorem d35 : decode yB 35 = .ok (.ireturn, 1) := by decide +kernel
def site : List Cond := []
def tab : Cond := tabOf yN yB 3 (some .boolean) site
def P (a : Addr) (A : Cell) (b : Addr) (B : Cell) (args : Array Value) (s : State) : Prop := args = #[.ref a, .ref b] ∧ XT.Arr .byte a A s ∧ Typed .byte A ∧ XT.Arr .byte b B s ∧ Typed .byte B
/-- whether two byte[] are equal, place for place -/
theorem law (l : Launch) (a : Addr) (A : Cell) (b : Addr) (B : Cell) : Law l yN 2 2 0 0 yB 3 (some .boolean) site (P a A b B) (Says01 (EqC A B)) [] 0 0 := by
  refine Law.of_walk (plainFor_of_name (by decide +kernel)) (by decide +kernel) (by decide +kernel) (by decide) (fun _ _ h => by rw [h.1]; rfl) (fun _ U U' hal hh h => ⟨h.1, h.2.1.mv hal hh, h.2.2.1, h.2.2.2.1.mv hal hh, h.2.2.2.2⟩) (fun r U U' V V' h1 hal h2 h => Says01.mv r U U' V V' h1 hal h2 h) ?_
  intro p e s m args below meth c s₁ X0 hexec hbytes hml hret hlk hnm hown hh0 W hP
  obtain ⟨rfl, hA, tA, hB, tB⟩ := hP
  have a31 := hA.2.2.2
  have b31 := hB.2.2.2
  have hA0 := hA.mv X0.warmed.alike hh0
  have hB0 := hB.mv X0.warmed.alike hh0
  have c1 : Steps p.tables e below (s₁.setTop (entryFrame m #[.ref a, .ref b] 3)) (s₁.setTop (mkF m 0 #[.val (.ref a), .val (.ref b), .unset] [])) := entry rfl
  have c2 : Steps p.tables e below (s₁.setTop (entryFrame m #[.ref a, .ref b] 3)) (s₁.setTop (mkF m 4 #[.val (.ref a), .val (.ref b), .unset] [.int (Int32.ofNat B.slots.size), .int (Int32.ofNat A.slots.size)])) := c1.trans (by
    refine XS.aloadN X0.here hexec rfl (hb hbytes d0) rfl rfl ?_
    refine X0.alen hexec hA0 rfl rfl (hb hbytes d1) ?_
    refine XS.aloadN X0.here hexec rfl (hb hbytes d2) rfl rfl ?_
    refine X0.alen hexec hB0 rfl rfl (hb hbytes d3) ?_
    exact Steps.refl _)
  by_cases hs : A.slots.size = B.slots.size
  · have c3 : Steps p.tables e below (s₁.setTop (entryFrame m #[.ref a, .ref b] 3)) (s₁.setTop (mkF m 9 #[.val (.ref a), .val (.ref b), .val (.int 0)] [])) := c2.trans (by
      refine XS.icmpNo X0.here hexec rfl (hb hbytes d4) rfl (ii_ne_f (by rw [hs])) ?_
      refine iconstV X0.here hexec rfl 0 (hb hbytes d7) (by decide) ?_
      refine XS.istoreN X0.here hexec rfl (hb hbytes d8) rfl rfl ?_
      exact Steps.refl _)
    have loop : ∀ (r i : Nat), i + r = A.slots.size → (∀ j, j < i → yv A j = yv B j) → Steps p.tables e below (s₁.setTop (entryFrame m #[.ref a, .ref b] 3)) (s₁.setTop (mkF m 9 #[.val (.ref a), .val (.ref b), .val (.int (Int32.ofNat i))] [])) → ∃ (pc : Nat) (Ls : Array Slot) (v : Int32), (pc = 25 ∨ pc = 33) ∧ ((v = 1 ∧ EqC A B) ∨ (v = 0 ∧ ¬ EqC A B)) ∧ Steps p.tables e below (s₁.setTop (entryFrame m #[.ref a, .ref b] 3)) (s₁.setTop (mkF m pc Ls [.int v])) := by
      intro r
      induction r with
      | zero =>
        intro i hi he cl
        exact ⟨33, _, 1, Or.inr rfl, Or.inl ⟨rfl, hs, fun j hj => he j (by omega)⟩, cl.trans (by
          refine XS.iloadN X0.here hexec rfl (hb hbytes d9) rfl ?_
          refine XS.aloadN X0.here hexec rfl (hb hbytes d10) rfl rfl ?_
          refine X0.alen hexec hA0 rfl rfl (hb hbytes d11) ?_
          refine XS.icmpYes X0.here hexec rfl (pc0 := 12) rfl (hb hbytes d12) rfl (ii_ge_t (nlt32 (by omega) (by omega))) (by decide) rfl ?_
          refine iconstV X0.here hexec rfl 1 (hb hbytes d32) (by decide) ?_
          exact Steps.refl _)⟩
      | succ r ih =>
        intro i hi he cl
        have c4 : Steps p.tables e below (s₁.setTop (entryFrame m #[.ref a, .ref b] 3)) (s₁.setTop (mkF m 21 #[.val (.ref a), .val (.ref b), .val (.int (Int32.ofNat i))] [.int (yv B i), .int (yv A i)])) := cl.trans (by
          refine XS.iloadN X0.here hexec rfl (hb hbytes d9) rfl ?_
          refine XS.aloadN X0.here hexec rfl (hb hbytes d10) rfl rfl ?_
          refine X0.alen hexec hA0 rfl rfl (hb hbytes d11) ?_
          refine XS.icmpNo X0.here hexec rfl (hb hbytes d12) rfl (ii_ge_f (lt32 (by omega) (by omega))) ?_
          refine XS.aloadN X0.here hexec rfl (hb hbytes d15) rfl rfl ?_
          refine XS.iloadN X0.here hexec rfl (hb hbytes d16) rfl ?_
          refine X0.aget hexec hA0 rfl (yv_get hA tA (i := i) (by omega)) rfl rfl (hb hbytes d17) ?_
          refine XS.aloadN X0.here hexec rfl (hb hbytes d18) rfl rfl ?_
          refine XS.iloadN X0.here hexec rfl (hb hbytes d19) rfl ?_
          refine X0.aget hexec hB0 rfl (yv_get hB tB (i := i) (by omega)) rfl rfl (hb hbytes d20) ?_
          exact Steps.refl _)
        by_cases hv : yv A i = yv B i
        · have c5 : Steps p.tables e below (s₁.setTop (entryFrame m #[.ref a, .ref b] 3)) (s₁.setTop (mkF m 9 #[.val (.ref a), .val (.ref b), .val (.int (Int32.ofNat i + 1))] [])) := c4.trans (by
            refine XS.icmpYes X0.here hexec rfl (pc0 := 21) rfl (hb hbytes d21) rfl (ii_eq_t hv) (by decide) rfl ?_
            refine iincV X0.here hexec rfl 1 (hb hbytes d26) (by decide) rfl rfl ?_
            refine XS.goto X0.here hexec rfl (pc0 := 29) rfl (hb hbytes d29) (by decide) rfl ?_
            exact Steps.refl _)
          rw [succ32] at c5
          exact ih (i + 1) (by omega) (fun j hj => by
            by_cases e : j = i
            · rw [e]; exact hv
            · exact he j (by omega)) c5
        · exact ⟨25, _, 0, Or.inl rfl, Or.inr ⟨rfl, fun q => hv (q.2 i (by omega))⟩, c4.trans (by
            refine XS.icmpNo X0.here hexec rfl (hb hbytes d21) rfl (ii_eq_f hv) ?_
            refine iconstV X0.here hexec rfl 0 (hb hbytes d24) (by decide) ?_
            exact Steps.refl _)⟩
    obtain ⟨pc, Ls, v, hpc, hv, cz⟩ := loop A.slots.size 0 (by omega) (fun j hj => absurd hj (Nat.not_lt_zero j)) c3
    have nv : narrow .boolean (.int v) = .int v := by rcases hv with ⟨rfl, -⟩ | ⟨rfl, -⟩ <;> rfl
    rcases hpc with rfl | rfl
    · exact ⟨s₁, some (.int v), _, _, _, X0, rfl, rfl, rfl, (fun h => by cases h), ⟨v, rfl, hh0, hv⟩, fun fs hl => cz.trans (X0.ireturnOut hexec hret nv (Or.inr (Or.inl rfl)) (hb hbytes d25) hl)⟩
    · exact ⟨s₁, some (.int v), _, _, _, X0, rfl, rfl, rfl, (fun h => by cases h), ⟨v, rfl, hh0, hv⟩, fun fs hl => cz.trans (X0.ireturnOut hexec hret nv (Or.inr (Or.inl rfl)) (hb hbytes d33) hl)⟩
  · have c3 : Steps p.tables e below (s₁.setTop (entryFrame m #[.ref a, .ref b] 3)) (s₁.setTop (mkF m 35 #[.val (.ref a), .val (.ref b), .unset] [.int 0])) := c2.trans (by
      refine XS.icmpYes X0.here hexec rfl (pc0 := 4) rfl (hb hbytes d4) rfl (ii_ne_t (ne32 a31 b31 hs)) (by decide) rfl ?_
      refine iconstV X0.here hexec rfl 0 (hb hbytes d34) (by decide) ?_
      exact Steps.refl _)
    exact ⟨s₁, some (.int 0), _, _, _, X0, rfl, rfl, rfl, (fun h => by cases h), ⟨0, rfl, hh0, Or.inr ⟨rfl, fun q => hs q.1⟩⟩, fun fs hl => c3.trans (X0.ireturnOut hexec hret rfl (Or.inr (Or.inl rfl)) (hb hbytes d35) hl)⟩
end LEq
theorem Cod.ty {cd : Int32} {n : Nat} {f : Nat → Int32} {V : Cell} (h : Cod cd n f V) : Typed .byte V := fun i v hv => by
  have hi : i < V.slots.size := (Array.getElem?_eq_some_iff.mp hv).1
  rcases h with ⟨-, k1, k2⟩ | ⟨-, k1, k2, -⟩
  · rw [(k2 i (by omega)).1] at hv; cases hv; exact fits_lo8 _
  · rcases Nat.mod_two_eq_zero_or_one i with e | e
    · obtain ⟨j, rfl⟩ : ∃ j, i = 2 * j := ⟨i / 2, by omega⟩
      rw [(k2 j (by omega)).1] at hv; cases hv; exact fits_lo8 _
    · obtain ⟨j, rfl⟩ : ∃ j, i = 2 * j + 1 := ⟨i / 2, by omega⟩
      rw [(k2 j (by omega)).2] at hv; cases hv; exact fits_lo8 _
/-- the same text -/
def SameT (n : Nat) (f : Nat → Int32) (k : Nat) (g : Nat → Int32) : Prop := n = k ∧ ∀ j, j < n → f j = g j
theorem lo8_inj {x y : Int32} (h0 : ¬ x < 0) (h1 : ¬ 255 < x) (k0 : ¬ y < 0) (k1 : ¬ 255 < y) (h : lo8 x = lo8 y) : x = y := by
  rw [← lo8_mask h0 h1, ← lo8_mask k0 k1, h]
/-- arrays coded by one coder are equal just where the texts are -/
theorem Cod.eqv {cd : Int32} {n k : Nat} {f g : Nat → Int32} {V V' : Cell} (h : Cod cd n f V) (h' : Cod cd k g V') (hf : ∀ j, j < n → ¬ f j < 0 ∧ ¬ 65535 < f j) (hg : ∀ j, j < k → ¬ g j < 0 ∧ ¬ 65535 < g j) : EqC V V' ↔ SameT n f k g := by
  have yvv : ∀ {W : Cell} {i : Nat} {x : Int32}, W.slots[i]? = some (.int x) → yv W i = x := fun q => by unfold yv; rw [q]
  rcases h with ⟨rfl, k1, k2⟩ | ⟨rfl, k1, k2, -⟩
  · rcases h' with ⟨-, m1, m2⟩ | ⟨e, -⟩
    · constructor
      · rintro ⟨e1, e2⟩
        refine ⟨by omega, fun j hj => ?_⟩
        have q := e2 j (by omega)
        rw [yvv (k2 j hj).1, yvv (m2 j (by omega)).1] at q
        exact lo8_inj (hf j hj).1 (k2 j hj).2 (hg j (by omega)).1 (m2 j (by omega)).2 q
      · rintro ⟨rfl, e2⟩
        refine ⟨by omega, fun j hj => ?_⟩
        rw [yvv (k2 j (by omega)).1, yvv (m2 j (by omega)).1, e2 j (by omega)]
    · exact absurd e (by decide)
  · rcases h' with ⟨e, -⟩ | ⟨-, m1, m2, -⟩
    · exact absurd e (by decide)
    · constructor
      · rintro ⟨e1, e2⟩
        refine ⟨by omega, fun j hj => ?_⟩
        have q1 := e2 (2 * j) (by omega)
        have q2 := e2 (2 * j + 1) (by omega)
        rw [yvv (k2 j hj).1, yvv (m2 j (by omega)).1] at q1
        rw [yvv (k2 j hj).2, yvv (m2 j (by omega)).2] at q2
        rw [← pair_says (hf j hj).1 (hf j hj).2, ← pair_says (hg j (by omega)).1 (hg j (by omega)).2, q1, q2]
      · rintro ⟨rfl, e2⟩
        refine ⟨by omega, fun i hi => ?_⟩
        rcases Nat.mod_two_eq_zero_or_one i with e | e
        · obtain ⟨j, rfl⟩ : ∃ j, i = 2 * j := ⟨i / 2, by omega⟩
          rw [yvv (k2 j (by omega)).1, yvv (m2 j (by omega)).1, e2 j (by omega)]
        · obtain ⟨j, rfl⟩ : ∃ j, i = 2 * j + 1 := ⟨i / 2, by omega⟩
          rw [yvv (k2 j (by omega)).2, yvv (m2 j (by omega)).2, e2 j (by omega)]
/-- two codings differ: so do the texts -/
theorem Cod.dif {cd cd' : Int32} {n k : Nat} {f g : Nat → Int32} {V V' : Cell} (h : Cod cd n f V) (h' : Cod cd' k g V') (hne : ¬ cd = cd') : ¬ SameT n f k g := by
  rintro ⟨rfl, e⟩
  rcases h with ⟨rfl, -, k2⟩ | ⟨rfl, -, -, j, hj, hw⟩
  · rcases h' with ⟨rfl, -⟩ | ⟨-, -, -, j, hj, hw⟩
    · exact hne rfl
    · exact (k2 j hj).2 (by rw [e j hj]; exact hw)
  · rcases h' with ⟨-, -, m2⟩ | ⟨rfl, -⟩
    · exact (m2 j hj).2 (by rw [← e j hj]; exact hw)
    · exact hne rfl
/-- an object of exactly C is an instance of C -/
theorem cinst {p : Program} {l : Launch} {e : Env} {R : Room} {s : State} {m : MethodId} {args : Array Value} {below : List Frame} {meth : Method} {c : Code} {T : State} {locs : List Loc} {cells slots : Nat} (X : Stand p l e R s m args below meth c T locs cells slots) (hexec : p.tables.exec = Jvm.exec) {own C : String} {index : Nat} (hown : s.vm.findClass own = some m.cls) (hlink : (Cond.classLink own index C).before args s = true) {a : Addr} (hE : Exact C a T)
    {g : JFrame} (hg : g.method = m) {rest : List Value} (hstack : g.stack = .ref a :: rest) (hdg : decode c.code g.pc = .ok (.instanceof index, 3)) :
    ∃ T', Stand p l e R s m args below meth c T' locs cells slots ∧ T'.heap = T.heap ∧ ∀ target, Steps p.tables e below (T'.setTop { g with pc := g.pc + 3, stack := .int 1 :: rest }) target → Steps p.tables e below (T.setTop g) target := by
  obtain ⟨cB, h1, D, h2, h3, h4⟩ := hE
  have h1' : s.vm.findClass C = some cB := by rw [← X.warmed.alike.findClass]; exact h1
  obtain ⟨vm', X', st⟩ := X.instanceofYes hexec hown hlink h2 h4 h1' (by rw [h3]; exact Jvm.Free.SB.assignable_self _ _) hg hstack hdg
  exact ⟨_, X', rfl, st⟩
theorem cself {p : Program} {l : Launch} {e : Env} {R : Room} {s : State} {m : MethodId} {args : Array Value} {below : List Frame} {meth : Method} {c : Code} {T : State} {locs : List Loc} {cells slots : Nat} (X : Stand p l e R s m args below meth c T locs cells slots) (hexec : p.tables.exec = Jvm.exec) {own C : String} {index : Nat} (hown : s.vm.findClass own = some m.cls) (hlink : (Cond.classLink own index C).before args s = true) {a : Addr} (hE : Exact C a T)
    {g : JFrame} (hg : g.method = m) {rest : List Value} (hstack : g.stack = .ref a :: rest) (hdg : decode c.code g.pc = .ok (.checkcast index, 3)) :
    ∃ T', Stand p l e R s m args below meth c T' locs cells slots ∧ T'.heap = T.heap ∧ ∀ target, Steps p.tables e below (T'.setTop { g with pc := g.pc + 3, stack := .ref a :: rest }) target → Steps p.tables e below (T.setTop g) target := by
  obtain ⟨cB, h1, D, h2, h3, h4⟩ := hE
  have h1' : s.vm.findClass C = some cB := by rw [← X.warmed.alike.findClass]; exact h1
  obtain ⟨vm', X', st⟩ := X.checkcastYes hexec hown hlink h2 h4 h1' (by rw [h3]; exact Jvm.Free.SB.assignable_self _ _) hg hstack hdg
  exact ⟨_, X', rfl, fun t h => st t (by rw [← hstack] at h; exact h)⟩
namespace SEq
def yN : MethodName := ⟨"java/lang/String", "equals", "(Ljava/lang/Object;)Z"⟩
abbrev yB : ByteArray := jdk_42_method_66_code
theorem d0 : decode yB 0 = .ok (.aload_n 0, 1) := by decide +kernel
theorem d1 : decode yB 1 = .ok (.aload_n 1, 1) := by decide +kernel
theorem d2 : decode yB 2 = .ok (.if_acmp (.ne) 5, 3) := by decide +kernel
theorem d5 : decode yB 5 = .ok (.iconst 1, 1) := by decide +kernel
theorem d6 : decode yB 6 = .ok (.ireturn, 1) := by decide +kernel
theorem d7 : decode yB 7 = .ok (.aload_n 1, 1) := by decide +kernel
theorem d8 : decode yB 8 = .ok (.instanceof 10, 3) := by decide +kernel
theorem d11 : decode yB 11 = .ok (.ifCond (.eq) 43, 3) := by decide +kernel
theorem d14 : decode yB 14 = .ok (.aload_n 1, 1) := by decide +kernel
theorem d15 : decode yB 15 = .ok (.checkcast 10, 3) := by decide +kernel
theorem d18 : decode yB 18 = .ok (.astore_n 2, 1) := by decide +kernel
theorem d19 : decode yB 19 = .ok (.getstatic 38, 3) := by decide +kernel
theorem d22 : decode yB 22 = .ok (.ifCond (.eq) 14, 3) := by decide +kernel
theorem d25 : decode yB 25 = .ok (.aload_n 0, 1) := by decide +kernel
theorem d26 : decode yB 26 = .ok (.getfield 15, 3) := by decide +kernel
theorem d29 : decode yB 29 = .ok (.aload_n 2, 1) := by decide +kernel
theorem d30 : decode yB 30 = .ok (.getfield 15, 3) := by decide +kernel
theorem d33 : decode yB 33 = .ok (.if_icmp (.ne) 21, 3) := by decide +kernel
theorem d36 : decode yB 36 = .ok (.aload_n 0, 1) := by decide +kernel
theorem d37 : decode yB 37 = .ok (.getfield 9, 3) := by decide +kernel
theorem d40 : decode yB 40 = .ok (.aload_n 2, 1) := by decide +kernel
theorem d41 : decode yB 41 = .ok (.getfield 9, 3) := by decide +kernel
theorem d44 : decode yB 44 = .ok (.invokestatic 541, 3) := by decide +kernel
theorem d47 : decode yB 47 = .ok (.ifCond (.eq) 7, 3) := by decide +kernel
theorem d50 : decode yB 50 = .ok (.iconst 1, 1) := by decide +kernel
theorem d51 : decode yB 51 = .ok (.goto 4, 3) := by decide +kernel
theorem d54 : decode yB 54 = .ok (.iconst 0, 1) := by decide +kernel
theorem d55 : decode yB 55 = .ok (.ireturn, 1) := by decide +kernel
def site : List Cond := [.classLink "java/lang/String" 10 "java/lang/String", .fieldLink "java/lang/String" 38 "java/lang/String" "COMPACT_STRINGS" "Z", .fieldLink "java/lang/String" 15 "java/lang/String" "coder" "B", .fieldLink "java/lang/String" 9 "java/lang/String" "value" "[B", LEq.tab] ++ staticW "java/lang/String" 541 LEq.yN
def tab : Cond := tabOf yN yB 3 (some .boolean) site
def P (x t : Addr) (V : Cell) (cd : Int32) (n : Nat) (f : Nat → Int32) (y t' : Addr) (V' : Cell) (cd' : Int32) (k : Nat) (g : Nat → Int32) (z : Int32) (args : Array Value) (s : State) : Prop := args = #[.ref x, .ref y] ∧ Txt x t V cd n f s ∧ Txt y t' V' cd' k g s ∧ StaticIs s "java/lang/String" "COMPACT_STRINGS" "Z" (.int z) ∧ ¬ z = 0
/-- equals(Object) of two Strings: whether the texts are the same -/
theorem law (l : Launch) (x t : Addr) (V : Cell) (cd : Int32) (n : Nat) (f : Nat → Int32) (y t' : Addr) (V' : Cell) (cd' : Int32) (k : Nat) (g : Nat → Int32) (z : Int32) : Law l yN 2 1 1 14 yB 3 (some .boolean) site (P x t V cd n f y t' V' cd' k g z) (Says01 (SameT n f k g)) [] 0 0 := by
  refine Law.of_walk (plainFor_of_name (by decide +kernel)) (by decide +kernel) (by decide +kernel) (by decide) (fun _ _ h => by rw [h.1]; rfl) (fun _ U U' hal hh h => ⟨h.1, h.2.1.mv hal hh, h.2.2.1.mv hal hh, h.2.2.2.1.there hal hh, h.2.2.2.2⟩) (fun r U U' V V' h1 hal h2 h => Says01.mv r U U' V V' h1 hal h2 h) ?_
  intro p e s m args below meth c s₁ X0 hexec hbytes hml hret hlk hnm hown hh0 W hP
  obtain ⟨rfl, hx, hy, s1, hz⟩ := hP
  have c1 : Steps p.tables e below (s₁.setTop (entryFrame m #[.ref x, .ref y] 3)) (s₁.setTop (mkF m 2 #[.val (.ref x), .val (.ref y), .unset] [.ref y, .ref x])) := Steps.trans (entry rfl) (by
    show Steps p.tables e below (s₁.setTop (mkF m 0 #[.val (.ref x), .val (.ref y), .unset] [])) _
    refine XS.aloadN X0.here hexec rfl (hb hbytes d0) rfl rfl ?_
    refine XS.aloadN X0.here hexec rfl (hb hbytes d1) rfl rfl ?_
    exact Steps.refl _)
  by_cases hxy : x = y
  · have c2 : Steps p.tables e below (s₁.setTop (entryFrame m #[.ref x, .ref y] 3)) (s₁.setTop (mkF m 6 #[.val (.ref x), .val (.ref y), .unset] [.int 1])) := c1.trans (by
      refine acmpNo X0.here hexec rfl (hb hbytes d2) rfl rfl rfl (by simp [acmp, hxy]) ?_
      refine iconstV X0.here hexec rfl 1 (hb hbytes d5) (by decide) ?_
      exact Steps.refl _)
    subst hxy
    have ec : cd = cd' := by
      obtain ⟨D, fd, a1, a2, a3⟩ := hx.2.2.1
      obtain ⟨D', fd', b1, b2, b3⟩ := hy.2.2.1
      cases a1.symm.trans b1
      obtain ⟨q1, q2, q3, q4⟩ := a2.1
      obtain ⟨r1, r2, r3, r4⟩ := b2.1
      cases q4.symm.trans r4
      cases a3.symm.trans b3; rfl
    have et : t = t' := by
      obtain ⟨D, fd, a1, a2, a3⟩ := hx.2.1
      obtain ⟨D', fd', b1, b2, b3⟩ := hy.2.1
      cases a1.symm.trans b1
      obtain ⟨q1, q2, q3, q4⟩ := a2.1
      obtain ⟨r1, r2, r3, r4⟩ := b2.1
      cases q4.symm.trans r4
      cases a3.symm.trans b3; rfl
    subst ec et
    have ev : V = V' := by cases hx.2.2.2.1.1.symm.trans hy.2.2.2.1.1; rfl
    subst ev
    have hs : SameT n f k g := (Cod.eqv hx.2.2.2.2.1 hy.2.2.2.2.1 hx.2.2.2.2.2 hy.2.2.2.2.2).mp ⟨rfl, fun _ _ => rfl⟩
    exact ⟨s₁, some (.int 1), _, _, _, X0, rfl, rfl, rfl, (fun h => by cases h), ⟨1, rfl, hh0, Or.inl ⟨rfl, hs⟩⟩, fun fs hl => c2.trans (X0.ireturnOut hexec hret rfl (Or.inr (Or.inl rfl)) (hb hbytes d6) hl)⟩
  · have c2 : Steps p.tables e below (s₁.setTop (entryFrame m #[.ref x, .ref y] 3)) (s₁.setTop (mkF m 8 #[.val (.ref x), .val (.ref y), .unset] [.ref y])) := c1.trans (by
      refine acmpYes X0.here hexec rfl (pc0 := 2) rfl (hb hbytes d2) rfl rfl rfl (by simp [acmp, hxy]) (by decide) rfl ?_
      refine XS.aloadN X0.here hexec rfl (hb hbytes d7) rfl rfl ?_
      exact Steps.refl _)
    obtain ⟨T3, X3, q3, st3⟩ := cinst X0 hexec hown (wk W (.classLink "java/lang/String" 10 "java/lang/String")) (hy.mv X0.warmed.alike hh0).1 (g := (mkF m 8 #[.val (.ref x), .val (.ref y), .unset] [.ref y])) rfl (rest := []) rfl (hb hbytes d8)
    have hh3 := q3.trans hh0
    have c4 : Steps p.tables e below (s₁.setTop (entryFrame m #[.ref x, .ref y] 3)) (T3.setTop (mkF m 15 #[.val (.ref x), .val (.ref y), .unset] [.ref y])) := (c2.trans (st3 _ (Steps.refl _))).trans (by
      refine XS.ifNo X3.here hexec rfl (hb hbytes d11) rfl (i0_eq_f (by decide)) ?_
      refine XS.aloadN X3.here hexec rfl (hb hbytes d14) rfl rfl ?_
      exact Steps.refl _)
    obtain ⟨T5, X5, q5, st5⟩ := cself X3 hexec hown (wk W (.classLink "java/lang/String" 10 "java/lang/String")) (hy.mv X3.warmed.alike hh3).1 (g := (mkF m 15 #[.val (.ref x), .val (.ref y), .unset] [.ref y])) rfl (rest := []) rfl (hb hbytes d15)
    have hh5 := q5.trans hh3
    have c6 : Steps p.tables e below (s₁.setTop (entryFrame m #[.ref x, .ref y] 3)) (T5.setTop (mkF m 19 #[.val (.ref x), .val (.ref y), .val (.ref y)] [])) := (c4.trans (st5 _ (Steps.refl _))).trans (by
      refine XS.astoreN X5.here hexec rfl (hb hbytes d18) rfl rfl rfl ?_
      exact Steps.refl _)
    obtain ⟨T7, X7, q7, st7⟩ := X5.sget hexec hown (wk W (.fieldLink "java/lang/String" 38 "java/lang/String" "COMPACT_STRINGS" "Z")) s1 (fun _ _ h => by rw [hh5]; exact h) (g := (mkF m 19 #[.val (.ref x), .val (.ref y), .val (.ref y)] [])) rfl (hb hbytes d19)
    have hh7 := q7.trans hh5
    have c8 : Steps p.tables e below (s₁.setTop (entryFrame m #[.ref x, .ref y] 3)) (T7.setTop (mkF m 26 #[.val (.ref x), .val (.ref y), .val (.ref y)] [.ref x])) := (c6.trans (st7 _ (Steps.refl _))).trans (by
      refine XS.ifNo X7.here hexec rfl (hb hbytes d22) rfl (i0_eq_f hz) ?_
      refine XS.aloadN X7.here hexec rfl (hb hbytes d25) rfl rfl ?_
      exact Steps.refl _)
    obtain ⟨T9, X9, q9, st9⟩ := X7.hget hexec hown (wk W (.fieldLink "java/lang/String" 15 "java/lang/String" "coder" "B")) (hx.mv X7.warmed.alike hh7).2.2.1 (g := (mkF m 26 #[.val (.ref x), .val (.ref y), .val (.ref y)] [.ref x])) rfl (rest := []) rfl (hb hbytes d26)
    have hh9 := q9.trans hh7
    have c10 : Steps p.tables e below (s₁.setTop (entryFrame m #[.ref x, .ref y] 3)) (T9.setTop (mkF m 30 #[.val (.ref x), .val (.ref y), .val (.ref y)] [.ref y, .int cd])) := (c8.trans (st9 _ (Steps.refl _))).trans (by
      refine XS.aloadN X9.here hexec rfl (hb hbytes d29) rfl rfl ?_
      exact Steps.refl _)
    obtain ⟨T11, X11, q11, st11⟩ := X9.hget hexec hown (wk W (.fieldLink "java/lang/String" 15 "java/lang/String" "coder" "B")) (hy.mv X9.warmed.alike hh9).2.2.1 (g := (mkF m 30 #[.val (.ref x), .val (.ref y), .val (.ref y)] [.ref y, .int cd])) rfl (rest := [.int cd]) rfl (hb hbytes d30)
    have hh11 := q11.trans hh9
    have c12 : Steps p.tables e below (s₁.setTop (entryFrame m #[.ref x, .ref y] 3)) (T11.setTop (mkF m 33 #[.val (.ref x), .val (.ref y), .val (.ref y)] [.int cd', .int cd])) := c10.trans (st11 _ (Steps.refl _))
    by_cases hcd : cd = cd'
    · subst hcd
      have c13 : Steps p.tables e below (s₁.setTop (entryFrame m #[.ref x, .ref y] 3)) (T11.setTop (mkF m 37 #[.val (.ref x), .val (.ref y), .val (.ref y)] [.ref x])) := c12.trans (by
        refine XS.icmpNo X11.here hexec rfl (hb hbytes d33) rfl (ii_ne_f rfl) ?_
        refine XS.aloadN X11.here hexec rfl (hb hbytes d36) rfl rfl ?_
        exact Steps.refl _)
      obtain ⟨T14, X14, q14, st14⟩ := X11.hget hexec hown (wk W (.fieldLink "java/lang/String" 9 "java/lang/String" "value" "[B")) (hx.mv X11.warmed.alike hh11).2.1 (g := (mkF m 37 #[.val (.ref x), .val (.ref y), .val (.ref y)] [.ref x])) rfl (rest := []) rfl (hb hbytes d37)
      have hh14 := q14.trans hh11
      have c15 : Steps p.tables e below (s₁.setTop (entryFrame m #[.ref x, .ref y] 3)) (T14.setTop (mkF m 41 #[.val (.ref x), .val (.ref y), .val (.ref y)] [.ref y, .ref t])) := (c13.trans (st14 _ (Steps.refl _))).trans (by
        refine XS.aloadN X14.here hexec rfl (hb hbytes d40) rfl rfl ?_
        exact Steps.refl _)
      obtain ⟨T16, X16, q16, st16⟩ := X14.hget hexec hown (wk W (.fieldLink "java/lang/String" 9 "java/lang/String" "value" "[B")) (hy.mv X14.warmed.alike hh14).2.1 (g := (mkF m 41 #[.val (.ref x), .val (.ref y), .val (.ref y)] [.ref y, .ref t])) rfl (rest := [.ref t]) rfl (hb hbytes d41)
      have hh16 := q16.trans hh14
      have c17 : Steps p.tables e below (s₁.setTop (entryFrame m #[.ref x, .ref y] 3)) (T16.setTop (mkF m 44 #[.val (.ref x), .val (.ref y), .val (.ref y)] [.ref t', .ref t])) := c15.trans (st16 _ (Steps.refl _))
      obtain ⟨v18, T18, X18, E18, g18⟩ := X16.callS hexec (LEq.law l t V t' V') hown (wks W (staticW "java/lang/String" 541 LEq.yN)) (wk W LEq.tab) (W := 0) (Nat.le_of_ble_eq_true rfl) (Nat.le_of_ble_eq_true rfl) (Nat.le_refl _) (Nat.le_refl _) (g := (mkF m 44 #[.val (.ref x), .val (.ref y), .val (.ref y)] [.ref t', .ref t])) rfl (by rw [hml]; rfl) c17 (argsL := [.ref t, .ref t']) (rest := []) rfl rfl (by show 2 * 0 + 0 ≤ _; decide) (hb hbytes d44) (⟨rfl, hx.2.2.2.1.mv X16.warmed.alike hh16, hx.2.2.2.2.1.ty, hy.2.2.2.1.mv X16.warmed.alike hh16, hy.2.2.2.2.1.ty⟩)
      obtain ⟨v, rfl, q18, hv⟩ := E18
      have iff := Cod.eqv hx.2.2.2.2.1 hy.2.2.2.2.1 hx.2.2.2.2.2 hy.2.2.2.2.2
      rcases hv with ⟨rfl, he⟩ | ⟨rfl, he⟩
      · have c19 : Steps p.tables e below (s₁.setTop (entryFrame m #[.ref x, .ref y] 3)) (T18.setTop (mkF m 55 #[.val (.ref x), .val (.ref y), .val (.ref y)] [.int 1])) := Steps.trans g18 (by
          refine XS.ifNo X18.here hexec rfl (hb hbytes d47) rfl (i0_eq_f (by decide)) ?_
          refine iconstV X18.here hexec rfl 1 (hb hbytes d50) (by decide) ?_
          refine XS.goto X18.here hexec rfl (pc0 := 51) rfl (hb hbytes d51) (by decide) rfl ?_
          exact Steps.refl _)
        exact ⟨T18, some (.int 1), _, _, _, X18, rfl, rfl, rfl, (fun h => by cases h), ⟨1, rfl, q18.trans hh16, Or.inl ⟨rfl, iff.mp he⟩⟩, fun fs hl => c19.trans (X18.ireturnOut hexec hret rfl (Or.inr (Or.inl rfl)) (hb hbytes d55) hl)⟩
      · have c19 : Steps p.tables e below (s₁.setTop (entryFrame m #[.ref x, .ref y] 3)) (T18.setTop (mkF m 55 #[.val (.ref x), .val (.ref y), .val (.ref y)] [.int 0])) := Steps.trans g18 (by
          refine XS.ifYes X18.here hexec rfl (pc0 := 47) rfl (hb hbytes d47) rfl (i0_eq_t rfl) (by decide) rfl ?_
          refine iconstV X18.here hexec rfl 0 (hb hbytes d54) (by decide) ?_
          exact Steps.refl _)
        exact ⟨T18, some (.int 0), _, _, _, X18, rfl, rfl, rfl, (fun h => by cases h), ⟨0, rfl, q18.trans hh16, Or.inr ⟨rfl, fun q => he (iff.mpr q)⟩⟩, fun fs hl => c19.trans (X18.ireturnOut hexec hret rfl (Or.inr (Or.inl rfl)) (hb hbytes d55) hl)⟩
    · have c13 : Steps p.tables e below (s₁.setTop (entryFrame m #[.ref x, .ref y] 3)) (T11.setTop (mkF m 55 #[.val (.ref x), .val (.ref y), .val (.ref y)] [.int 0])) := c12.trans (by
        refine XS.icmpYes X11.here hexec rfl (pc0 := 33) rfl (hb hbytes d33) rfl (ii_ne_t hcd) (by decide) rfl ?_
        refine iconstV X11.here hexec rfl 0 (hb hbytes d54) (by decide) ?_
        exact Steps.refl _)
      exact ⟨T11, some (.int 0), _, _, _, X11, rfl, rfl, rfl, (fun h => by cases h), ⟨0, rfl, hh11, Or.inr ⟨rfl, Cod.dif hx.2.2.2.2.1 hy.2.2.2.2.1 hcd⟩⟩, fun fs hl => c13.trans (X11.ireturnOut hexec hret rfl (Or.inr (Or.inl rfl)) (hb hbytes d55) hl)⟩
theorem pays {l : Launch} {R : Room} {p : Program} {e : Env} {below : List Frame} {s : State} {sargs : Array Value} {len W : Nat} (x t : Addr) (V : Cell) (cd : Int32) (n : Nat) (f : Nat → Int32) (y t' : Addr) (V' : Cell) (cd' : Int32) (k : Nat) (g : Nat → Int32) (z : Int32) (htab : tab.before sargs s = true) (hfr : 2 ≤ R.frames) (hlo : W + 28 ≤ R.locals) :
    Back l R p e below s sargs yN len W (fun A₁ a₁ => A₁.cells + 0 ≤ R.cells ∧ A₁.slots + 0 ≤ R.slots ∧ P x t V cd n f y t' V' cd' k g z a₁ A₁.U) (fun A₁ _ v₁ B₁ => Says01 (SameT n f k g) v₁ A₁.U B₁.U ∧ B₁.locs = A₁.locs ++ [] ∧ B₁.cells = A₁.cells + 0 ∧ B₁.slots = A₁.slots + 0) :=
  (law l x t V cd n f y t' V' cd' k g z).pays htab hfr (by omega)
end SEq
end StrChars
namespace StrChars.Road
open Jvm Sem ClassFile Op Lib Jvm.Stand Jvm.Free Jvm.Free.XT
open Jvm.Lib.Cold (StaticIs)
/-- the words of String.equals(Object) -/
abbrev wordsEq : List Jvm.Cond := [.code SEq.yN SEq.yB 3 (some .boolean), .initialized ST, .classLink ST 10 ST, .fieldLink ST 38 ST "COMPACT_STRINGS" "Z", .fieldLink ST 15 ST "coder" "B", .fieldLink ST 9 ST "value" "[B", .methodLink ST 541 LEq.yN, .static LEq.yN, .code LEq.yN LEq.yB 3 (some .boolean), .initialized "java/lang/StringLatin1"]
theorem tabEq_of {a : Array Value} {s : State} (h : ∀ w ∈ wordsEq, w.before a s = true) : SEq.tab.before a s = true := by
  have hl : LEq.tab.before a s = true := unparts (wk h (.code LEq.yN LEq.yB 3 (some .boolean))) (wks h (.initialized LEq.yN.cls :: LEq.site))
  have q := consq hl h
  exact unparts (wk q (.code SEq.yN SEq.yB 3 (some .boolean))) (wks q (.initialized SEq.yN.cls :: SEq.site))
theorem movedEq {Z s : State} {a0 args : Array Value} (hZ : Z.Warmed39 s.vm) (hw : ∀ d ∈ wordsEq, d.before a0 Z = true) : ∀ d ∈ wordsEq, d.before args s = true := fun d hd => by
  have t : ∀ d ∈ wordsEq, (d.onTables && d.keepsFace) = true := by decide +kernel
  exact RoadKit.mv hZ (hw d hd) (t d hd)
/-- the road's facts of a String, as the laws ask it -/
theorem txt_of {Z U : State} {a0 : Array Value} {kI : Nat} (wi : (Jvm.Cond.instantiable ST kI).before a0 Z = true) (al : Z.vm.Alike U.vm) {x t : Addr} {kb : ClassId} {cs : List Int32} {cd N2 : Int32} {vs : List Value} (E : RoadKit.Exa Z U.heap x ST) (V : RoadKit.Fld Z U.heap x ST "value" "[B" (.ref t)) (C : RoadKit.Fld Z U.heap x ST "coder" "B" (.int cd)) (K : RoadKit.Arv Z U.heap t kb .byte N2 vs (.int 0)) (hc : CodA cs cd N2 vs) (hb : ∀ c ∈ cs, ¬ c < 0 ∧ ¬ (65535 : Int32) < c) (l2 : cs.length ≤ 4000) :
    ∃ A, Txt x t A cd cs.length (fun j => cs.getD j 0) U := by
  obtain ⟨A, K1, K2, K3, K4, K5, K6⟩ := K
  have hcod := hc.cod (by omega) K3 K5
  obtain ⟨D, fV, fC, hB, F1, F2, g1, g2, -, -⟩ := strObj wi al E V C
  exact ⟨A, ⟨_, hB.2.2.1, D, hB.1, rfl, by cases q : D.vm <;> first | rfl | exact absurd q (hB.2.1.2 _)⟩, Has.of hB F1 g1, Has.of hB F2 g2, ⟨K1.1, State.isArrayOf_alike al K1.2.1, K1.2.2, by rcases hcod with ⟨-, q, -⟩ | ⟨-, q, -⟩ <;> omega⟩, hcod, fun j hj => by
    have e : cs.getD j 0 = cs[j] := by simp [List.getD_eq_getElem?_getD, hj]
    show ¬ cs.getD j 0 < 0 ∧ ¬ 65535 < cs.getD j 0
    rw [e]; exact hb _ (List.getElem_mem _)⟩
theorem same_list (cs ds : List Int32) : SameT cs.length (fun j => cs.getD j 0) ds.length (fun j => ds.getD j 0) ↔ cs = ds := by
  constructor
  · rintro ⟨e, q⟩
    refine List.ext_getElem e fun j h1 h2 => ?_
    have := q j h1
    simpa [List.getD_eq_getElem?_getD, h1, h2] using this
  · rintro rfl
    exact ⟨rfl, fun _ _ => rfl⟩
/-- **equals(Object) OF TWO SUCH STRINGS**: 1 just where the chars are the same -/
theorem eqW {p : Program} {l : Launch} {e : Env} {R : Room} {s : State} {args : Array Value} {below : List Frame} {len W : Nat} {Z : State} {a0 : Array Value} {h : Heap} (hZ : Z.Warmed39 s.vm) (hw : ∀ d ∈ wordsEq, d.before a0 Z = true) {kI : Nat} (wi : (Jvm.Cond.instantiable ST kI).before a0 Z = true)
    {x t : Addr} {kb : ClassId} {cs : List Int32} {cd N2 : Int32} {vs : List Value} (E : RoadKit.Exa Z h x ST) (V : RoadKit.Fld Z h x ST "value" "[B" (.ref t)) (C : RoadKit.Fld Z h x ST "coder" "B" (.int cd)) (K : RoadKit.Arv Z h t kb .byte N2 vs (.int 0)) (hc : CodA cs cd N2 vs) (hb : ∀ c ∈ cs, ¬ c < 0 ∧ ¬ (65535 : Int32) < c) (l2 : cs.length ≤ 4000)
    {y t' : Addr} {kb' : ClassId} {ds : List Int32} {cd' N2' : Int32} {vs' : List Value} (E' : RoadKit.Exa Z h y ST) (V' : RoadKit.Fld Z h y ST "value" "[B" (.ref t')) (C' : RoadKit.Fld Z h y ST "coder" "B" (.int cd')) (K' : RoadKit.Arv Z h t' kb' .byte N2' vs' (.int 0)) (hc' : CodA ds cd' N2' vs') (hb' : ∀ c ∈ ds, ¬ c < 0 ∧ ¬ (65535 : Int32) < c) (l2' : ds.length ≤ 4000)
    {z : Int32} (S : RoadKit.Sta Z h ST "COMPACT_STRINGS" "Z" (.int z)) (hz : ¬ z = 0) (hfr : 2 ≤ R.frames) (hlo : W + 28 ≤ R.locals) :
    Back l R p e below s args (⟨"java/lang/String", "equals", "(Ljava/lang/Object;)Z"⟩ : MethodName) len W (fun P a => a = #[.ref x, .ref y] ∧ P.U.heap = h ∧ P.cells + 0 ≤ R.cells ∧ P.slots + 0 ≤ R.slots)
      (fun P _ v B => ∃ L, (((v = some (.int 1) ∧ cs = ds) ∨ (v = some (.int 0) ∧ ¬ cs = ds)) ∧ L = [] ∧ B.U.heap = h) ∧ B.locs = P.locs ++ L ∧ B.cells = P.cells + 0 ∧ B.slots = P.slots + 0) := by
  intro m meth c P g ig mk a X hg hsize hdg hW hn hp'
  obtain ⟨rfl, rfl, r1, r2⟩ := hp'
  have al : Z.vm.Alike P.U.vm := hZ.alike.trans X.warmed.alike
  obtain ⟨A, hx⟩ := txt_of wi al E V C K hc hb l2
  obtain ⟨A', hy⟩ := txt_of wi al E' V' C' K' hc' hb' l2'
  obtain ⟨v, B, X', ⟨⟨w, hv, hh, hq⟩, hl, hk, hs⟩, st⟩ := SEq.pays x t A cd cs.length (fun j => cs.getD j 0) y t' A' cd' ds.length (fun j => ds.getD j 0) z (tabEq_of (movedEq hZ hw)) hfr hlo m meth c P g ig mk _ X hg hsize hdg hW hn ⟨r1, r2, rfl, hx, hy, sta_is al S, hz⟩
  refine ⟨v, B, X', ⟨[], ⟨?_, rfl, hh⟩, hl, hk, hs⟩, st⟩
  rcases hq with ⟨rfl, q⟩ | ⟨rfl, q⟩
  · exact Or.inl ⟨hv, (same_list cs ds).mp q⟩
  · exact Or.inr ⟨hv, fun e => q ((same_list cs ds).mpr e)⟩
end StrChars.Road
namespace StrChars.Road
open Jvm Sem ClassFile Op Lib Jvm.Stand Jvm.Free Jvm.Free.XT
open Jvm.Lib.Cold (StaticIs)
/-- what backV says of its String, as the contracts of this text ask it: cs's low bytes, coder 0 -/
theorem codOf {cs : List Int32} {n : Nat} (hn : cs.length = n) (hb : ∀ c ∈ cs, ¬ 255 < c) : CodA cs 0 (Int32.ofNat n) ((cs.map lo8).map Value.int) := Or.inl ⟨rfl, by rw [hn], by simp [List.map_map, Function.comp_def], hb⟩
end StrChars.Road
end Jvm.Pilot.@@N@@
namespace Jvm.Pilot.@@N@@
open Jvm Jvm.ClassFile Sem Op Lib Jvm.Free Jvm.Stand Jvm.LawKit Jvm.RoadKit Bundle Jvm.Pilot.@@N@@.Jvm.D
abbrev CL : List (String × Nat) := consts_1
abbrev NL : Bool := false
/-! OWN KIT: a forward form of the walk (Rc: the run has come to pc with these locals, this stack and this heap), over the library's Stand. -/
section OwnKit
open Jvm.Free.SB Jvm.Free.SBG
def Sx (Z : State) (h : Heap) (Ds : List Addr) (a : Addr) (units : Array UInt16) : Prop :=
  ∃ (q : SQ) (cS : ClassId), q.sa = a ∧ Sl q cS ({ Z with heap := h } : State) ∧ (∃ kS : Class, Z.vm.classes[cS]? = some kS ∧ kS.kind = .ordinary ∧ q.sC.slots.size = kS.instanceTypes.size) ∧ Z.vm.findClass "[B" = some q.SA.cls ∧ q.SA.slots = stringBytes units ∧ q.sa ∉ Ds ∧ q.sd ∉ Ds
theorem own_al (Z : State) : Z.vm.Alike Z.vm := (State.Warmed39.refl Z).alike
theorem Sx.keep {Z : State} {h h' : Heap} {Ds ws : List Addr} {a : Addr} {u : Array UInt16} (F : Sx Z h Ds a u) (K : Keep h h' ws) (q : ∀ x ∈ ws, x ∈ Ds) : Sx Z h' Ds a u := by
  obtain ⟨s, cS, h1, h2, h3, h4, h5, h6, h7⟩ := F
  exact ⟨s, cS, h1, Sl.carry (U := ({ Z with heap := h } : State)) (U' := ({ Z with heap := h' } : State)) (own_al Z) (K.2.1 _ _ h2.1.1 (fun m => h6 (q _ m))) (K.2.1 _ _ h2.1.2.2.2.2.2.2.2.2.2.1 (fun m => h7 (q _ m))) h2, h3, h4, h5, h6, h7⟩
theorem Sx.less {Z : State} {h : Heap} {Ds Ds' : List Addr} {a : Addr} {u : Array UInt16} (F : Sx Z h Ds a u) (q : ∀ x ∈ Ds', x ∈ Ds) : Sx Z h Ds' a u := by
  obtain ⟨s, cS, h1, h2, h3, h4, h5, h6, h7⟩ := F
  exact ⟨s, cS, h1, h2, h3, h4, h5, fun m => h6 (q _ m), fun m => h7 (q _ m)⟩
theorem Sx.more {Z : State} {h : Heap} {Ds : List Addr} {a b : Addr} {u : Array UInt16} (F : Sx Z h Ds a u) (hb : h.size ≤ b) : Sx Z h (b :: Ds) a u := by
  obtain ⟨s, cS, h1, h2, h3, h4, h5, h6, h7⟩ := F
  have l1 : s.sa < h.size := (Array.getElem?_eq_some_iff.mp h2.1.1).1
  have l2 : s.sd < h.size := (Array.getElem?_eq_some_iff.mp h2.1.2.2.2.2.2.2.2.2.2.1).1
  refine ⟨s, cS, h1, h2, h3, h4, h5, fun m => ?_, fun m => ?_⟩
  · rcases List.mem_cons.mp m with e | e
    · exact absurd e (Nat.ne_of_lt (Nat.lt_of_lt_of_le l1 hb))
    · exact h6 e
  · rcases List.mem_cons.mp m with e | e
    · exact absurd e (Nat.ne_of_lt (Nat.lt_of_lt_of_le l2 hb))
    · exact h7 e
def Lk (Z : State) : Prop := ∀ (own : String) (idx : Nat), (own, idx) ∈ CL → ∃ (a0 : Array Value) (text : String), (Jvm.Cond.stringLink own idx text).before a0 Z = true ∧ (∀ c ∈ text.toList, c.toNat < 256) ∧ ∀ d ∈ Bundle.stringAtoms, d.before a0 Z = true
def JJ (Z : State) (n0 : Nat) (vm : Vm) (h : Heap) (Ds : List Addr) : Prop :=
  Old Z n0 h ∧ (NL = true → Z.WarmedH vm) ∧ (∀ x ∈ Ds, n0 ≤ x ∧ x < h.size) ∧ Lk Z ∧
    ∀ (own : String) (idx : Nat), (own, idx) ∈ CL → ∀ (c : ClassId) (k : Class) (cf : ClassFile) (i : Nat) (units : Array UInt16) (a : Addr), vm.findClass own = some c → vm.classes[c]? = some k → k.cf = some cf →
      cf.constantPool[idx]? = some (.string i) → cf.constantPool[i]? = some (.utf8 units) →
      (k.resolved[idx]? = some (some (.string a)) ∨ (k.resolved[idx]? = some none ∧ vm.interned.find? (fun p => p.1 == units) = some (units, a))) → Sx Z h Ds a units
theorem JJ.keep {Z : State} {n0 : Nat} {vm : Vm} {h h' : Heap} {Ds ws : List Addr} (J : JJ Z n0 vm h Ds) (K : Keep h h' ws) (q : ∀ x ∈ ws, x ∈ Ds) : JJ Z n0 vm h' Ds :=
  ⟨J.1.keep K (fun x hx => (J.2.2.1 x (q x hx)).1), J.2.1, fun x hx => ⟨(J.2.2.1 x hx).1, Nat.lt_of_lt_of_le (J.2.2.1 x hx).2 K.1⟩, J.2.2.2.1, fun o i hm c k cf j u a q1 q2 q3 q4 q5 q6 => (J.2.2.2.2 o i hm c k cf j u a q1 q2 q3 q4 q5 q6).keep K q⟩
theorem JJ.ext {Z : State} {n0 : Nat} {vm : Vm} {h h' : Heap} {Ds : List Addr} (J : JJ Z n0 vm h Ds) (E : Ext h h') : JJ Z n0 vm h' Ds := J.keep ((Keep.refl h []).ext E) (fun x hx => nomatch hx)
theorem JJ.less {Z : State} {n0 : Nat} {vm : Vm} {h : Heap} {Ds Ds' : List Addr} (J : JJ Z n0 vm h Ds) (q : ∀ x ∈ Ds', x ∈ Ds) : JJ Z n0 vm h Ds' :=
  ⟨J.1, J.2.1, fun x hx => J.2.2.1 x (q x hx), J.2.2.2.1, fun o i hm c k cf j u a q1 q2 q3 q4 q5 q6 => (J.2.2.2.2 o i hm c k cf j u a q1 q2 q3 q4 q5 q6).less q⟩
theorem own_n0 {Z : State} {n0 : Nat} {h : Heap} (X : Old Z n0 h) : n0 ≤ h.size := X.1 ▸ X.2.1
theorem JJ.born {Z : State} {n0 : Nat} {vm : Vm} {h h' : Heap} {Ds : List Addr} (J : JJ Z n0 vm h Ds) (E : Ext h h') (hb : h.size < h'.size) : JJ Z n0 vm h' (h.size :: Ds) := by
  refine ⟨J.1.ext E, J.2.1, fun x hx => ?_, J.2.2.2.1, fun o i hm c k cf j u a q1 q2 q3 q4 q5 q6 => ((J.2.2.2.2 o i hm c k cf j u a q1 q2 q3 q4 q5 q6).more (Nat.le_refl _)).keep ((Keep.refl h []).ext E) (fun x hx => nomatch hx)⟩
  rcases List.mem_cons.mp hx with e | e
  · subst e; exact ⟨own_n0 J.1, hb⟩
  · exact ⟨(J.2.2.1 x e).1, Nat.lt_of_lt_of_le (J.2.2.1 x e).2 E.1⟩
theorem JJ.step {Z t : State} {n0 : Nat} {vm' : Vm} {h : Heap} {Ds : List Addr} (J : JJ Z n0 t.vm h Ds) (hZ : Z.Warmed39 t.vm) (hW : t.Warmed39 vm')
    (hint : vm'.interned = t.vm.interned ∨ ∃ (u : Array UInt16) (a' : Addr), vm'.interned = t.vm.interned.push (u, a') ∧ (t.vm.interned.find? (fun p => p.1 == u) = none → Sx Z h Ds a' u)) (hcl : NL = true → Z.WarmedH vm') : JJ Z n0 vm' h Ds := by
  refine ⟨J.1, hcl, J.2.2.1, J.2.2.2.1, fun own idx hm c k' cf i units a hc' hk' hcf' hp hu hor => ?_⟩
  obtain ⟨a0, text, w, hlat, -⟩ := J.2.2.2.1 own idx hm
  have hal : t.vm.Alike vm' := hW.alike
  have hc : t.vm.findClass own = some c := by rw [← hal.findClass]; exact hc'
  have wt : (Jvm.Cond.stringLink own idx text).before a0 t = true := mvS (s := t) (vm0 := t.vm) hZ w
  obtain ⟨k, cf0, i0, units0, hk, hcf, hp0, hu0, hnm, htext, -⟩ := Cond.stringLink_spec hc wt
  obtain ⟨k'', hk'', hke, -, ee, -⟩ := hW.2.2.2 c k hk
  cases hk'.symm.trans hk''
  have hcfk : k'.cf = k.cf := by rw [hke]
  cases (hcfk ▸ hcf').symm.trans hcf
  cases hp.symm.trans hp0
  cases hu.symm.trans hu0
  have base := fun a => J.2.2.2.2 own idx hm c k cf i units a hc hk hcf hp hu
  have hfind : ∀ a, vm'.interned.find? (fun p => p.1 == units) = some (units, a) → k.resolved[idx]? = some none → Sx Z h Ds a units := by
    intro a hf hop
    rcases hint with e | ⟨u, a', e, hS⟩
    · rw [e] at hf; exact base a (Or.inr ⟨hop, hf⟩)
    · rw [e, Array.find?_push] at hf
      cases hs : t.vm.interned.find? (fun p => p.1 == units) with
      | some pr =>
        rw [hs] at hf
        have hpr : pr = (units, a) := by simpa using hf
        exact base a (Or.inr ⟨hop, by rw [hs, hpr]⟩)
      | none =>
        rw [hs, Option.none_or] at hf
        by_cases hb : (u == units) = true
        · have hu' : u = units := by simpa using hb
          subst hu'
          have : a' = a := by simpa using hf
          subst this
          exact hS hs
        · simp [hb] at hf
  rcases ee idx with e0 | ⟨hop, r, e1, hr | ⟨a3, t', si, us, rfl, -, q3, q4, q5⟩⟩
  · rcases hor with h0 | ⟨h0, hf⟩
    · exact base a (Or.inl (e0 ▸ h0))
    · exact hfind a hf (e0 ▸ h0)
  · exfalso
    cases r <;> simp [State.rightAt, hk, hcf, hnm] at hr
  · rw [hcf] at q3 q4
    have e3 : si = i := by
      have := q3.symm.trans hp
      simpa using this
    subst e3
    have e4 : us = units := by simpa [ConstantPool.utf8?, hu] using q4.symm
    subst e4
    rcases hor with h0 | ⟨h0, -⟩
    · have ea : a3 = a := by have := e1.symm.trans h0; simpa using this
      subst ea
      exact hfind a3 q5 hop
    · have := e1.symm.trans h0; simp at this
theorem JJ.warm {Z t : State} {n0 : Nat} {vm' : Vm} {h : Heap} {Ds : List Addr} (J : JJ Z n0 t.vm h Ds) (hZ : Z.Warmed39 t.vm) (hW : t.WarmedH vm') : JJ Z n0 vm' h Ds :=
  J.step hZ hW.wide (Or.inl hW.interned_eq) (fun e => State.WarmedH.trans (J.2.1 e) hW)
abbrev Cx : Type := Program × Launch × Env × State × MethodId × Array Value × List Frame × Method × Code × State
abbrev Cx.p (C : Cx) : Program := C.1
abbrev Cx.l (C : Cx) : Launch := C.2.1
abbrev Cx.e (C : Cx) : Env := C.2.2.1
abbrev Cx.s (C : Cx) : State := C.2.2.2.1
abbrev Cx.m (C : Cx) : MethodId := C.2.2.2.2.1
abbrev Cx.args (C : Cx) : Array Value := C.2.2.2.2.2.1
abbrev Cx.below (C : Cx) : List Frame := C.2.2.2.2.2.2.1
abbrev Cx.meth (C : Cx) : Method := C.2.2.2.2.2.2.2.1
abbrev Cx.c (C : Cx) : Code := C.2.2.2.2.2.2.2.2.1
abbrev Cx.s0 (C : Cx) : State := C.2.2.2.2.2.2.2.2.2
/-- the run has come to pc -/
def Rc (C : Cx) (R : Room) (own : String) (bs : ByteArray) (ml : Nat) (Z : State) (n0 ce sl pc : Nat) (Ls : Array Slot) (S : List Value) (h : Heap) (Ds : List Addr) : Prop :=
  ∃ (T : State) (locs : List Loc) (vm0 : Vm) (k0 : Nat), Stand C.p C.l C.e R (C.s.setVm vm0) C.m C.args C.below C.meth C.c T locs ce sl ∧ C.s.Since vm0 k0 ∧ k0 ≤ h.size ∧ Z.Warmed39 vm0 ∧ JJ Z n0 vm0 h Ds ∧ T.heap = h ∧ Fr n0 locs ∧
    (C.p.tables.exec = Jvm.exec ∧ C.c.code = bs ∧ C.c.maxLocals = ml ∧ vm0.findClass own = some C.m.cls ∧ C.meth.locks = false) ∧
    ∀ t, Steps C.p.tables C.e C.below (T.setTop (mkF C.m pc Ls S)) t → Steps C.p.tables C.e C.below C.s0 t
/-- the invocation has ended -/
def Done (C : Cx) (Z : State) (n0 : Nat) (Q : Option Value → Heap → List Addr → Prop) (kc ks : Nat) : Prop :=
  ∃ (t : State) (o : Outcome), Steps C.p.tables C.e C.below C.s0 t ∧ t.status = .running ∧ Ended t C.below o ∧ ∃ (v : Option Value) (L : List Loc) (Ds : List Addr), o = .returned v ∧ Q v t.heap Ds ∧ JJ Z n0 t.vm t.heap Ds ∧ Fr n0 L ∧ ReturnedEndW C.s o t L kc ks
/-- a contract -/
def Ctr (l : Launch) (Z : State) (y : MethodName) (bytes : ByteArray) (maxL : Nat) (ret : Option FieldType) (ws : List Jvm.Cond) (rm : Room) (as' : Array Value) (h : Heap) (n0 : Nat) (Ds : List Addr) (Q : Option Value → Heap → List Addr → Prop) : Prop :=
  MetFree l y (head1 (Jvm.Cond.code y bytes maxL ret :: ws) rm) (fun a U => a = as' ∧ Z.Warmed39 U.vm ∧ U.heap = h ∧ JJ Z n0 U.vm h Ds) (fun _ _ _ _ _ => True)
    (fun _ U o U' => ∃ (v : Option Value) (L : List Loc) (Ds' : List Addr), o = .returned v ∧ Q v U'.heap Ds' ∧ JJ Z n0 U'.vm U'.heap Ds' ∧ Fr n0 L ∧ ReturnedEndW U o U' L rm.cells rm.slots)
theorem ctr_of {l : Launch} {Z : State} {y : MethodName} {bytes : ByteArray} {maxL : Nat} {ret : Option FieldType} {ws : List Jvm.Cond} {rm : Room} {as' : Array Value} {h : Heap} {n0 : Nat} {Ds : List Addr} {Q : Option Value → Heap → List Addr → Prop} {Ls : Array Slot}
    (pf : plainFor y = true) (ef : ∀ m : MethodId, entryFrame m as' maxL = mkF m 0 Ls [])
    (wk : ∀ C : Cx, C.l = l → C.meth.sig.returnType = ret → C.meth.name = y.name → Rc C rm y.cls bytes maxL Z n0 0 0 0 Ls [] h Ds → Done C Z n0 Q rm.cells rm.slots) : Ctr l Z y bytes maxL ret ws rm as' h n0 Ds Q := by
  refine MetFree.of_bodySF pf hisR ?_
  intro p e s m args below meth c s₁ Bd hml0 hP hK
  obtain ⟨rfl, hZ, hh, hJ⟩ := hP
  have X0 : Stand p l e rm s m args below meth c s₁ [] 0 0 := Stand.of_body Bd
  have e0 : s₁.heap = h := by rw [← hh, Bd.state]; rfl
  have hown : s.vm.findClass y.cls = some m.cls := findClass_of_methodNamed Bd.named
  have hnm := (name_of_methodNamed Bd.named Bd.method).1
  have hlk : meth.locks = false := BodyLoose.notSynchronized Bd
  exact wk (p, l, e, s, m, args, below, meth, c, s₁.setTop (entryFrame m args maxL)) rfl Bd.returns hnm
    ⟨s₁, [], s.vm, 0, X0, (State.WarmedH.refl s).since 0, Nat.zero_le _, hZ, hJ, e0, Fr.nil n0, ⟨Bd.exec, Bd.bytes, hml0, hown, hlk⟩, fun t k => castTop (ef m) k⟩
theorem ctrBack {l : Launch} {R : Room} {p : Program} {e : Env} {below : List Frame} {s : State} {args : Array Value} {Z : State} {a0 : Array Value} {h : Heap} {n0 : Nat} {Ds : List Addr} {y : MethodName} {bytes : ByteArray} {maxL : Nat} {ret : Option FieldType} {rm : Room} {len W : Nat} {as' : Array Value} {Q : Option Value → Heap → List Addr → Prop}
    (hM : Ctr l Z y bytes maxL ret [] rm as' h n0 Ds Q) (hZ : Z.Warmed39 s.vm) (hJ : JJ Z n0 s.vm h Ds) (wc : (Jvm.Cond.code y bytes maxL ret).before a0 Z = true) (wz : (Jvm.Cond.initialized y.cls).before a0 Z = true) (hf : rm.frames + 1 ≤ R.frames) (hl : W + (maxL + 11) + rm.locals ≤ R.locals) :
    BackS l R p e below s args y len W (fun A a => a = as' ∧ A.U.heap = h ∧ A.cells + rm.cells ≤ R.cells ∧ A.slots + rm.slots ≤ R.slots)
      (fun A _ v B => ∃ (L : List Loc) (Ds' : List Addr), Q v B.U.heap Ds' ∧ JJ Z n0 B.U.vm B.U.heap Ds' ∧ Fr n0 L ∧ B.locs = A.locs ++ L ∧ B.cells = A.cells + rm.cells ∧ B.slots = A.slots + rm.slots) :=
  BackS.of_freeW (bytes := bytes) (maxL := maxL) (ret := ret) (E := fun _ _ o t L k n => k = rm.cells ∧ n = rm.slots ∧ ∃ (v : Option Value) (Ds' : List Addr), o = .returned v ∧ Q v t.heap Ds' ∧ JJ Z n0 t.vm t.heap Ds' ∧ Fr n0 L) hM hf hl
    (fun m meth c A a Y hp => have hU : Z.Warmed39 A.U.vm := wtrans hZ Y.warmed
      ⟨by show (Jvm.Cond.and _ .tt).before a A.U = true; rw [Cond.before_and, mv hU wc]; rfl, mv hU wc, mv hU wz, hp.2.2.1, hp.2.2.2⟩)
    (fun m meth c A a g mk Y hp => ⟨hp.1, wtrans hZ Y.warmed, hp.2.1, hJ.warm hZ Y.warmed⟩) (fun _ _ _ _ _ _ _ _ _ => trivial)
    (fun _ _ _ _ ⟨v, L, Ds', h1, h2, h3, h4, h5⟩ => ⟨L, _, _, h5, rfl, rfl, v, Ds', h1, h2, h3, h4⟩)
    (fun m meth c A a g mk v t L k n Y hp _ _ ⟨e1, e2, v', Ds', e3, e4, e5, e6⟩ => by cases e3; subst e1 e2; exact ⟨L, Ds', e4, e5, e6, rfl, rfl, rfl⟩)
variable {C : Cx} {R : Room} {own : String} {bs : ByteArray} {ml : Nat} {Z : State} {n0 ce sl pc : Nat} {Ls : Array Slot} {S rest : List Value} {h : Heap} {Ds : List Addr} {a0 : Array Value}
theorem Rc.go {pc' : Nat} {Ls' : Array Slot} {S' : List Value} (H : Rc C R own bs ml Z n0 ce sl pc Ls S h Ds) (f : ∀ T t, At T C.m C.c C.below → C.p.tables.exec = Jvm.exec → C.c.code = bs → Steps C.p.tables C.e C.below (T.setTop (mkF C.m pc' Ls' S')) t → Steps C.p.tables C.e C.below (T.setTop (mkF C.m pc Ls S)) t) : Rc C R own bs ml Z n0 ce sl pc' Ls' S' h Ds := by
  obtain ⟨T, locs, vm0, k0, X, h1, h2, h3, h4, h5, h6, h7, k⟩ := H
  exact ⟨T, locs, vm0, k0, X, h1, h2, h3, h4, h5, h6, h7, fun t ht => k _ (f T t X.here h7.1 h7.2.1 ht)⟩
theorem Rc.goX {pc' : Nat} {Ls' : Array Slot} {S' : List Value} (H : Rc C R own bs ml Z n0 ce sl pc Ls S h Ds) (f : ∀ (s : State) (T : State) (locs : List Loc) t, Stand C.p C.l C.e R s C.m C.args C.below C.meth C.c T locs ce sl → Z.Warmed39 s.vm → s.vm.findClass own = some C.m.cls → T.heap = h → C.p.tables.exec = Jvm.exec → C.c.code = bs → Steps C.p.tables C.e C.below (T.setTop (mkF C.m pc' Ls' S')) t → Steps C.p.tables C.e C.below (T.setTop (mkF C.m pc Ls S)) t) : Rc C R own bs ml Z n0 ce sl pc' Ls' S' h Ds := by
  obtain ⟨T, locs, vm0, k0, X, h1, h2, h3, h4, h5, h6, h7, k⟩ := H
  exact ⟨T, locs, vm0, k0, X, h1, h2, h3, h4, h5, h6, h7, fun t ht => k _ (f _ T locs t X h3 h7.2.2.2.1 h5 h7.1 h7.2.1 ht)⟩
theorem Rc.stk {S' : List Value} (H : Rc C R own bs ml Z n0 ce sl pc Ls S h Ds) (e : S = S') : Rc C R own bs ml Z n0 ce sl pc Ls S' h Ds := e ▸ H
theorem Rc.loc {Ls' : Array Slot} (H : Rc C R own bs ml Z n0 ce sl pc Ls S h Ds) (e : Ls = Ls') : Rc C R own bs ml Z n0 ce sl pc Ls' S h Ds := e ▸ H
theorem Rc.old (H : Rc C R own bs ml Z n0 ce sl pc Ls S h Ds) : Old Z n0 h := by
  obtain ⟨T, locs, vm0, k0, X, h1, h2, h3, h4, h5, h6, h7, k⟩ := H
  exact h4.1
theorem Rc.mem (H : Rc C R own bs ml Z n0 ce sl pc Ls S h Ds) {x : Addr} (hx : x ∈ Ds) : n0 ≤ x ∧ x < h.size := by
  obtain ⟨T, locs, vm0, k0, X, h1, h2, h3, h4, h5, h6, h7, k⟩ := H
  exact h4.2.2.1 x hx
theorem Rc.mono {ce' sl' : Nat} (H : Rc C R own bs ml Z n0 ce sl pc Ls S h Ds) (h1 : ce ≤ ce') (h2 : sl ≤ sl') : Rc C R own bs ml Z n0 ce' sl' pc Ls S h Ds := by
  obtain ⟨T, locs, vm0, k0, X, r⟩ := H
  exact ⟨T, locs, vm0, k0, X.mono h1 h2, r⟩
theorem Rc.less {Ds' : List Addr} (H : Rc C R own bs ml Z n0 ce sl pc Ls S h Ds) (q : ∀ x ∈ Ds', x ∈ Ds) : Rc C R own bs ml Z n0 ce sl pc Ls S h Ds' := by
  obtain ⟨T, locs, vm0, k0, X, h1, h2, h3, h4, r⟩ := H
  exact ⟨T, locs, vm0, k0, X, h1, h2, h3, h4.less q, r⟩
theorem Rc.iload {pc' : Nat} {k : Nat} {v : Int32} (H : Rc C R own bs ml Z n0 ce sl pc Ls S h Ds) (hd : decode bs pc = .ok (.iload k, 2)) (hl : Ls[k]? = some (.val (.int v))) (hp : pc + 2 = pc') : Rc C R own bs ml Z n0 ce sl pc' Ls (.int v :: S) h Ds := by
  subst hp
  exact H.go fun T t hA hx hby kk => XS.iload hA hx rfl (hb hby hd) hl kk
theorem Rc.iloadN {pc' : Nat} {k : Fin 4} {v : Int32} (H : Rc C R own bs ml Z n0 ce sl pc Ls S h Ds) (hd : decode bs pc = .ok (.iload_n k, 1)) (hl : Ls[k.val]? = some (.val (.int v))) (hp : pc + 1 = pc') : Rc C R own bs ml Z n0 ce sl pc' Ls (.int v :: S) h Ds := by
  subst hp
  exact H.go fun T t hA hx hby kk => XS.iloadN hA hx rfl (hb hby hd) hl kk
theorem Rc.aload {pc' : Nat} {k : Nat} {v : Value} (H : Rc C R own bs ml Z n0 ce sl pc Ls S h Ds) (hd : decode bs pc = .ok (.aload k, 2)) (hl : Ls[k]? = some (.val v)) (hv : v.isRef = true) (hp : pc + 2 = pc') : Rc C R own bs ml Z n0 ce sl pc' Ls (v :: S) h Ds := by
  subst hp
  exact H.go fun T t hA hx hby kk => XS.aload hA hx rfl (hb hby hd) hl hv kk
theorem Rc.aloadN {pc' : Nat} {k : Fin 4} {v : Value} (H : Rc C R own bs ml Z n0 ce sl pc Ls S h Ds) (hd : decode bs pc = .ok (.aload_n k, 1)) (hl : Ls[k.val]? = some (.val v)) (hv : v.isRef = true) (hp : pc + 1 = pc') : Rc C R own bs ml Z n0 ce sl pc' Ls (v :: S) h Ds := by
  subst hp
  exact H.go fun T t hA hx hby kk => XS.aloadN hA hx rfl (hb hby hd) hl hv kk
theorem Rc.lload {pc' : Nat} {k : Nat} {v : Int64} (H : Rc C R own bs ml Z n0 ce sl pc Ls S h Ds) (hd : decode bs pc = .ok (.lload k, 2)) (hl : Ls[k]? = some (.val (.long v))) (hp : pc + 2 = pc') : Rc C R own bs ml Z n0 ce sl pc' Ls (.long v :: S) h Ds := by
  subst hp
  exact H.go fun T t hA hx hby kk => XS.lload hA hx rfl (hb hby hd) hl kk
theorem Rc.lloadN {pc' : Nat} {k : Fin 4} {v : Int64} (H : Rc C R own bs ml Z n0 ce sl pc Ls S h Ds) (hd : decode bs pc = .ok (.lload_n k, 1)) (hl : Ls[k.val]? = some (.val (.long v))) (hp : pc + 1 = pc') : Rc C R own bs ml Z n0 ce sl pc' Ls (.long v :: S) h Ds := by
  subst hp
  exact H.go fun T t hA hx hby kk => XS.lloadN hA hx rfl (hb hby hd) hl kk
theorem Rc.istore {pc' : Nat} {k : Nat} {x : Int32} {l' : Array Slot} (H : Rc C R own bs ml Z n0 ce sl pc Ls (.int x :: rest) h Ds) (hd : decode bs pc = .ok (.istore k, 2)) (hl : storeLocals Ls k (.int x) = some l') (hp : pc + 2 = pc') : Rc C R own bs ml Z n0 ce sl pc' l' rest h Ds := by
  subst hp
  exact H.go fun T t hA hx hby kk => XS.istore hA hx rfl (hb hby hd) rfl hl kk
theorem Rc.istoreN {pc' : Nat} {k : Fin 4} {x : Int32} {l' : Array Slot} (H : Rc C R own bs ml Z n0 ce sl pc Ls (.int x :: rest) h Ds) (hd : decode bs pc = .ok (.istore_n k, 1)) (hl : storeLocals Ls k.val (.int x) = some l') (hp : pc + 1 = pc') : Rc C R own bs ml Z n0 ce sl pc' l' rest h Ds := by
  subst hp
  exact H.go fun T t hA hx hby kk => XS.istoreN hA hx rfl (hb hby hd) rfl hl kk
theorem Rc.astore {pc' : Nat} {k : Nat} {x : Value} {l' : Array Slot} (H : Rc C R own bs ml Z n0 ce sl pc Ls (x :: rest) h Ds) (hd : decode bs pc = .ok (.astore k, 2)) (hv : x.isRef = true) (hl : storeLocals Ls k x = some l') (hp : pc + 2 = pc') : Rc C R own bs ml Z n0 ce sl pc' l' rest h Ds := by
  subst hp
  exact H.go fun T t hA hx hby kk => XS.astore hA hx rfl (hb hby hd) rfl hv hl kk
theorem Rc.astoreN {pc' : Nat} {k : Fin 4} {x : Value} {l' : Array Slot} (H : Rc C R own bs ml Z n0 ce sl pc Ls (x :: rest) h Ds) (hd : decode bs pc = .ok (.astore_n k, 1)) (hv : x.isRef = true) (hl : storeLocals Ls k.val x = some l') (hp : pc + 1 = pc') : Rc C R own bs ml Z n0 ce sl pc' l' rest h Ds := by
  subst hp
  exact H.go fun T t hA hx hby kk => XS.astoreN hA hx rfl (hb hby hd) rfl hv hl kk
theorem Rc.lstore {pc' : Nat} {k : Nat} {x : Int64} {l' : Array Slot} (H : Rc C R own bs ml Z n0 ce sl pc Ls (.long x :: rest) h Ds) (hd : decode bs pc = .ok (.lstore k, 2)) (hl : storeLocals Ls k (.long x) = some l') (hp : pc + 2 = pc') : Rc C R own bs ml Z n0 ce sl pc' l' rest h Ds := by
  subst hp
  exact H.go fun T t hA hx hby kk => XS.lstore hA hx rfl (hb hby hd) rfl hl kk
theorem Rc.lstoreN {pc' : Nat} {k : Fin 4} {x : Int64} {l' : Array Slot} (H : Rc C R own bs ml Z n0 ce sl pc Ls (.long x :: rest) h Ds) (hd : decode bs pc = .ok (.lstore_n k, 1)) (hl : storeLocals Ls k.val (.long x) = some l') (hp : pc + 1 = pc') : Rc C R own bs ml Z n0 ce sl pc' l' rest h Ds := by
  subst hp
  exact H.go fun T t hA hx hby kk => XS.lstoreN hA hx rfl (hb hby hd) rfl hl kk
theorem Rc.iconst {pc' : Nat} {i : Int} {z : Int32} (H : Rc C R own bs ml Z n0 ce sl pc Ls S h Ds) (hd : decode bs pc = .ok (.iconst i, 1)) (hz : Int32.ofInt i = z) (hp : pc + 1 = pc') : Rc C R own bs ml Z n0 ce sl pc' Ls (.int z :: S) h Ds := by
  subst hp hz
  exact H.go fun T t hA hx hby kk => XS.iconst hA hx rfl (hb hby hd) kk
theorem Rc.bipush {pc' : Nat} {i : Int} {z : Int32} (H : Rc C R own bs ml Z n0 ce sl pc Ls S h Ds) (hd : decode bs pc = .ok (.bipush i, 2)) (hz : (Int8.ofInt i).toInt32 = z) (hp : pc + 2 = pc') : Rc C R own bs ml Z n0 ce sl pc' Ls (.int z :: S) h Ds := by
  subst hp hz
  exact H.go fun T t hA hx hby kk => XS.bipush hA hx rfl (hb hby hd) kk
theorem Rc.sipush {pc' : Nat} {i : Int} {z : Int32} (H : Rc C R own bs ml Z n0 ce sl pc Ls S h Ds) (hd : decode bs pc = .ok (.sipush i, 3)) (hz : (Int16.ofInt i).toInt32 = z) (hp : pc + 3 = pc') : Rc C R own bs ml Z n0 ce sl pc' Ls (.int z :: S) h Ds := by
  subst hp hz
  exact H.go fun T t hA hx hby kk => XS.sipush hA hx rfl (hb hby hd) kk
theorem Rc.lconst {pc' : Nat} {i : Fin 2} {z : Int64} (H : Rc C R own bs ml Z n0 ce sl pc Ls S h Ds) (hd : decode bs pc = .ok (.lconst i, 1)) (hz : Int64.ofNat i = z) (hp : pc + 1 = pc') : Rc C R own bs ml Z n0 ce sl pc' Ls (.long z :: S) h Ds := by
  subst hp hz
  exact H.go fun T t hA hx hby kk => XS.lconst hA hx rfl (hb hby hd) kk
theorem Rc.anull {pc' : Nat}  (H : Rc C R own bs ml Z n0 ce sl pc Ls S h Ds) (hd : decode bs pc = .ok (.aconst_null, 1)) (hp : pc + 1 = pc') : Rc C R own bs ml Z n0 ce sl pc' Ls (.null :: S) h Ds := by
  subst hp
  exact H.go fun T t hA hx hby kk => XS.aconstNull hA hx rfl (hb hby hd) kk
theorem Rc.iadd {pc' : Nat} {x y : Int32} (H : Rc C R own bs ml Z n0 ce sl pc Ls (.int y :: .int x :: rest) h Ds) (hd : decode bs pc = .ok (.iadd, 1)) (hp : pc + 1 = pc') : Rc C R own bs ml Z n0 ce sl pc' Ls (.int (x + y) :: rest) h Ds := by
  subst hp
  exact H.go fun T t hA hx hby kk => XS.iadd hA hx rfl (hb hby hd) rfl kk
theorem Rc.ladd {pc' : Nat} {x y : Int64} (H : Rc C R own bs ml Z n0 ce sl pc Ls (.long y :: .long x :: rest) h Ds) (hd : decode bs pc = .ok (.ladd, 1)) (hp : pc + 1 = pc') : Rc C R own bs ml Z n0 ce sl pc' Ls (.long (x + y) :: rest) h Ds := by
  subst hp
  exact H.go fun T t hA hx hby kk => XS.ladd hA hx rfl (hb hby hd) rfl kk
theorem Rc.isub {pc' : Nat} {x y : Int32} (H : Rc C R own bs ml Z n0 ce sl pc Ls (.int y :: .int x :: rest) h Ds) (hd : decode bs pc = .ok (.isub, 1)) (hp : pc + 1 = pc') : Rc C R own bs ml Z n0 ce sl pc' Ls (.int (x - y) :: rest) h Ds := by
  subst hp
  exact H.go fun T t hA hx hby kk => XS.isub hA hx rfl (hb hby hd) rfl kk
theorem Rc.lsub {pc' : Nat} {x y : Int64} (H : Rc C R own bs ml Z n0 ce sl pc Ls (.long y :: .long x :: rest) h Ds) (hd : decode bs pc = .ok (.lsub, 1)) (hp : pc + 1 = pc') : Rc C R own bs ml Z n0 ce sl pc' Ls (.long (x - y) :: rest) h Ds := by
  subst hp
  exact H.go fun T t hA hx hby kk => XS.lsub hA hx rfl (hb hby hd) rfl kk
theorem Rc.imul {pc' : Nat} {x y : Int32} (H : Rc C R own bs ml Z n0 ce sl pc Ls (.int y :: .int x :: rest) h Ds) (hd : decode bs pc = .ok (.imul, 1)) (hp : pc + 1 = pc') : Rc C R own bs ml Z n0 ce sl pc' Ls (.int (x * y) :: rest) h Ds := by
  subst hp
  exact H.go fun T t hA hx hby kk => XS.imul hA hx rfl (hb hby hd) rfl kk
theorem Rc.lmul {pc' : Nat} {x y : Int64} (H : Rc C R own bs ml Z n0 ce sl pc Ls (.long y :: .long x :: rest) h Ds) (hd : decode bs pc = .ok (.lmul, 1)) (hp : pc + 1 = pc') : Rc C R own bs ml Z n0 ce sl pc' Ls (.long (x * y) :: rest) h Ds := by
  subst hp
  exact H.go fun T t hA hx hby kk => XS.lmul hA hx rfl (hb hby hd) rfl kk
theorem Rc.iand {pc' : Nat} {x y : Int32} (H : Rc C R own bs ml Z n0 ce sl pc Ls (.int y :: .int x :: rest) h Ds) (hd : decode bs pc = .ok (.iand, 1)) (hp : pc + 1 = pc') : Rc C R own bs ml Z n0 ce sl pc' Ls (.int (x &&& y) :: rest) h Ds := by
  subst hp
  exact H.go fun T t hA hx hby kk => XS.iand hA hx rfl (hb hby hd) rfl kk
theorem Rc.land {pc' : Nat} {x y : Int64} (H : Rc C R own bs ml Z n0 ce sl pc Ls (.long y :: .long x :: rest) h Ds) (hd : decode bs pc = .ok (.land, 1)) (hp : pc + 1 = pc') : Rc C R own bs ml Z n0 ce sl pc' Ls (.long (x &&& y) :: rest) h Ds := by
  subst hp
  exact H.go fun T t hA hx hby kk => XS.land hA hx rfl (hb hby hd) rfl kk
theorem Rc.ior {pc' : Nat} {x y : Int32} (H : Rc C R own bs ml Z n0 ce sl pc Ls (.int y :: .int x :: rest) h Ds) (hd : decode bs pc = .ok (.ior, 1)) (hp : pc + 1 = pc') : Rc C R own bs ml Z n0 ce sl pc' Ls (.int (x ||| y) :: rest) h Ds := by
  subst hp
  exact H.go fun T t hA hx hby kk => XS.ior hA hx rfl (hb hby hd) rfl kk
theorem Rc.lor {pc' : Nat} {x y : Int64} (H : Rc C R own bs ml Z n0 ce sl pc Ls (.long y :: .long x :: rest) h Ds) (hd : decode bs pc = .ok (.lor, 1)) (hp : pc + 1 = pc') : Rc C R own bs ml Z n0 ce sl pc' Ls (.long (x ||| y) :: rest) h Ds := by
  subst hp
  exact H.go fun T t hA hx hby kk => XS.lor hA hx rfl (hb hby hd) rfl kk
theorem Rc.ixor {pc' : Nat} {x y : Int32} (H : Rc C R own bs ml Z n0 ce sl pc Ls (.int y :: .int x :: rest) h Ds) (hd : decode bs pc = .ok (.ixor, 1)) (hp : pc + 1 = pc') : Rc C R own bs ml Z n0 ce sl pc' Ls (.int (x ^^^ y) :: rest) h Ds := by
  subst hp
  exact H.go fun T t hA hx hby kk => XS.ixor hA hx rfl (hb hby hd) rfl kk
theorem Rc.lxor {pc' : Nat} {x y : Int64} (H : Rc C R own bs ml Z n0 ce sl pc Ls (.long y :: .long x :: rest) h Ds) (hd : decode bs pc = .ok (.lxor, 1)) (hp : pc + 1 = pc') : Rc C R own bs ml Z n0 ce sl pc' Ls (.long (x ^^^ y) :: rest) h Ds := by
  subst hp
  exact H.go fun T t hA hx hby kk => XS.lxor hA hx rfl (hb hby hd) rfl kk
theorem Rc.ishl {pc' : Nat} {x : Int32} {y : Int32} (H : Rc C R own bs ml Z n0 ce sl pc Ls (.int y :: .int x :: rest) h Ds) (hd : decode bs pc = .ok (.ishl, 1)) (hp : pc + 1 = pc') : Rc C R own bs ml Z n0 ce sl pc' Ls (.int (x <<< (y &&& 31)) :: rest) h Ds := by
  subst hp
  exact H.go fun T t hA hx hby kk => XS.ishl hA hx rfl (hb hby hd) rfl kk
theorem Rc.ishr {pc' : Nat} {x : Int32} {y : Int32} (H : Rc C R own bs ml Z n0 ce sl pc Ls (.int y :: .int x :: rest) h Ds) (hd : decode bs pc = .ok (.ishr, 1)) (hp : pc + 1 = pc') : Rc C R own bs ml Z n0 ce sl pc' Ls (.int (x >>> (y &&& 31)) :: rest) h Ds := by
  subst hp
  exact H.go fun T t hA hx hby kk => XS.ishr hA hx rfl (hb hby hd) rfl kk
theorem Rc.iushr {pc' : Nat} {x : Int32} {y : Int32} (H : Rc C R own bs ml Z n0 ce sl pc Ls (.int y :: .int x :: rest) h Ds) (hd : decode bs pc = .ok (.iushr, 1)) (hp : pc + 1 = pc') : Rc C R own bs ml Z n0 ce sl pc' Ls (.int ((x.toUInt32 >>> (y &&& 31).toUInt32).toInt32) :: rest) h Ds := by
  subst hp
  exact H.go fun T t hA hx hby kk => XS.iushr hA hx rfl (hb hby hd) rfl kk
theorem Rc.lshl {pc' : Nat} {x : Int64} {y : Int32} (H : Rc C R own bs ml Z n0 ce sl pc Ls (.int y :: .long x :: rest) h Ds) (hd : decode bs pc = .ok (.lshl, 1)) (hp : pc + 1 = pc') : Rc C R own bs ml Z n0 ce sl pc' Ls (.long (x <<< (y &&& 0x3f).toInt64) :: rest) h Ds := by
  subst hp
  exact H.go fun T t hA hx hby kk => XS.lshl hA hx rfl (hb hby hd) rfl kk
theorem Rc.lshr {pc' : Nat} {x : Int64} {y : Int32} (H : Rc C R own bs ml Z n0 ce sl pc Ls (.int y :: .long x :: rest) h Ds) (hd : decode bs pc = .ok (.lshr, 1)) (hp : pc + 1 = pc') : Rc C R own bs ml Z n0 ce sl pc' Ls (.long (x >>> (y &&& 0x3f).toInt64) :: rest) h Ds := by
  subst hp
  exact H.go fun T t hA hx hby kk => XS.lshr hA hx rfl (hb hby hd) rfl kk
theorem Rc.lushr {pc' : Nat} {x : Int64} {y : Int32} (H : Rc C R own bs ml Z n0 ce sl pc Ls (.int y :: .long x :: rest) h Ds) (hd : decode bs pc = .ok (.lushr, 1)) (hp : pc + 1 = pc') : Rc C R own bs ml Z n0 ce sl pc' Ls (.long ((x.toUInt64 >>> (y &&& 0x3f).toInt64.toUInt64).toInt64) :: rest) h Ds := by
  subst hp
  exact H.go fun T t hA hx hby kk => XS.lushr hA hx rfl (hb hby hd) rfl kk
theorem Rc.ineg {pc' : Nat} {x : Int32} (H : Rc C R own bs ml Z n0 ce sl pc Ls (.int x :: rest) h Ds) (hd : decode bs pc = .ok (.ineg, 1)) (hp : pc + 1 = pc') : Rc C R own bs ml Z n0 ce sl pc' Ls (.int (-x) :: rest) h Ds := by
  subst hp
  exact H.go fun T t hA hx hby kk => XS.ineg hA hx rfl (hb hby hd) rfl kk
theorem Rc.lneg {pc' : Nat} {x : Int64} (H : Rc C R own bs ml Z n0 ce sl pc Ls (.long x :: rest) h Ds) (hd : decode bs pc = .ok (.lneg, 1)) (hp : pc + 1 = pc') : Rc C R own bs ml Z n0 ce sl pc' Ls (.long (-x) :: rest) h Ds := by
  subst hp
  exact H.go fun T t hA hx hby kk => XS.lneg hA hx rfl (hb hby hd) rfl kk
theorem Rc.i2l {pc' : Nat} {x : Int32} (H : Rc C R own bs ml Z n0 ce sl pc Ls (.int x :: rest) h Ds) (hd : decode bs pc = .ok (.i2l, 1)) (hp : pc + 1 = pc') : Rc C R own bs ml Z n0 ce sl pc' Ls (.long x.toInt64 :: rest) h Ds := by
  subst hp
  exact H.go fun T t hA hx hby kk => XS.i2l hA hx rfl (hb hby hd) rfl kk
theorem Rc.l2i {pc' : Nat} {x : Int64} (H : Rc C R own bs ml Z n0 ce sl pc Ls (.long x :: rest) h Ds) (hd : decode bs pc = .ok (.l2i, 1)) (hp : pc + 1 = pc') : Rc C R own bs ml Z n0 ce sl pc' Ls (.int x.toInt32 :: rest) h Ds := by
  subst hp
  exact H.go fun T t hA hx hby kk => XS.l2i hA hx rfl (hb hby hd) rfl kk
theorem Rc.i2b {pc' : Nat} {x : Int32} (H : Rc C R own bs ml Z n0 ce sl pc Ls (.int x :: rest) h Ds) (hd : decode bs pc = .ok (.i2b, 1)) (hp : pc + 1 = pc') : Rc C R own bs ml Z n0 ce sl pc' Ls (.int x.toInt8.toInt32 :: rest) h Ds := by
  subst hp
  exact H.go fun T t hA hx hby kk => XS.i2b hA hx rfl (hb hby hd) rfl kk
theorem Rc.i2s {pc' : Nat} {x : Int32} (H : Rc C R own bs ml Z n0 ce sl pc Ls (.int x :: rest) h Ds) (hd : decode bs pc = .ok (.i2s, 1)) (hp : pc + 1 = pc') : Rc C R own bs ml Z n0 ce sl pc' Ls (.int x.toInt16.toInt32 :: rest) h Ds := by
  subst hp
  exact H.go fun T t hA hx hby kk => XS.i2s hA hx rfl (hb hby hd) rfl kk
theorem Rc.i2c {pc' : Nat} {x : Int32} (H : Rc C R own bs ml Z n0 ce sl pc Ls (.int x :: rest) h Ds) (hd : decode bs pc = .ok (.i2c, 1)) (hp : pc + 1 = pc') : Rc C R own bs ml Z n0 ce sl pc' Ls (.int x.toUInt32.toUInt16.toUInt32.toInt32 :: rest) h Ds := by
  subst hp
  exact H.go fun T t hA hx hby kk => XS.i2c hA hx rfl (hb hby hd) rfl kk
theorem Rc.lcmp {pc' : Nat} {x y : Int64} (H : Rc C R own bs ml Z n0 ce sl pc Ls (.long y :: .long x :: rest) h Ds) (hd : decode bs pc = .ok (.lcmp, 1)) (hp : pc + 1 = pc') : Rc C R own bs ml Z n0 ce sl pc' Ls (.int (lcmpW x y) :: rest) h Ds := by
  subst hp
  exact H.go fun T t hA hx hby kk => XS.lcmp hA hx rfl (hb hby hd) rfl kk
theorem Rc.idiv {pc' : Nat} {x y : Int32} (H : Rc C R own bs ml Z n0 ce sl pc Ls (.int y :: .int x :: rest) h Ds) (hd : decode bs pc = .ok (.idiv, 1)) (hy : y ≠ 0) (hp : pc + 1 = pc') : Rc C R own bs ml Z n0 ce sl pc' Ls (.int (x / y) :: rest) h Ds := by
  subst hp
  exact H.go fun T t hA hx hby kk => XS.idiv hA hx rfl (hb hby hd) rfl hy kk
theorem Rc.dup {pc' : Nat} {x : Value} (H : Rc C R own bs ml Z n0 ce sl pc Ls (x :: rest) h Ds) (hd : decode bs pc = .ok (.dup, 1)) (hc : x.category = 1) (hp : pc + 1 = pc') : Rc C R own bs ml Z n0 ce sl pc' Ls (x :: x :: rest) h Ds := by
  subst hp
  exact H.go fun T t hA hx hby kk => XS.dup hA hx rfl (hb hby hd) rfl hc kk
theorem Rc.pop {pc' : Nat} {x : Value} (H : Rc C R own bs ml Z n0 ce sl pc Ls (x :: rest) h Ds) (hd : decode bs pc = .ok (.pop, 1)) (hc : x.category = 1) (hp : pc + 1 = pc') : Rc C R own bs ml Z n0 ce sl pc' Ls rest h Ds := by
  subst hp
  exact H.go fun T t hA hx hby kk => XS.pop hA hx rfl (hb hby hd) rfl hc kk
theorem Rc.dupX1 {pc' : Nat} {x y : Value} (H : Rc C R own bs ml Z n0 ce sl pc Ls (x :: y :: rest) h Ds) (hd : decode bs pc = .ok (.dup_x1, 1)) (hc : x.category = 1) (hc' : y.category = 1) (hp : pc + 1 = pc') : Rc C R own bs ml Z n0 ce sl pc' Ls (x :: y :: x :: rest) h Ds := by
  subst hp
  exact H.go fun T t hA hx hby kk => XS.dupX1 hA hx rfl (hb hby hd) rfl hc hc' kk
theorem Rc.iinc {pc' : Nat} {k : Nat} {cst : Int} {x : Int32} {l' : Array Slot} (H : Rc C R own bs ml Z n0 ce sl pc Ls S h Ds) (hd : decode bs pc = .ok (.iinc k cst, 3)) (hl : Ls[k]? = some (.val (.int x))) (hl' : storeLocals Ls k (.int (x + Int32.ofInt cst)) = some l') (hp : pc + 3 = pc') : Rc C R own bs ml Z n0 ce sl pc' l' S h Ds := by
  subst hp
  exact H.go fun T t hA hx hby kk => XS.iinc hA hx rfl (hb hby hd) hl hl' kk
theorem Rc.irem {pc' : Nat} {x y : Int32} (H : Rc C R own bs ml Z n0 ce sl pc Ls (.int y :: .int x :: rest) h Ds) (hd : decode bs pc = .ok (.irem, 1)) (hy : y ≠ 0) (hp : pc + 1 = pc') : Rc C R own bs ml Z n0 ce sl pc' Ls (.int (x % y) :: rest) h Ds := by
  subst hp
  exact H.goX fun s T locs t X hZ hown eT hx hby kk => iremM X hx rfl (hb hby hd) rfl hy kk
theorem Rc.goto {pc' : Nat} {o : Int} (H : Rc C R own bs ml Z n0 ce sl pc Ls S h Ds) (hd : decode bs pc = .ok (.goto o, 3)) (ho : 0 ≤ (pc : Int) + o) (hp : ((pc : Int) + o).toNat = pc') : Rc C R own bs ml Z n0 ce sl pc' Ls S h Ds :=
  H.go fun T t hA hx hby kk => XS.goto hA hx rfl (pc0 := pc) rfl (hb hby hd) ho hp kk
theorem Rc.ifY {pc' : Nat} {o : Int} {cd : ClassFile.Cond} {x : Int32} (H : Rc C R own bs ml Z n0 ce sl pc Ls (.int x :: rest) h Ds) (hd : decode bs pc = .ok (.ifCond cd o, 3)) (hc : if_icmp.holds cd x 0 = true) (ho : 0 ≤ (pc : Int) + o) (hp : ((pc : Int) + o).toNat = pc') : Rc C R own bs ml Z n0 ce sl pc' Ls rest h Ds :=
  H.go fun T t hA hx hby kk => XS.ifYes hA hx rfl (pc0 := pc) rfl (hb hby hd) rfl ((if0 _ _).trans hc) ho hp kk
theorem Rc.ifN {pc' : Nat} {o : Int} {cd : ClassFile.Cond} {x : Int32} (H : Rc C R own bs ml Z n0 ce sl pc Ls (.int x :: rest) h Ds) (hd : decode bs pc = .ok (.ifCond cd o, 3)) (hc : if_icmp.holds cd x 0 = false) (hp : pc + 3 = pc') : Rc C R own bs ml Z n0 ce sl pc' Ls rest h Ds := by
  subst hp
  exact H.go fun T t hA hx hby kk => XS.ifNo hA hx rfl (hb hby hd) rfl ((if0 _ _).trans hc) kk
theorem Rc.icmpY {pc' : Nat} {o : Int} {cd : ClassFile.Cond} {x y : Int32} (H : Rc C R own bs ml Z n0 ce sl pc Ls (.int y :: .int x :: rest) h Ds) (hd : decode bs pc = .ok (.if_icmp cd o, 3)) (hc : if_icmp.holds cd x y = true) (ho : 0 ≤ (pc : Int) + o) (hp : ((pc : Int) + o).toNat = pc') : Rc C R own bs ml Z n0 ce sl pc' Ls rest h Ds :=
  H.go fun T t hA hx hby kk => XS.icmpYes hA hx rfl (pc0 := pc) rfl (hb hby hd) rfl hc ho hp kk
theorem Rc.icmpN {pc' : Nat} {o : Int} {cd : ClassFile.Cond} {x y : Int32} (H : Rc C R own bs ml Z n0 ce sl pc Ls (.int y :: .int x :: rest) h Ds) (hd : decode bs pc = .ok (.if_icmp cd o, 3)) (hc : if_icmp.holds cd x y = false) (hp : pc + 3 = pc') : Rc C R own bs ml Z n0 ce sl pc' Ls rest h Ds := by
  subst hp
  exact H.go fun T t hA hx hby kk => XS.icmpNo hA hx rfl (hb hby hd) rfl hc kk
theorem Rc.ifnullY {pc' : Nat} {o : Int} (H : Rc C R own bs ml Z n0 ce sl pc Ls (.null :: rest) h Ds) (hd : decode bs pc = .ok (.ifnull o, 3)) (ho : 0 ≤ (pc : Int) + o) (hp : ((pc : Int) + o).toNat = pc') : Rc C R own bs ml Z n0 ce sl pc' Ls rest h Ds :=
  H.go fun T t hA hx hby kk => XS.ifnullYes hA hx rfl (pc0 := pc) rfl (hb hby hd) rfl ho hp kk
theorem Rc.ifnullN {pc' : Nat} {b : Addr} {o : Int} (H : Rc C R own bs ml Z n0 ce sl pc Ls (.ref b :: rest) h Ds) (hd : decode bs pc = .ok (.ifnull o, 3)) (hp : pc + 3 = pc') : Rc C R own bs ml Z n0 ce sl pc' Ls rest h Ds := by
  subst hp
  exact H.go fun T t hA hx hby kk => XS.ifnullNo hA hx rfl (hb hby hd) rfl kk
theorem Rc.ifnonnullY {pc' : Nat} {b : Addr} {o : Int} (H : Rc C R own bs ml Z n0 ce sl pc Ls (.ref b :: rest) h Ds) (hd : decode bs pc = .ok (.ifnonnull o, 3)) (ho : 0 ≤ (pc : Int) + o) (hp : ((pc : Int) + o).toNat = pc') : Rc C R own bs ml Z n0 ce sl pc' Ls rest h Ds :=
  H.go fun T t hA hx hby kk => XS.ifnonnullYes hA hx rfl (pc0 := pc) rfl (hb hby hd) rfl ho hp kk
theorem Rc.ifnonnullN {pc' : Nat} {o : Int} (H : Rc C R own bs ml Z n0 ce sl pc Ls (.null :: rest) h Ds) (hd : decode bs pc = .ok (.ifnonnull o, 3)) (hp : pc + 3 = pc') : Rc C R own bs ml Z n0 ce sl pc' Ls rest h Ds := by
  subst hp
  exact H.go fun T t hA hx hby kk => XS.ifnonnullNo hA hx rfl (hb hby hd) rfl kk
theorem Rc.acmp {pc' : Nat} {o : Int} {cd : ACond} {x y : Value} {same : Bool} (H : Rc C R own bs ml Z n0 ce sl pc Ls (y :: x :: rest) h Ds) (hd : decode bs pc = .ok (.if_acmp cd o, 3)) (h1 : x.isRef = true) (h2 : y.isRef = true) (hq : decide (x = y) = same) (ho : 0 ≤ (pc : Int) + o) (hp : pc' = if acV cd same = true then ((pc : Int) + o).toNat else pc + 3) : Rc C R own bs ml Z n0 ce sl pc' Ls rest h Ds :=
  H.goX fun s T locs t X hZ hown eT hx hby kk => Jvm.RoadKit.acmp X hx rfl h1 h2 (pc0 := pc) rfl (hb hby hd) rfl hq ho hp kk

theorem own_ws1 {a : Addr} {Ds : List Addr} (ha : a ∈ Ds) : ∀ x ∈ [a], x ∈ Ds := fun x hx => by rw [List.mem_singleton.mp hx]; exact ha
theorem Rc.getF {pc' : Nat} {a : Addr} {v : Value} {R0 O n d host : String} {idx : Nat} (H : Rc C R own bs ml Z n0 ce sl pc Ls (.ref a :: rest) h Ds) (w : (Jvm.Cond.fieldLink own idx R0 n d).before a0 Z = true ∨ (Jvm.Cond.fieldLinkNest own idx R0 n d host).before a0 Z = true) (via : Via Z R0 O n d) (F : Fld Z h a O n d v) (hd : decode bs pc = .ok (.getfield idx, 3)) (hp : pc + 3 = pc') : Rc C R own bs ml Z n0 ce sl pc' Ls (v :: rest) h Ds := by
  subst hp
  obtain ⟨T, locs, vm0, k0, X, h1, h2, h3, h4, h5, h6, h7, k⟩ := H
  obtain ⟨T', X', e', st⟩ := RoadKit.getF X h7.1 (Z := Z) h3 h7.2.2.2.1 w via h5 F (g := mkF C.m pc Ls (.ref a :: rest)) rfl rfl (hb h7.2.1 hd)
  exact ⟨T', locs, vm0, k0, X', h1, h2, h3, h4, e', h6, h7, fun t ht => k _ (st _ ht)⟩
theorem Rc.getS {pc' : Nat} {v : Value} {R0 O n d host : String} {idx : Nat} (H : Rc C R own bs ml Z n0 ce sl pc Ls S h Ds) (w : (Jvm.Cond.fieldLink own idx R0 n d).before a0 Z = true ∨ (Jvm.Cond.fieldLinkNest own idx R0 n d host).before a0 Z = true) (via : Via Z R0 O n d) (F : Sta Z Z.heap O n d v) (hd : decode bs pc = .ok (.getstatic idx, 3)) (hp : pc + 3 = pc') : Rc C R own bs ml Z n0 ce sl pc' Ls (v :: S) h Ds := by
  subst hp
  obtain ⟨T, locs, vm0, k0, X, h1, h2, h3, h4, h5, h6, h7, k⟩ := H
  obtain ⟨T', X', e', st⟩ := getS2 X h7.1 (Z := Z) h3 h7.2.2.2.1 w via h5 (F.ext h4.1.2) (g := mkF C.m pc Ls S) rfl (hb h7.2.1 hd)
  exact ⟨T', locs, vm0, k0, X', h1, h2, h3, h4, e', h6, h7, fun t ht => k _ (st _ ht)⟩
theorem Rc.putF {pc' : Nat} {a : Addr} {v old : Value} {R0 O n d host Cc : String} {idx kk : Nat} {ty : FieldType} (H : Rc C R own bs ml Z n0 ce sl pc Ls (v :: .ref a :: rest) h Ds) (w : (Jvm.Cond.fieldLink own idx R0 n d).before a0 Z = true ∨ (Jvm.Cond.fieldLinkNest own idx R0 n d host).before a0 Z = true) (via : Via Z R0 O n d) (F : Fld Z h a O n d old) (E : Exa Z h a Cc)
    (L : (Jvm.Cond.lays Cc O n d).before a0 Z = true ∨ ((Jvm.Cond.laysFinal Cc O n d).before a0 Z = true ∧ own = O ∧ C.meth.name = "<init>")) (wi : (Jvm.Cond.instantiable Cc kk).before a0 Z = true) (hty : parseFieldDescriptor d = some ty) (hn : narrow ty v = v) (hf : fits ty v = true) (ha : a ∈ Ds) (hd : decode bs pc = .ok (.putfield idx, 3)) (hp : pc + 3 = pc') :
    ∃ h', Wr h h' a (RoadKit.slotOf Z O n d) v ∧ Rc C R own bs ml Z n0 ce sl pc' Ls rest h' Ds := by
  subst hp
  obtain ⟨T, locs, vm0, k0, X, h1, h2, h3, h4, h5, h6, h7, k⟩ := H
  obtain ⟨T', h', X', e', W', st⟩ := RoadKit.putF X h7.1 (Z := Z) h3 h7.2.2.2.1 w via h5 F E L wi hty hn hf (g := mkF C.m pc Ls (v :: .ref a :: rest)) rfl rfl (hb h7.2.1 hd)
  exact ⟨h', W', T', _, vm0, k0, X', h1, by rw [W'.size]; exact h2, h3, h4.keep (Keep.of_wr W') (own_ws1 ha), e', Fr.snoc X' h6 (h4.2.2.1 a ha).1, h7, fun t ht => k _ (st _ ht)⟩
theorem Rc.putFN {pc' : Nat} {a : Addr} {v v' old : Value} {R0 O n d Cc : String} {idx kk : Nat} {ty : FieldType} (H : Rc C R own bs ml Z n0 ce sl pc Ls (v :: .ref a :: rest) h Ds) (w : (Jvm.Cond.fieldLink own idx R0 n d).before a0 Z = true) (via : Via Z R0 O n d) (F : Fld Z h a O n d old) (E : Exa Z h a Cc)
    (L : (Jvm.Cond.lays Cc O n d).before a0 Z = true ∨ ((Jvm.Cond.laysFinal Cc O n d).before a0 Z = true ∧ own = O ∧ C.meth.name = "<init>")) (wi : (Jvm.Cond.instantiable Cc kk).before a0 Z = true) (hty : parseFieldDescriptor d = some ty) (hn : narrow ty v = v') (hf : fits ty v' = true) (ha : a ∈ Ds) (hd : decode bs pc = .ok (.putfield idx, 3)) (hp : pc + 3 = pc') :
    ∃ h', Wr h h' a (RoadKit.slotOf Z O n d) v' ∧ Rc C R own bs ml Z n0 ce sl pc' Ls rest h' Ds := by
  subst hp
  obtain ⟨T, locs, vm0, k0, X, h1, h2, h3, h4, h5, h6, h7, k⟩ := H
  obtain ⟨T', h', X', e', W', st⟩ := RoadKit.putFN X h7.1 (Z := Z) h3 h7.2.2.2.1 w via h5 F E L wi hty hn hf (g := mkF C.m pc Ls (v :: .ref a :: rest)) rfl rfl (hb h7.2.1 hd)
  exact ⟨h', W', T', _, vm0, k0, X', h1, by rw [W'.size]; exact h2, h3, h4.keep (Keep.of_wr W') (own_ws1 ha), e', Fr.snoc X' h6 (h4.2.2.1 a ha).1, h7, fun t ht => k _ (st _ ht)⟩
theorem Rc.newO {pc' : Nat} {Cc : String} {idx n : Nat} (H : Rc C R own bs ml Z n0 ce sl pc Ls S h Ds) (w : (Jvm.Cond.classLink own idx Cc).before a0 Z = true) (wi : (Jvm.Cond.instantiable Cc n).before a0 Z = true) (wz : (Jvm.Cond.initialized Cc).before a0 Z = true) (hd : decode bs pc = .ok (.new idx, 3)) (hc : ce + 1 ≤ R.cells) (hl : sl + n ≤ R.slots) (hp : pc + 3 = pc') :
    ∃ (h' : Heap) (b : Addr), b = h.size ∧ Ext h h' ∧ Exa Z h' b Cc ∧ (∀ {O nm d : String} {ty : FieldType}, Laid Z a0 Cc O nm d → parseFieldDescriptor d = some ty → Fld Z h' b O nm d (defaultValue ty)) ∧ Rc C R own bs ml Z n0 (ce + 1) (sl + n) pc' Ls (.ref b :: S) h' (b :: Ds) := by
  subst hp
  obtain ⟨T, locs, vm0, k0, X, h1, h2, h3, h4, h5, h6, h7, k⟩ := H
  obtain ⟨T', h', X', e', E', A', D', -, st⟩ := RoadKit.newO X h7.1 (Z := Z) h3 h7.2.2.2.1 w wi wz h5 (g := mkF C.m pc Ls S) rfl (hb h7.2.1 hd) hc hl
  exact ⟨h', h.size, rfl, E', A', D', T', _, vm0, k0, X', h1, Nat.le_trans h2 E'.1, h3, h4.born E' A'.lt, e', h6, h7, fun t ht => k _ (st _ ht)⟩
theorem Rc.newP {pc' : Nat} {aty : ArrayType} {n : Int32} {cap : Nat} (H : Rc C R own bs ml Z n0 ce sl pc Ls (.int n :: rest) h Ds) (w : (Jvm.Cond.arrayClass (newarray.typeOf aty)).before a0 Z = true) (hd : decode bs pc = .ok (.newarray aty, 2)) (hn : ¬ n < 0) (hcap : n.toNatClampNeg ≤ cap) (hb' : cap * 8 ≤ 536870912) (hc : ce + 1 ≤ R.cells) (hl : sl + cap ≤ R.slots) (hp : pc + 2 = pc') :
    ∃ (h' : Heap) (b : Addr) (kA : ClassId), b = h.size ∧ Ext h h' ∧ Arv Z h' b kA (newarray.typeOf aty) n [] (defaultValue (newarray.typeOf aty)) ∧ Rc C R own bs ml Z n0 (ce + 1) (sl + cap) pc' Ls (.ref b :: rest) h' (b :: Ds) := by
  subst hp
  obtain ⟨T, locs, vm0, k0, X, h1, h2, h3, h4, h5, h6, h7, k⟩ := H
  obtain ⟨T', h', kA, X', e', E', A', st⟩ := RoadKit.newP X h7.1 (Z := Z) h3 w h5 (g := mkF C.m pc Ls (.int n :: rest)) rfl (hb h7.2.1 hd) rfl hn hcap hb' hc hl
  exact ⟨h', h.size, kA, rfl, E', Arv.new A' hn, T', _, vm0, k0, X', h1, Nat.le_trans h2 E'.1, h3, h4.born E' A'.lt, e', h6, h7, fun t ht => k _ (st _ ht)⟩
theorem Rc.castore {pc' : Nat} {a : Addr} {x j z : Int32} {kA : ClassId} {vs : List Value} {dv : Value} (H : Rc C R own bs ml Z n0 ce sl pc Ls (.int x :: .int j :: .ref a :: rest) h Ds) (V : Arv Z h a kA .char z vs dv) (hj : ¬ j < 0 ∧ j < z) (i : Nat) (hi : j.toNatClampNeg = i) (hl : i < vs.length) (ha : a ∈ Ds) (hd : decode bs pc = .ok (.castore, 1)) (hp : pc + 1 = pc') :
    ∃ h', Keep h h' [a] ∧ Arv Z h' a kA .char z (vs.set i (.int (nar .char x))) dv ∧ Rc C R own bs ml Z n0 ce sl pc' Ls rest h' Ds := by
  subst hp
  obtain ⟨T, locs, vm0, k0, X, h1, h2, h3, h4, h5, h6, h7, k⟩ := H
  obtain ⟨cl, Ar, q1, q2, q3, q4, q5⟩ := V
  obtain ⟨T', h', X', e', W', st⟩ := stC X h7.1 (Z := Z) h3 h5 Ar (j := j) (inb_of q2 hj) (g := mkF C.m pc Ls (.int x :: .int j :: .ref a :: rest)) rfl rfl (hb h7.2.1 hd)
  exact ⟨h', Keep.of_wr W', Arv.set Ar q1 q2 q3 q4 q5 (fits_nar_char _) W' i hi hl, T', _, vm0, k0, X', h1, by rw [W'.size]; exact h2, h3, h4.keep (Keep.of_wr W') (own_ws1 ha), e', Fr.snoc X' h6 (h4.2.2.1 a ha).1, h7, fun t ht => k _ (st _ ht)⟩
theorem Rc.bastore {pc' : Nat} {a : Addr} {x j z : Int32} {kA : ClassId} {vs : List Value} {dv : Value} (H : Rc C R own bs ml Z n0 ce sl pc Ls (.int x :: .int j :: .ref a :: rest) h Ds) (V : Arv Z h a kA .byte z vs dv) (hj : ¬ j < 0 ∧ j < z) (i : Nat) (hi : j.toNatClampNeg = i) (hl : i < vs.length) (ha : a ∈ Ds) (hd : decode bs pc = .ok (.bastore, 1)) (hp : pc + 1 = pc') :
    ∃ h', Keep h h' [a] ∧ Arv Z h' a kA .byte z (vs.set i (.int (nar .byte x))) dv ∧ Rc C R own bs ml Z n0 ce sl pc' Ls rest h' Ds := by
  subst hp
  obtain ⟨T, locs, vm0, k0, X, h1, h2, h3, h4, h5, h6, h7, k⟩ := H
  obtain ⟨cl, Ar, q1, q2, q3, q4, q5⟩ := V
  obtain ⟨T', h', X', e', W', st⟩ := stB X h7.1 (Z := Z) h3 h5 Ar (j := j) (inb_of q2 hj) (g := mkF C.m pc Ls (.int x :: .int j :: .ref a :: rest)) rfl rfl (hb h7.2.1 hd)
  exact ⟨h', Keep.of_wr W', Arv.set Ar q1 q2 q3 q4 q5 (fits_nar_byte _) W' i hi hl, T', _, vm0, k0, X', h1, by rw [W'.size]; exact h2, h3, h4.keep (Keep.of_wr W') (own_ws1 ha), e', Fr.snoc X' h6 (h4.2.2.1 a ha).1, h7, fun t ht => k _ (st _ ht)⟩
theorem Rc.caload {pc' : Nat} {a : Addr} {j z : Int32} {v : Value} {kA : ClassId} {vs : List Value} {dv : Value} (H : Rc C R own bs ml Z n0 ce sl pc Ls (.int j :: .ref a :: rest) h Ds) (V : Arv Z h a kA .char z vs dv) (hj : ¬ j < 0 ∧ j < z) (hv : vs.getD j.toNatClampNeg dv = v) (hd : decode bs pc = .ok (.caload, 1)) (hp : pc + 1 = pc') : Rc C R own bs ml Z n0 ce sl pc' Ls (v :: rest) h Ds := by
  subst hp
  obtain ⟨cl, Ar, q1, q2, q3, q4, q5⟩ := V
  exact H.goX fun s T locs t X hZ hown eT hx hby kk => X.caload hx (j := j) (v := v) (by rw [eT]; exact Ar.1) (State.isArrayOf_alike hZ.alike Ar.2.1) Ar.2.2 (inb_of q2 hj) (q4.at (inb_of q2 hj) hv) (g := mkF C.m pc Ls (.int j :: .ref a :: rest)) rfl rfl (hb hby hd) _ kk
theorem Rc.baload {pc' : Nat} {a : Addr} {j z : Int32} {v : Value} {kA : ClassId} {vs : List Value} {dv : Value} (H : Rc C R own bs ml Z n0 ce sl pc Ls (.int j :: .ref a :: rest) h Ds) (V : Arv Z h a kA .byte z vs dv) (hj : ¬ j < 0 ∧ j < z) (hv : vs.getD j.toNatClampNeg dv = v) (hd : decode bs pc = .ok (.baload, 1)) (hp : pc + 1 = pc') : Rc C R own bs ml Z n0 ce sl pc' Ls (v :: rest) h Ds := by
  subst hp
  obtain ⟨cl, Ar, q1, q2, q3, q4, q5⟩ := V
  exact H.goX fun s T locs t X hZ hown eT hx hby kk => X.baloadBytes hx (j := j) (v := v) (by rw [eT]; exact Ar.1) (State.isArrayOf_alike hZ.alike Ar.2.1) Ar.2.2 (inb_of q2 hj) (q4.at (inb_of q2 hj) hv) (g := mkF C.m pc Ls (.int j :: .ref a :: rest)) rfl rfl (hb hby hd) _ kk
theorem Rc.aaload {pc' : Nat} {a : Addr} {j z : Int32} {v : Value} {kA : ClassId} {ty : FieldType} {vs : List Value} {dv : Value} (H : Rc C R own bs ml Z n0 ce sl pc Ls (.int j :: .ref a :: rest) h Ds) (V : Arv Z h a kA ty z vs dv) (hty : ty.isReference = true) (hj : ¬ j < 0 ∧ j < z) (hv : vs.getD j.toNatClampNeg dv = v) (hd : decode bs pc = .ok (.aaload, 1)) (hp : pc + 1 = pc') : Rc C R own bs ml Z n0 ce sl pc' Ls (v :: rest) h Ds := by
  subst hp
  obtain ⟨cl, Ar, q1, q2, q3, q4, q5⟩ := V
  exact H.goX fun s T locs t X hZ hown eT hx hby kk => X.aaload hx (j := j) (v := v) (by rw [eT]; exact Ar.1) (State.isArrayOf_alike hZ.alike Ar.2.1) hty Ar.2.2 (inb_of q2 hj) (q4.at (inb_of q2 hj) hv) (g := mkF C.m pc Ls (.int j :: .ref a :: rest)) rfl rfl (hb hby hd) _ kk
theorem Rc.arraylength {pc' : Nat} {a : Addr} {z : Int32} {kA : ClassId} {ty : FieldType} {vs : List Value} {dv : Value} (H : Rc C R own bs ml Z n0 ce sl pc Ls (.ref a :: rest) h Ds) (V : Arv Z h a kA ty z vs dv) (hd : decode bs pc = .ok (.arraylength, 1)) (hp : pc + 1 = pc') : Rc C R own bs ml Z n0 ce sl pc' Ls (.int z :: rest) h Ds := by
  subst hp
  obtain ⟨cl, Ar, q1, q2, q3, q4, q5⟩ := V
  have e := len_of q2 q3
  exact H.goX fun s T locs t X hZ hown eT hx hby kk => X.arraylength hx (by rw [eT]; exact Ar.1) (State.isArrayOf_alike hZ.alike Ar.2.1) (g := mkF C.m pc Ls (.ref a :: rest)) rfl rfl (hb hby hd) _ (by rw [e]; exact kk)
theorem Rc.initO {pc' : Nat} {a : Addr} {idx W : Nat} (H : Rc C R own bs ml Z n0 ce sl pc Ls (.ref a :: rest) h Ds) (w1 : (Jvm.Cond.methodLink own idx Lib.objectInit).before a0 Z = true) (w2 : (Jvm.Cond.instanceMethod Lib.objectInit).before a0 Z = true) (w3 : (Jvm.Cond.code Lib.objectInit ⟨#[0xb1]⟩ 1 none).before a0 Z = true) (hsz : Ls.size = ml) (hd : decode bs pc = .ok (.invokespecial idx, 3)) (hf : 1 ≤ R.frames) (hW : (rest.map fun v => v.category).sum = W) (hl : W + 12 ≤ R.locals) (hp : pc + 3 = pc') : Rc C R own bs ml Z n0 ce sl pc' Ls rest h Ds := by
  subst hp
  obtain ⟨T, locs, vm0, k0, X, h1, h2, h3, h4, h5, h6, h7, k⟩ := H
  obtain ⟨T', X', e', st⟩ := RoadKit.initO X h7.1 (Z := Z) h3 h7.2.2.2.1 w1 w2 w3 h5 (g := mkF C.m pc Ls (.ref a :: rest)) rfl (hsz.trans h7.2.2.1.symm) rfl (hb h7.2.1 hd) hf (W := W) (by show 2 * 0 + _ ≤ _; omega) hl
  exact ⟨T', locs, vm0, k0, X', h1, h2, h3, h4, e', h6, h7, fun t ht => k _ (st _ ht)⟩
theorem Rc.castY {pc' : Nat} {a : Addr} {K : String} {idx : Nat} (H : Rc C R own bs ml Z n0 ce sl pc Ls (.ref a :: rest) h Ds) (w : (Jvm.Cond.classLink own idx K).before a0 Z = true) (F : Ins Z h a K true) (hd : decode bs pc = .ok (.checkcast idx, 3)) (hp : pc + 3 = pc') : Rc C R own bs ml Z n0 ce sl pc' Ls (.ref a :: rest) h Ds := by
  subst hp
  obtain ⟨T, locs, vm0, k0, X, h1, h2, h3, h4, h5, h6, h7, k⟩ := H
  obtain ⟨T', X', e', st⟩ := RoadKit.castY X h7.1 (Z := Z) h3 h7.2.2.2.1 w h5 F (g := mkF C.m pc Ls (.ref a :: rest)) rfl rfl (hb h7.2.1 hd)
  exact ⟨T', locs, vm0, k0, X', h1, h2, h3, h4, e', h6, h7, fun t ht => k _ (st _ ht)⟩
theorem Rc.castNull {pc' : Nat} {idx : Nat} (H : Rc C R own bs ml Z n0 ce sl pc Ls (.null :: rest) h Ds) (hd : decode bs pc = .ok (.checkcast idx, 3)) (hp : pc + 3 = pc') : Rc C R own bs ml Z n0 ce sl pc' Ls (.null :: rest) h Ds := by
  subst hp
  exact H.goX fun s T locs t X hZ hown eT hx hby kk => X.checkcastNull hx (g := mkF C.m pc Ls (.null :: rest)) rfl rfl (hb hby hd) _ kk
theorem Rc.instNull {pc' : Nat} {idx : Nat} (H : Rc C R own bs ml Z n0 ce sl pc Ls (.null :: rest) h Ds) (hd : decode bs pc = .ok (.instanceof idx, 3)) (hp : pc + 3 = pc') : Rc C R own bs ml Z n0 ce sl pc' Ls (.int 0 :: rest) h Ds := by
  subst hp
  exact H.goX fun s T locs t X hZ hown eT hx hby kk => X.instanceofNull hx (g := mkF C.m pc Ls (.null :: rest)) rfl rfl (hb hby hd) _ kk
theorem Rc.instY {pc' : Nat} {a : Addr} {K : String} {idx : Nat} (H : Rc C R own bs ml Z n0 ce sl pc Ls (.ref a :: rest) h Ds) (w : (Jvm.Cond.classLink own idx K).before a0 Z = true) (F : Ins Z h a K true) (hd : decode bs pc = .ok (.instanceof idx, 3)) (hp : pc + 3 = pc') : Rc C R own bs ml Z n0 ce sl pc' Ls (.int 1 :: rest) h Ds := by
  subst hp
  obtain ⟨T, locs, vm0, k0, X, h1, h2, h3, h4, h5, h6, h7, k⟩ := H
  obtain ⟨T', X', e', st⟩ := RoadKit.instY X h7.1 (Z := Z) h3 h7.2.2.2.1 w h5 F (g := mkF C.m pc Ls (.ref a :: rest)) rfl rfl (hb h7.2.1 hd)
  exact ⟨T', locs, vm0, k0, X', h1, h2, h3, h4, e', h6, h7, fun t ht => k _ (st _ ht)⟩
theorem Rc.instNo {pc' : Nat} {a : Addr} {K Cc : String} {idx : Nat} (H : Rc C R own bs ml Z n0 ce sl pc Ls (.ref a :: rest) h Ds) (w : (Jvm.Cond.classLink own idx K).before a0 Z = true) (E : Exa Z h a Cc) (F : ∃ c t, Z.vm.findClass Cc = some c ∧ Z.vm.findClass K = some t ∧ Z.vm.assignable c t = false) (hd : decode bs pc = .ok (.instanceof idx, 3)) (hp : pc + 3 = pc') : Rc C R own bs ml Z n0 ce sl pc' Ls (.int 0 :: rest) h Ds := by
  subst hp
  obtain ⟨T, locs, vm0, k0, X, h1, h2, h3, h4, h5, h6, h7, k⟩ := H
  obtain ⟨T', X', e', st⟩ := RoadKit.instNo X h7.1 (Z := Z) h3 h7.2.2.2.1 w h5 E F (g := mkF C.m pc Ls (.ref a :: rest)) rfl rfl (hb h7.2.1 hd)
  exact ⟨T', locs, vm0, k0, X', h1, h2, h3, h4, e', h6, h7, fun t ht => k _ (st _ ht)⟩
/-! calls by a contract -/
abbrev NoMH (y : MethodName) : Prop := y.cls ≠ "java/lang/invoke/MethodHandle" ∧ y.cls ≠ "java/lang/invoke/VarHandle"
theorem own_fin {Q : Option Value → Heap → List Addr → Prop} {T : State} {locs : List Loc} {vm0 : Vm} {k0 pc' : Nat} {g : JFrame} {rm : Room} {v : Option Value} {B : Pt} {rest : List Value}
    (h1 : C.s.Since vm0 k0) (h2 : k0 ≤ h.size) (h3 : Z.Warmed39 vm0) (h5 : T.heap = h) (h6 : Fr n0 locs) (h7 : C.p.tables.exec = Jvm.exec ∧ C.c.code = bs ∧ C.c.maxLocals = ml ∧ vm0.findClass own = some C.m.cls ∧ C.meth.locks = false)
    (k : ∀ t, Steps C.p.tables C.e C.below (T.setTop g) t → Steps C.p.tables C.e C.below C.s0 t)
    (X' : Stand C.p C.l C.e R ((C.s.setVm vm0).setVm B.U.vm) C.m C.args C.below C.meth C.c B.U B.locs B.cells B.slots) (hS' : (C.s.setVm vm0).Since B.U.vm B.U.heap.size) (hgr : T.heap.size ≤ B.U.heap.size)
    (hq : ∃ (L : List Loc) (Ds' : List Addr), Q v B.U.heap Ds' ∧ JJ Z n0 B.U.vm B.U.heap Ds' ∧ Fr n0 L ∧ B.locs = locs ++ L ∧ B.cells = ce + rm.cells ∧ B.slots = sl + rm.slots)
    (st : Steps C.p.tables C.e C.below (T.setTop g) (B.U.setTop (mkF C.m pc' Ls (v.toList ++ rest)))) :
    ∃ (v : Option Value) (h' : Heap) (Ds' : List Addr), Q v h' Ds' ∧ Rc C R own bs ml Z n0 (ce + rm.cells) (sl + rm.slots) pc' Ls (v.toList ++ rest) h' Ds' := by
  obtain ⟨L, Ds', hQ, hJ, hFr, e1, e2, e3⟩ := hq
  refine ⟨v, B.U.heap, Ds', hQ, B.U, B.locs, B.U.vm, B.U.heap.size, ?_, h1.trans hS' (by rw [h5] at hgr; exact Nat.le_trans h2 hgr), Nat.le_refl _, State.Warmed39.trans (t := C.s.setVm vm0) h3 hS'.1, hJ, rfl, ?_, ⟨h7.1, h7.2.1, h7.2.2.1, ?_, h7.2.2.2.2⟩, fun t ht => k _ (st.trans ht)⟩
  · rw [← e2, ← e3]; exact X'
  · rw [e1]; exact Fr.app h6 hFr
  · rw [hS'.1.alike.findClass]; exact h7.2.2.2.1
theorem Rc.callS {pc' : Nat} {y : MethodName} {idx ml' W : Nat} {by' : ByteArray} {ret' : Option FieldType} {rm : Room} {argsL : List Value} {Q : Option Value → Heap → List Addr → Prop} (H : Rc C R own bs ml Z n0 ce sl pc Ls S h Ds)
    (hlink : (Jvm.Cond.methodLink own idx y).before a0 Z = true) (hstat : (Jvm.Cond.static y).before a0 Z = true) (hinit : (Jvm.Cond.initialized y.cls).before a0 Z = true) (hcode : (Jvm.Cond.code y by' ml' ret').before a0 Z = true) (hy : NoMH y)
    (K : Ctr C.l Z y by' ml' ret' [] rm argsL.toArray h n0 Ds Q) (hsz : Ls.size = ml) (hlen : ∀ sig, parseMethodDescriptor y.desc = some sig → argsL.length = sig.parameters.length) (hst : S = argsL.reverse ++ rest) (hW : (rest.map fun v => v.category).sum = W)
    (hd : decode bs pc = .ok (.invokestatic idx, 3)) (hfr : rm.frames + 1 ≤ R.frames) (hlo : W + (ml' + 11) + rm.locals ≤ R.locals) (hce : ce + rm.cells ≤ R.cells) (hsl : sl + rm.slots ≤ R.slots) (hp : pc + 3 = pc') :
    ∃ (v : Option Value) (h' : Heap) (Ds' : List Addr), Q v h' Ds' ∧ Rc C R own bs ml Z n0 (ce + rm.cells) (sl + rm.slots) pc' Ls (v.toList ++ rest) h' Ds' := by
  subst hp hst
  obtain ⟨T, locs, vm0, k0, X, h1, h2, h3, h4, h5, h6, h7, k⟩ := H
  obtain ⟨v, vm₁, B, hw1, X', hS', hgr, hq, st⟩ := callSS X h7.1 h7.2.2.2.1 (mvT (s := C.s.setVm vm0) h3 hlink) (mvT (s := C.s.setVm vm0) h3 hstat) (mvT (s := C.s.setVm vm0) h3 hinit) (mvT (s := C.s.setVm vm0) h3 hcode) hy (ctrBack (s := C.s.setVm vm0) (W := W) K h3 h4 hcode hinit hfr hlo) (g := mkF C.m pc Ls (argsL.reverse ++ rest)) rfl (hsz.trans h7.2.2.1.symm) hlen rfl (by show 2 * 0 + _ ≤ _; omega) (hb h7.2.1 hd) (fun vm₁ hw => ⟨rfl, h5, hce, hsl⟩)
  exact own_fin h1 h2 h3 h5 h6 h7 k X' hS' hgr hq st
theorem Rc.callSN {pc' : Nat} {y : MethodName} {host : String} {idx ml' W : Nat} {by' : ByteArray} {ret' : Option FieldType} {rm : Room} {argsL : List Value} {Q : Option Value → Heap → List Addr → Prop} (H : Rc C R own bs ml Z n0 ce sl pc Ls S h Ds)
    (hlink : (Jvm.Cond.methodLinkNest own idx y host).before a0 Z = true) (hstat : (Jvm.Cond.static y).before a0 Z = true) (hinit : (Jvm.Cond.initialized y.cls).before a0 Z = true) (hcode : (Jvm.Cond.code y by' ml' ret').before a0 Z = true) (hy : NoMH y)
    (K : Ctr C.l Z y by' ml' ret' [] rm argsL.toArray h n0 Ds Q) (hsz : Ls.size = ml) (hlen : ∀ sig, parseMethodDescriptor y.desc = some sig → argsL.length = sig.parameters.length) (hst : S = argsL.reverse ++ rest) (hW : (rest.map fun v => v.category).sum = W)
    (hd : decode bs pc = .ok (.invokestatic idx, 3)) (hfr : rm.frames + 1 ≤ R.frames) (hlo : W + (ml' + 11) + rm.locals ≤ R.locals) (hce : ce + rm.cells ≤ R.cells) (hsl : sl + rm.slots ≤ R.slots) (hp : pc + 3 = pc') :
    ∃ (v : Option Value) (h' : Heap) (Ds' : List Addr), Q v h' Ds' ∧ Rc C R own bs ml Z n0 (ce + rm.cells) (sl + rm.slots) pc' Ls (v.toList ++ rest) h' Ds' := by
  subst hp hst
  obtain ⟨T, locs, vm0, k0, X, h1, h2, h3, h4, h5, h6, h7, k⟩ := H
  obtain ⟨v, vm₁, B, hw1, X', hS', hgr, hq, st⟩ := callSNS X h7.1 h7.2.2.2.1 (Jvm.Cond.methodLinkNest_wide h3 hlink) (mvT (s := C.s.setVm vm0) h3 hstat) (mvT (s := C.s.setVm vm0) h3 hinit) (mvT (s := C.s.setVm vm0) h3 hcode) hy (ctrBack (s := C.s.setVm vm0) (W := W) K h3 h4 hcode hinit hfr hlo) (g := mkF C.m pc Ls (argsL.reverse ++ rest)) rfl (hsz.trans h7.2.2.1.symm) hlen rfl (by show 2 * 0 + _ ≤ _; omega) (hb h7.2.1 hd) (fun vm₁ hw => ⟨rfl, h5, hce, hsl⟩)
  exact own_fin h1 h2 h3 h5 h6 h7 k X' hS' hgr hq st
theorem Rc.callI {pc' : Nat} {y : MethodName} {idx ml' W : Nat} {by' : ByteArray} {rm : Room} {a : Addr} {argsL : List Value} {Q : Option Value → Heap → List Addr → Prop} (H : Rc C R own bs ml Z n0 ce sl pc Ls S h Ds) (hy1 : y.name = "<init>")
    (hlink : (Jvm.Cond.methodLink own idx y).before a0 Z = true) (hinst : (Jvm.Cond.instanceMethod y).before a0 Z = true) (hinit : (Jvm.Cond.initialized y.cls).before a0 Z = true) (hcode : (Jvm.Cond.code y by' ml' none).before a0 Z = true) (hy : NoMH y)
    (K : Ctr C.l Z y by' ml' none [] rm (.ref a :: argsL).toArray h n0 Ds Q) (hsz : Ls.size = ml) (hlen : ∀ sig, parseMethodDescriptor y.desc = some sig → argsL.length = sig.parameters.length) (hst : S = argsL.reverse ++ .ref a :: rest) (hW : (rest.map fun v => v.category).sum = W)
    (hd : decode bs pc = .ok (.invokespecial idx, 3)) (hfr : rm.frames + 1 ≤ R.frames) (hlo : W + (ml' + 11) + rm.locals ≤ R.locals) (hce : ce + rm.cells ≤ R.cells) (hsl : sl + rm.slots ≤ R.slots) (hp : pc + 3 = pc') :
    ∃ (v : Option Value) (h' : Heap) (Ds' : List Addr), Q v h' Ds' ∧ Rc C R own bs ml Z n0 (ce + rm.cells) (sl + rm.slots) pc' Ls (v.toList ++ rest) h' Ds' := by
  subst hp hst
  obtain ⟨T, locs, vm0, k0, X, h1, h2, h3, h4, h5, h6, h7, k⟩ := H
  obtain ⟨v, vm₁, B, hw1, X', hS', hgr, hq, st⟩ := X.specialBackS h7.1 hy1 h7.2.2.2.1 (mvT (s := C.s.setVm vm0) h3 hlink) (mvT (s := C.s.setVm vm0) h3 hinst) (mvT (s := C.s.setVm vm0) h3 hcode) hy (ctrBack (s := C.s.setVm vm0) (W := W) K h3 h4 hcode hinit hfr hlo) (g := mkF C.m pc Ls (argsL.reverse ++ .ref a :: rest)) rfl (hsz.trans h7.2.2.1.symm) (Steps.refl _) hlen rfl (by show 2 * 0 + _ ≤ _; omega) (hb h7.2.1 hd) (fun vm₁ hw => ⟨rfl, h5, hce, hsl⟩)
  exact own_fin h1 h2 h3 h5 h6 h7 k X' hS' hgr hq st
theorem Rc.callV {pc' : Nat} {y z : MethodName} {Cc : String} {idx ml' W : Nat} {by' : ByteArray} {ret' : Option FieldType} {rm : Room} {a : Addr} {argsL : List Value} {Q : Option Value → Heap → List Addr → Prop} (H : Rc C R own bs ml Z n0 ce sl pc Ls S h Ds)
    (hlink : (Jvm.Cond.methodLink own idx y).before a0 Z = true) (hdecl : (Jvm.Cond.declares y).before a0 Z = true) (hnf : ∀ s' : State, Z.Warmed39 s'.vm → NotFace s' y) (hsel : (Jvm.Cond.selects Cc y z).before a0 Z = true) (hinst : (Jvm.Cond.instanceMethod z).before a0 Z = true) (hinit : (Jvm.Cond.initialized z.cls).before a0 Z = true) (hcode : (Jvm.Cond.code z by' ml' ret').before a0 Z = true) (hy : NoMH y)
    (E : Exa Z h a Cc) (K : Ctr C.l Z z by' ml' ret' [] rm (.ref a :: argsL).toArray h n0 Ds Q) (hsz : Ls.size = ml) (hlen : ∀ sig, parseMethodDescriptor y.desc = some sig → argsL.length = sig.parameters.length) (hst : S = argsL.reverse ++ .ref a :: rest) (hW : (rest.map fun v => v.category).sum = W)
    (hd : decode bs pc = .ok (.invokevirtual idx, 3)) (hfr : rm.frames + 1 ≤ R.frames) (hlo : W + (ml' + 11) + rm.locals ≤ R.locals) (hce : ce + rm.cells ≤ R.cells) (hsl : sl + rm.slots ≤ R.slots) (hp : pc + 3 = pc') :
    ∃ (v : Option Value) (h' : Heap) (Ds' : List Addr), Q v h' Ds' ∧ Rc C R own bs ml Z n0 (ce + rm.cells) (sl + rm.slots) pc' Ls (v.toList ++ rest) h' Ds' := by
  subst hp hst
  obtain ⟨T, locs, vm0, k0, X, h1, h2, h3, h4, h5, h6, h7, k⟩ := H
  obtain ⟨cq, kq, qa, qb, qc⟩ := isOf (s := C.s.setVm vm0) h3 h5 E
  obtain ⟨v, vm₁, B, hw1, X', hS', hgr, hq, st⟩ := X.virtualBackS h7.1 (y := y) (z := z) h7.2.2.2.1 (mvT (s := C.s.setVm vm0) h3 hlink) (mvT (s := C.s.setVm vm0) h3 hdecl) (hnf _ h3) (mvT (s := C.s.setVm vm0) h3 hsel) (mvT (s := C.s.setVm vm0) h3 hinst) hy (ctrBack (s := C.s.setVm vm0) (W := W) K h3 h4 hcode hinit hfr hlo) qa qc (g := mkF C.m pc Ls (argsL.reverse ++ .ref a :: rest)) rfl (hsz.trans h7.2.2.1.symm) (Steps.refl _) hlen rfl (by show 2 * 0 + _ ≤ _; omega) (hb h7.2.1 hd) (fun vm₁ hw => ⟨rfl, h5, hce, hsl⟩)
  exact own_fin h1 h2 h3 h5 h6 h7 k X' hS' hgr hq st
/-! calls by a Back (a law of the library's) -/
theorem own_finB {Qb : Option Value → Heap → List Loc → Prop} {T : State} {locs : List Loc} {vm0 : Vm} {k0 pc' kc ks : Nat} {g : JFrame} {v : Option Value} {B : Pt} {rest : List Value}
    (h1 : C.s.Since vm0 k0) (h2 : k0 ≤ h.size) (h3 : Z.Warmed39 vm0) (h4 : JJ Z n0 vm0 h Ds) (h6 : Fr n0 locs) (h7 : C.p.tables.exec = Jvm.exec ∧ C.c.code = bs ∧ C.c.maxLocals = ml ∧ vm0.findClass own = some C.m.cls ∧ C.meth.locks = false)
    (k : ∀ t, Steps C.p.tables C.e C.below (T.setTop g) t → Steps C.p.tables C.e C.below C.s0 t)
    (hQ : ∀ v h' L, Qb v h' L → Fr n0 L ∧ ∃ ws, Keep h h' ws ∧ ∀ x ∈ ws, x ∈ Ds)
    (X' : Stand C.p C.l C.e R (C.s.setVm vm0) C.m C.args C.below C.meth C.c B.U B.locs B.cells B.slots)
    (hq : ∃ (L : List Loc), Qb v B.U.heap L ∧ B.locs = locs ++ L ∧ B.cells = ce + kc ∧ B.slots = sl + ks)
    (st : ∀ t, Steps C.p.tables C.e C.below (B.U.setTop (mkF C.m pc' Ls (v.toList ++ rest))) t → Steps C.p.tables C.e C.below (T.setTop g) t) :
    ∃ (v : Option Value) (h' : Heap) (L : List Loc), Qb v h' L ∧ Rc C R own bs ml Z n0 (ce + kc) (sl + ks) pc' Ls (v.toList ++ rest) h' Ds := by
  obtain ⟨L, hQb, e1, e2, e3⟩ := hq
  obtain ⟨hFr, ws, K, hws⟩ := hQ _ _ _ hQb
  refine ⟨v, B.U.heap, L, hQb, B.U, B.locs, vm0, k0, ?_, h1, Nat.le_trans h2 K.1, h3, h4.keep K hws, rfl, ?_, h7, fun t ht => k _ (st _ ht)⟩
  · rw [← e2, ← e3]; exact X'
  · rw [e1]; exact Fr.app h6 hFr
theorem Rc.backI {pc' : Nat} {y : MethodName} {idx ml' W kc ks : Nat} {by' : ByteArray} {a : Addr} {argsL : List Value} {Qb : Option Value → Heap → List Loc → Prop} (H : Rc C R own bs ml Z n0 ce sl pc Ls S h Ds) (hy1 : y.name = "<init>")
    (hlink : (Jvm.Cond.methodLink own idx y).before a0 Z = true) (hinst : (Jvm.Cond.instanceMethod y).before a0 Z = true) (hcode : (Jvm.Cond.code y by' ml' none).before a0 Z = true) (hy : NoMH y)
    (K : ∀ s' : State, Z.Warmed39 s'.vm → Back C.l R C.p C.e C.below s' C.args y 3 W (fun P a' => a' = (.ref a :: argsL).toArray ∧ P.U.heap = h ∧ P.cells + kc ≤ R.cells ∧ P.slots + ks ≤ R.slots) (fun P _ v B => ∃ L, Qb v B.U.heap L ∧ B.locs = P.locs ++ L ∧ B.cells = P.cells + kc ∧ B.slots = P.slots + ks))
    (hQ : ∀ v h' L, Qb v h' L → Fr n0 L ∧ ∃ ws, Keep h h' ws ∧ ∀ x ∈ ws, x ∈ Ds) (hsz : Ls.size = ml) (hlen : ∀ sig, parseMethodDescriptor y.desc = some sig → argsL.length = sig.parameters.length) (hst : S = argsL.reverse ++ .ref a :: rest) (hW : (rest.map fun v => v.category).sum = W)
    (hd : decode bs pc = .ok (.invokespecial idx, 3)) (hce : ce + kc ≤ R.cells) (hsl : sl + ks ≤ R.slots) (hp : pc + 3 = pc') :
    ∃ (v : Option Value) (h' : Heap) (L : List Loc), Qb v h' L ∧ Rc C R own bs ml Z n0 (ce + kc) (sl + ks) pc' Ls (v.toList ++ rest) h' Ds := by
  subst hp hst
  obtain ⟨T, locs, vm0, k0, X, h1, h2, h3, h4, h5, h6, h7, k⟩ := H
  obtain ⟨v, vm₁, B, hw1, X', hq, st⟩ := X.specialBack h7.1 hy1 h7.2.2.2.1 (mvT (s := C.s.setVm vm0) h3 hlink) (mvT (s := C.s.setVm vm0) h3 hinst) (mvT (s := C.s.setVm vm0) h3 hcode) hy (K _ h3) (g := mkF C.m pc Ls (argsL.reverse ++ .ref a :: rest)) rfl (hsz.trans h7.2.2.1.symm) (Steps.refl _) hlen rfl (by show 2 * 0 + _ ≤ _; omega) (hb h7.2.1 hd) (fun vm₁ hw => ⟨rfl, h5, hce, hsl⟩)
  exact own_finB h1 h2 h3 h4 h6 h7 k hQ X' hq (fun t ht => st.trans ht)
theorem Rc.backV {pc' : Nat} {y z : MethodName} {Cc : String} {idx W kc ks : Nat} {a : Addr} {argsL : List Value} {Qb : Option Value → Heap → List Loc → Prop} (H : Rc C R own bs ml Z n0 ce sl pc Ls S h Ds)
    (hlink : (Jvm.Cond.methodLink own idx y).before a0 Z = true) (hdecl : (Jvm.Cond.declares y).before a0 Z = true) (hnf : ∀ s' : State, Z.Warmed39 s'.vm → NotFace s' y) (hsel : (Jvm.Cond.selects Cc y z).before a0 Z = true) (hinst : (Jvm.Cond.instanceMethod z).before a0 Z = true) (hy : NoMH y) (E : Exa Z h a Cc)
    (K : ∀ s' : State, Z.Warmed39 s'.vm → Back C.l R C.p C.e C.below s' C.args z 3 W (fun P a' => a' = (.ref a :: argsL).toArray ∧ P.U.heap = h ∧ P.cells + kc ≤ R.cells ∧ P.slots + ks ≤ R.slots) (fun P _ v B => ∃ L, Qb v B.U.heap L ∧ B.locs = P.locs ++ L ∧ B.cells = P.cells + kc ∧ B.slots = P.slots + ks))
    (hQ : ∀ v h' L, Qb v h' L → Fr n0 L ∧ ∃ ws, Keep h h' ws ∧ ∀ x ∈ ws, x ∈ Ds) (hsz : Ls.size = ml) (hlen : ∀ sig, parseMethodDescriptor y.desc = some sig → argsL.length = sig.parameters.length) (hst : S = argsL.reverse ++ .ref a :: rest) (hW : (rest.map fun v => v.category).sum = W)
    (hd : decode bs pc = .ok (.invokevirtual idx, 3)) (hce : ce + kc ≤ R.cells) (hsl : sl + ks ≤ R.slots) (hp : pc + 3 = pc') :
    ∃ (v : Option Value) (h' : Heap) (L : List Loc), Qb v h' L ∧ Rc C R own bs ml Z n0 (ce + kc) (sl + ks) pc' Ls (v.toList ++ rest) h' Ds := by
  subst hp hst
  obtain ⟨T, locs, vm0, k0, X, h1, h2, h3, h4, h5, h6, h7, k⟩ := H
  obtain ⟨cq, kq, qa, qb, qc⟩ := isOf (s := C.s.setVm vm0) h3 h5 E
  obtain ⟨v, vm₁, B, hw1, X', hq, st⟩ := X.virtualBack h7.1 (y := y) (z := z) h7.2.2.2.1 (mvT (s := C.s.setVm vm0) h3 hlink) (mvT (s := C.s.setVm vm0) h3 hdecl) (hnf _ h3) (mvT (s := C.s.setVm vm0) h3 hsel) (mvT (s := C.s.setVm vm0) h3 hinst) hy (K _ h3) qa qc (g := mkF C.m pc Ls (argsL.reverse ++ .ref a :: rest)) rfl (hsz.trans h7.2.2.1.symm) (Steps.refl _) hlen rfl (by show 2 * 0 + _ ≤ _; omega) (hb h7.2.1 hd) (fun vm₁ hw => ⟨rfl, h5, hce, hsl⟩)
  exact own_finB h1 h2 h3 h4 h6 h7 k hQ X' hq (fun t ht => st.trans ht)
/-! returns -/
theorem Rc.retX {Q : Option Value → Heap → List Addr → Prop} {v : Option Value} {kc ks : Nat} {Ds' : List Addr} (H : Rc C R own bs ml Z n0 ce sl pc Ls S h Ds) (hv : C.meth.sig.returnType = none → v = none)
    (f : ∀ (s T : State) (locs : List Loc) (fs : List Frame), Stand C.p C.l C.e R s C.m C.args C.below C.meth C.c T locs ce sl → C.p.tables.exec = Jvm.exec → C.c.code = bs → (∀ (f : JFrame) (acts : List Action), f.method = C.m → f.locked = none → f.entered = [] → (doReturn C.e (T.setTop f) acts v).1 = T.setFrames fs) → Steps C.p.tables C.e C.below (T.setTop (mkF C.m pc Ls S)) (T.setFrames fs))
    (hk : ce ≤ kc) (hs : sl ≤ ks) (hds : ∀ x ∈ Ds', x ∈ Ds) (hq : Q v h Ds') : Done C Z n0 Q kc ks := by
  obtain ⟨T, locs, vm0, k0, X, h1, h2, h3, h4, h5, h6, h7, k⟩ := H
  obtain ⟨fs, hr, hrun, hend, hE⟩ := X.leaveW h1 (by rw [h5]; exact h2) hv h7.2.2.2.2
  refine ⟨T.setFrames fs, .returned v, k _ (f _ T locs fs X h7.1 h7.2.1 hr), hrun, hend, v, locs, Ds', rfl, ?_, ?_, h6, hE.1, hE.2.1, hE.2.2.1, hE.2.2.2.mono hk hs⟩
  · show Q v T.heap Ds'
    rw [h5]; exact hq
  · show JJ Z n0 T.vm T.heap Ds'
    rw [h5]
    exact (JJ.warm (t := C.s.setVm vm0) h4 h3 X.warmed).less hds
theorem Rc.retI {Q : Option Value → Heap → List Addr → Prop} {z : Int32} {kc ks : Nat} {Ds' : List Addr} (H : Rc C R own bs ml Z n0 ce sl pc Ls (.int z :: rest) h Ds) (hret : C.meth.sig.returnType = some .int) (hd : decode bs pc = .ok (.ireturn, 1)) (hk : ce ≤ kc) (hs : sl ≤ ks) (hds : ∀ x ∈ Ds', x ∈ Ds) (hq : Q (some (.int z)) h Ds') : Done C Z n0 Q kc ks :=
  H.retX (v := some (.int z)) (fun e => by rw [hret] at e; cases e) (fun s T locs fs X hx hby hr => retOut X hx hret rfl (Or.inl ⟨rfl, Or.inl rfl, z, rfl⟩) (hb hby hd) hr) hk hs hds hq
theorem Rc.retN {Q : Option Value → Heap → List Addr → Prop} {z z' : Int32} {t : FieldType} {kc ks : Nat} {Ds' : List Addr} (H : Rc C R own bs ml Z n0 ce sl pc Ls (.int z :: rest) h Ds) (hret : C.meth.sig.returnType = some t) (ht : t = .boolean ∨ t = .byte ∨ t = .char ∨ t = .short) (hz : nar t z = z') (hd : decode bs pc = .ok (.ireturn, 1)) (hk : ce ≤ kc) (hs : sl ≤ ks) (hds : ∀ x ∈ Ds', x ∈ Ds) (hq : Q (some (.int z')) h Ds') : Done C Z n0 Q kc ks := by
  subst hz
  exact H.retX (v := some (.int (nar t z))) (fun e => by rw [hret] at e; cases e) (fun s T locs fs X hx hby hr => RoadKit.retN X hx hret ht (hb hby hd) hr) hk hs hds hq
theorem Rc.retA {Q : Option Value → Heap → List Addr → Prop} {w : Value} {t : FieldType} {kc ks : Nat} {Ds' : List Addr} (H : Rc C R own bs ml Z n0 ce sl pc Ls (w :: rest) h Ds) (hret : C.meth.sig.returnType = some t) (ht : t.isReference = true) (hn : narrow t w = w) (hw : w.isRef = true) (hd : decode bs pc = .ok (.areturn, 1)) (hk : ce ≤ kc) (hs : sl ≤ ks) (hds : ∀ x ∈ Ds', x ∈ Ds) (hq : Q (some w) h Ds') : Done C Z n0 Q kc ks :=
  H.retX (v := some w) (fun e => by rw [hret] at e; cases e) (fun s T locs fs X hx hby hr => retOut X hx hret hn (Or.inr (Or.inr (Or.inr (Or.inr ⟨rfl, ht, hw⟩)))) (hb hby hd) hr) hk hs hds hq
theorem Rc.retV {Q : Option Value → Heap → List Addr → Prop} {kc ks : Nat} {Ds' : List Addr} (H : Rc C R own bs ml Z n0 ce sl pc Ls [] h Ds) (hret : C.meth.sig.returnType = none) (hd : decode bs pc = .ok (.return_, 1)) (hk : ce ≤ kc) (hs : sl ≤ ks) (hds : ∀ x ∈ Ds', x ∈ Ds) (hq : Q none h Ds') : Done C Z n0 Q kc ks :=
  H.retX (v := none) (fun _ => rfl) (fun s T locs fs X hx hby hr => X.returnOut hx hret (hb hby hd) hr) hk hs hds hq
/-! Strings -/
abbrev STR0 : String := "java/lang/String"
def bytesOfCs (cs : List Int32) : List Value := (cs.map fun c => c.toInt8.toInt32).map Value.int
def IsStr (Z : State) (h : Heap) (a : Addr) (cs : List Int32) : Prop :=
  Exa Z h a "java/lang/String" ∧ Fld Z h a "java/lang/String" "coder" "B" (.int 0) ∧ (∀ c ∈ cs, ¬ c < 0 ∧ ¬ (255 : Int32) < c) ∧ cs.length ≤ 4000 ∧
    ∃ (t : Addr) (kb : ClassId), Fld Z h a "java/lang/String" "value" "[B" (.ref t) ∧ Arv Z h t kb .byte (Int32.ofNat cs.length) (bytesOfCs cs) (.int 0)
def NotB (Z : State) (h : Heap) (w : Addr) : Prop := ∀ (t : Addr) (kb : ClassId) (z : Int32) (vs : List Value) (d : Value), Arv Z h t kb .byte z vs d → t ≠ w
theorem notB_exa {Z : State} {h : Heap} {w : Addr} {Cc : String} {n : Nat} {a0 : Array Value} (E : Exa Z h w Cc) (wi : (Jvm.Cond.instantiable Cc n).before a0 Z = true) : NotB Z h w := fun t kb z vs d F e => (E.neArv F wi) e.symm
theorem notB_arv {Z : State} {h : Heap} {w : Addr} {k : ClassId} {ty : FieldType} {z : Int32} {vs : List Value} {dv : Value} (V : Arv Z h w k ty z vs dv) (hty : ty ≠ .byte) : NotB Z h w := fun t kb z' vs' d F e => by
  subst e
  obtain ⟨c1, A1, -⟩ := F
  obtain ⟨c2, A2, -⟩ := V
  cases A1.1.symm.trans A2.1
  obtain ⟨-, k1, p1, comp1, q1⟩ := A1.2.1
  obtain ⟨-, k2, p2, comp2, q2⟩ := A2.2.1
  cases p1.symm.trans p2
  rw [q1] at q2
  cases q2
  exact hty rfl
theorem notB_new {Z : State} {h : Heap} {w : Addr} (e : h.size ≤ w) : NotB Z h w := fun t kb z vs d F q => by subst q; exact absurd F.lt (Nat.not_lt.mpr e)
theorem IsStr.keep {Z : State} {h h' : Heap} {a : Addr} {cs : List Int32} {ws : List Addr} (F : IsStr Z h a cs) (K : Keep h h' ws) (q : a ∉ ws) (q' : ∀ w ∈ ws, NotB Z h w) : IsStr Z h' a cs := by
  obtain ⟨f1, f2, f3, f4, t, kb, f5, f6⟩ := F
  exact ⟨f1.keep K, f2.keep K q, f3, f4, t, kb, f5.keep K q, f6.keep K (fun m => q' t m t kb _ _ _ f6 rfl)⟩
theorem IsStr.ext {Z : State} {h h' : Heap} {a : Addr} {cs : List Int32} (F : IsStr Z h a cs) (E : Ext h h') : IsStr Z h' a cs := F.keep ((Keep.refl h []).ext E) (fun m => nomatch m) (fun w m => nomatch m)
theorem IsStr.lt {Z : State} {h : Heap} {a : Addr} {cs : List Int32} (F : IsStr Z h a cs) : a < h.size := F.1.lt
theorem byte_of (n : Nat) (h : n < 256) : Jvm.Lit.byteI n.toUInt16 = (Int32.ofNat n).toInt8.toInt32 := by
  have t : ∀ k : Fin 256, Jvm.Lit.byteI k.val.toUInt16 = (Int32.ofNat k.val).toInt8.toInt32 := by decide +kernel
  exact t ⟨n, h⟩
theorem chr_of (n : Nat) (h : n < 256) : ¬ Int32.ofNat n < 0 ∧ ¬ (255 : Int32) < Int32.ofNat n := by
  have t : ∀ k : Fin 256, ¬ Int32.ofNat k.val < 0 ∧ ¬ (255 : Int32) < Int32.ofNat k.val := by decide +kernel
  exact t ⟨n, h⟩
theorem Sx.slOf {Z T : State} {h : Heap} {Ds : List Addr} {a : Addr} {u : Array UInt16} (F : Sx Z h Ds a u) (hal : Z.vm.Alike T.vm) (e : T.heap = h) : SlOf T a u := by
  obtain ⟨q, cS, h1, h2, ⟨kS, k1, k2, k3⟩, h4, h5, -, -⟩ := F
  obtain ⟨kS', hk', ek⟩ := hal.2.2 _ _ k1
  exact ⟨q, cS, h1, Sl.carry (U := ({ Z with heap := h } : State)) hal (by rw [e]; exact h2.1.1) (by rw [e]; exact h2.1.2.2.2.2.2.2.2.2.2.1) h2, ⟨kS', hk', by rw [ek]; exact k2, by rw [ek]; exact k3⟩, by rw [hal.findClass]; exact h4, h5⟩
theorem Sx.of_in {Z T : State} {Ds : List Addr} {a : Addr} {u : Array UInt16} {lo hi : Nat} (F : SlIn lo hi T a u) (hal : T.vm.Alike Z.vm) (hlo : lo ≤ hi) (ha : hi ≤ a) (hD : ∀ x ∈ Ds, x < hi) : Sx Z T.heap Ds a u := by
  obtain ⟨q, cS, h1, h2, ⟨kS, k1, k2, k3⟩, h4, h5, h6⟩ := F
  obtain ⟨kS', hk', ek⟩ := hal.2.2 _ _ k1
  subst h1
  have hb : hi ≤ q.sd := by
    rcases h6 with ⟨x, -⟩ | ⟨-, y⟩
    · exact absurd (Nat.lt_of_lt_of_le x hlo) (Nat.not_lt.mpr ha)
    · exact y
  exact ⟨q, cS, rfl, Sl.carry (U' := ({ Z with heap := T.heap } : State)) hal h2.1.1 h2.1.2.2.2.2.2.2.2.2.2.1 h2, ⟨kS', hk', by rw [ek]; exact k2, by rw [ek]; exact k3⟩, by rw [hal.findClass]; exact h4, h5, fun m => absurd (hD _ m) (Nat.not_lt.mpr ha), fun m => absurd (hD _ m) (Nat.not_lt.mpr hb)⟩
theorem Sx.str {Z : State} {h : Heap} {Ds : List Addr} {a : Addr} {units : Array UInt16} {text : String} {cs : List Int32} (F : Sx Z h Ds a units) (htext : utf16ToString? units = some text) (hlat : ∀ c ∈ text.toList, c.toNat < 256) (hcs : text.toList.map (fun c => Int32.ofNat c.toNat) = cs) (hlen : cs.length ≤ 4000) : IsStr Z h a cs ∧ a ∉ Ds := by
  obtain ⟨q, cS, hqa, ⟨⟨s1, s2, s3, ⟨cv, kv, iv, s4, s4'⟩, ⟨cc, kc, ic, s5, s5'⟩, s6, s7, s8, s9, s10, s11, s12, s13, s14, s15, s16⟩, hfS, hcS⟩, ⟨kS, k1, k2, k3⟩, hB, hbyt, hn1, hn2⟩ := F
  subst hqa
  have hl := Jvm.ClassFile.lat_of_text htext hlat
  have eu : bytesOfCs cs = units.toList.map fun u => Value.int (Jvm.Lit.byteI u) := by
    rw [Jvm.ClassFile.units_of_text htext hlat, List.map_map, ← hcs]
    show List.map Value.int (List.map (fun c => c.toInt8.toInt32) (List.map (fun c => Int32.ofNat c.toNat) text.toList)) = _
    rw [List.map_map, List.map_map]
    refine List.map_congr_left fun c hc => ?_
    show Value.int ((Int32.ofNat c.toNat).toInt8.toInt32) = Value.int (Jvm.Lit.byteI c.toNat.toUInt16)
    rw [byte_of _ (hlat c hc)]
  have el : cs.length = units.size := by
    have := congrArg List.length eu
    simpa [bytesOfCs] using this
  have hsl : q.SA.slots = units.map fun u => Value.int (Jvm.Lit.byteI u) := by rw [hbyt, SBG.stringBytes_lat hl]; rfl
  have hsz : q.SA.slots.size = units.size := by rw [hsl, Array.size_map]
  have Hh : Has q.SA (bytesOfCs cs) (.int 0) := fun j hj => by
    have hj' : j < units.size := by omega
    rw [hsl, eu]; simp [hj']
  have n32 : (Int32.ofNat cs.length).toNatClampNeg = cs.length := by
    have t : (Int32.ofNat cs.length).toInt = (cs.length : Int) := Int32.toInt_ofNat_small (by omega)
    show (Int32.ofNat cs.length).toInt.toNat = cs.length
    omega
  have nneg : ¬ Int32.ofNat cs.length < 0 := by
    have t : (Int32.ofNat cs.length).toInt = (cs.length : Int) := Int32.toInt_ofNat_small (by omega)
    rw [Int32.lt_iff_toInt_lt]
    have z0 : (0 : Int32).toInt = 0 := rfl
    omega
  refine ⟨⟨⟨q.sC, kS, s1, by rw [hcS]; exact hfS, by rw [hcS]; exact k1, s3, fun _ => k3⟩, ⟨q.sC, cc, kc, ic, q.fSC, s1, s5, s7, s2, s3, s5', s9⟩, ?_, hlen, q.sd, q.SA.cls, ⟨q.sC, cv, kv, iv, q.fSV, s1, s4, s6, s2, s3, s4', s8⟩, ⟨q.SA, ⟨s10, s11, s12⟩, rfl, by rw [hsz, n32, el], nneg, Hh, fun j hj => ?_⟩⟩, hn1⟩
  · intro c hc
    rw [← hcs] at hc
    obtain ⟨ch, h1, rfl⟩ := List.mem_map.mp hc
    exact chr_of _ (hlat ch h1)
  · have e1 := s16 j hj
    have e2 := Hh j hj
    rw [SBG.getD_of e2] at e1
    exact e1
theorem own_atoms {Z s : State} {a0 args : Array Value} (hZ : Z.Warmed39 s.vm) (wS : ∀ a ∈ Bundle.stringAtoms, a.before a0 Z = true) : ∀ a ∈ Bundle.stringAtoms, a.before args s = true := fun d hd => by
  have q := wS d hd
  simp only [Bundle.stringAtoms, List.mem_cons, List.not_mem_nil, or_false] at hd
  rcases hd with rfl | rfl | rfl | rfl | rfl | rfl | rfl
  · exact mv hZ q
  · exact mv hZ q
  · exact mvA hZ q
  · exact mv hZ q
  · exact mv hZ q
  · exact mv hZ q
  · exact mv hZ q
theorem open_stays {s : State} {vm' : Vm} (hW : s.WarmedH vm') {c : ClassId} {k k' : Class} {cf : ClassFile} {idx : Nat} {text : String} (hk : s.vm.classes[c]? = some k) (hk' : vm'.classes[c]? = some k') (hcf : k.cf = some cf) (hnm : namesOf? cf.constantPool idx = some (.string text)) (ho : k.resolved[idx]? = some none) : k'.resolved[idx]? = some none := by
  obtain ⟨-, -, hfw⟩ := hW
  obtain ⟨k2, hk2, -, -, ee, -⟩ := hfw _ k hk
  cases hk2.symm.trans hk'
  rcases ee idx with e0 | ⟨-, r, -, hr⟩
  · exact e0.trans ho
  · exfalso
    cases r <;> simp [State.rightAt, hk, hcf, hnm] at hr
/-- 'ldc' of a String constant at the state at hand -/
theorem ldcNow {p : Program} {l : Launch} {e : Env} {R : Room} {s : State} {m : MethodId} {args : Array Value} {below : List Frame} {meth : Method} {c : Code} {T : State} {locs : List Loc} {cells slots : Nat}
    (X : Stand p l e R s m args below meth c T locs cells slots) (hexec : p.tables.exec = Jvm.exec) {own text : String} {index : Nat} (hown : T.vm.findClass own = some m.cls)
    (hlink : (Jvm.Cond.stringLink own index text).before args T = true) (hS : ∀ a ∈ Bundle.stringAtoms, a.before args T = true) (hheld : ConstHeldL T own index) (hlat : ∀ units : Array UInt16, utf16ToString? units = some text → units.all (· < 256) = true)
    {g : JFrame} (hg : g.method = m) (hdg : decode c.code g.pc = .ok (.ldc index, 2)) {n : Nat} (hn : 4 * text.toList.length ≤ n) (hbig : n ≤ 536870912) (hRcells : cells + 2 ≤ R.cells) (hRslots : slots + (n + 4) ≤ R.slots) :
    ∃ (a : Addr) (T₂ : State), Stand p l e R (s.setVm T₂.vm) m args below meth c T₂ locs (cells + 2) (slots + (n + 4)) ∧ s.Since T₂.vm T₂.heap.size ∧ (∃ k₂, T₂.vm.classes[m.cls]? = some k₂ ∧ k₂.resolved[index]? = some (some (.string a))) ∧
      (∀ a0, a0 < T.heap.size → T₂.heap[a0]? = T.heap[a0]?) ∧ T.heap.size ≤ T₂.heap.size ∧ T.Warmed39 T₂.vm ∧ T.Interned1 T₂ ∧ (T₂.vm.interned = T.vm.interned ∨ ∃ (units : Array UInt16) (a' : Addr), utf16ToString? units = some text ∧ T₂.vm.interned = T.vm.interned.push (units, a')) ∧
      (∃ units : Array UInt16, utf16ToString? units = some text ∧ SlIn T.heap.size T.heap.size T₂ a units) ∧
      ∀ target, Steps p.tables e below (T₂.setTop { g with pc := g.pc + 2, stack := .ref a :: g.stack }) target → Steps p.tables e below (T.setTop g) target := by
  obtain ⟨g₀, hf0⟩ := X.frames_eq
  have hcur : T.cur < T.threads.size := State.cur_lt_of_frames hf0
  obtain ⟨th, hth, -⟩ := State.frames_cons hf0
  have hF : (T.setFrames (.invoking m args :: below)).frames = .invoking m args :: below := State.frames_setFrames _ hcur
  have hme : (T.setFrames (.invoking m args :: below)).me.stackBytes = T.me.stackBytes := by
    simp [State.me, State.setFrames, Array.getElem_modify, hcur]
  have hlim : e.platform.stackLimits (T.setFrames (.invoking m args :: below)).me = e.platform.stackLimits T.me := by
    show e.platform.limitsFor _ = e.platform.limitsFor _
    rw [hme]
  have hroom : (T.setFrames (.invoking m args :: below)).hasRoom e.platform ({ R with cells := R.cells - cells, slots := R.slots - slots } : Room) = true := by
    have h0 := X.room
    have hb := X.book
    have hsz := X.heapSize
    have hus := X.used
    have hU : (T.setFrames (.invoking m args :: below)).localsInUse = s.localsInUse := by
      rw [State.localsInUse_invoking hF (show (T.setFrames (.invoking m args :: below)).vm.method? m = some meth from X.method') X.code, State.localsInUse_invoking X.frames X.method X.code]
    have hfl : (T.setFrames (.invoking m args :: below)).frames.length = s.frames.length := by rw [hF, X.frames]
    unfold State.hasRoom at h0 ⊢
    rw [hU, hfl, hlim, X.limits, hme, X.bytes]
    simp only [Bool.and_eq_true, decide_eq_true_eq] at h0 ⊢
    obtain ⟨⟨⟨⟨q1, q2⟩, q3⟩, q4⟩, q5⟩ := h0
    refine ⟨⟨⟨⟨q1, q2⟩, ?_⟩, ?_⟩, hb⟩
    · show T.heap.size + (R.cells - cells) ≤ _
      omega
    · show T.slotsUsed + (R.slots - slots) ≤ _
      omega
  have hhears : (T.setFrames (.invoking m args :: below)).hears m below = true := by
    have h0 := X.hears
    have hmeth : ∀ mm : MethodId, (T.setFrames (.invoking m args :: below)).vm.method? mm = s.vm.method? mm := fun mm => X.warmed.alike.method? mm
    have hcode : ∀ mm : MethodId, (T.setFrames (.invoking m args :: below)).code? mm = s.code? mm := fun mm => by rw [State.code?_eq, State.code?_eq, hmeth]
    cases hb : below with
    | nil => rw [hb] at h0 hmeth; simp only [State.hears] at h0 ⊢; rw [hmeth]; exact h0
    | cons f r =>
      rw [hb] at h0 hmeth hcode
      cases f <;> simp only [State.hears] at h0 ⊢ <;> first | (rw [hcode]; exact h0) | (rw [hmeth]; exact h0) | exact h0
  have hsame : (T.setFrames (.invoking m args :: below)).sameButNew (T.setVm (T.setFrames (.invoking m args :: below)).vm) [] 0 0 := by
    have hd0 : T.heap.toList.drop T.heap.size = [] := List.drop_eq_nil_of_le (by simp)
    refine ⟨?_, Nat.le_refl _, Nat.le_refl _, ?_, ?_, fun a cl hcl => ⟨cl, hcl, rfl, rfl, fun _ _ => rfl⟩⟩
    · show T = { (T.setFrames (.invoking m args :: below)).setFrames T.frames with heap := T.heap, slotsUsed := T.slotsUsed }
      rw [State.setFrames_setFrames, State.setFrames_self hth]
    · show T.slotsUsed = T.slotsUsed + ((T.heap.toList.drop T.heap.size).map (·.slots.size)).sum
      rw [hd0]; rfl
    · show ((T.heap.toList.drop T.heap.size).map (·.slots.size)).sum ≤ 0
      rw [hd0]; exact Nat.le_refl _
  have X' : Stand p l e ({ R with cells := R.cells - cells, slots := R.slots - slots } : Room) (T.setFrames (.invoking m args :: below)) m args below meth c T [] 0 0 :=
    ⟨X.admits, X.cas, X.clock, hF, hroom, hhears, X.method', X.code, X.here, X.tail, State.WarmedH.refl (T.setFrames (.invoking m args :: below)), hlim.symm, hme.symm, hsame⟩
  obtain ⟨a, T₂, X2, hS2, hres, hkeep, hint1, hint, hin, st⟩ := X'.ldcColdF (fun b cl h => h) hexec (own := own) (text := text) (index := index) hown hlink (own_atoms (Z := T) (s := T.setFrames (.invoking m args :: below)) (State.Warmed39.refl T) hS) hheld hlat hg hdg hn hbig (by show 0 + 2 ≤ R.cells - cells; omega) (by show 0 + (n + 4) ≤ R.slots - slots; omega)
  have hsm : T.sameButNew (T₂.setVm T.vm) [] 2 (n + 4) := by
    have q := X2.same.setVm T.vm
    obtain ⟨r1, r2, r3, r4, r5, r6⟩ := q
    refine ⟨?_, r2, by simpa using r3, r4, by simpa using r5, r6⟩
    refine r1.trans ?_
    show ({ (T.setFrames (.invoking m args :: below)).setFrames T₂.frames with heap := T₂.heap, slotsUsed := T₂.slotsUsed } : State) = _
    rw [State.setFrames_setFrames]
    rfl
  obtain ⟨Y, hSY⟩ := X.movedW (T₂ := T₂) X2.here X2.tail (X2.limits.trans hlim) (X2.bytes.trans hme) hS2.1 hS2.2 hsm
  rw [List.append_nil] at Y
  exact ⟨a, T₂, Y, hSY, hres, hkeep, hint1.1, hS2.1, hint1, hint, hin, st⟩
theorem Rc.ldcS {pc' idx n : Nat} {text : String} {cs : List Int32} (H : Rc C R own bs ml Z n0 ce sl pc Ls S h Ds) (hm : (own, idx) ∈ CL) (w : (Jvm.Cond.stringLink own idx text).before a0 Z = true) (hlat : ∀ c ∈ text.toList, c.toNat < 256) (hcs : text.toList.map (fun c => Int32.ofNat c.toNat) = cs) (hlen : cs.length ≤ 4000)
    (hd : decode bs pc = .ok (.ldc idx, 2)) (hn : 4 * text.toList.length ≤ n) (hbig : n ≤ 536870912) (hc : ce + 2 ≤ R.cells) (hl : sl + (n + 4) ≤ R.slots) (hp : pc + 2 = pc') :
    ∃ (h' : Heap) (a : Addr), Ext h h' ∧ IsStr Z h' a cs ∧ a ∉ Ds ∧ Rc C R own bs ml Z n0 (ce + 2) (sl + (n + 4)) pc' Ls (.ref a :: S) h' Ds := by
  subst hp
  obtain ⟨T, locs, vm0, k0, X, h1, h2, h3, h4, h5, h6, h7, k⟩ := H
  obtain ⟨aS, -, -, -, wS⟩ := h4.2.2.2.1 own idx hm
  have hownB : (C.s.setVm vm0).vm.findClass own = some C.m.cls := h7.2.2.2.1
  have wB : (Jvm.Cond.stringLink own idx text).before C.args (C.s.setVm vm0) = true := mvS (s := C.s) h3 w
  obtain ⟨kB, cf, i, units, hkB, hcf, hpB, hu, hnm, htext, hres⟩ := Cond.stringLink_spec hownB wB
  rcases hres with hopen | ⟨a, hra⟩
  · -- open: the rebased cold law
    have hZT : Z.Warmed39 T.vm := State.Warmed39.trans (t := C.s.setVm vm0) h3 X.warmed.wide
    have JT : JJ Z n0 T.vm h Ds := JJ.warm (t := C.s.setVm vm0) h4 h3 X.warmed
    have hownT : T.vm.findClass own = some C.m.cls := by rw [X.warmed.alike.findClass]; exact hownB
    have wT : (Jvm.Cond.stringLink own idx text).before C.args T = true := mvS (s := T) (vm0 := T.vm) hZT w
    have hheld : ConstHeldL T own idx := fun c k cf i units a q1 q2 q3 q4 q5 q6 => (JT.2.2.2.2 own idx hm c k cf i units a q1 q2 q3 q4 q5 q6).slOf hZT.alike h5
    obtain ⟨a, T₂, X2, hS2, ⟨kk, hkk, hrr⟩, hkeep, hgr, hW2, hint1, hint, ⟨us, htu, hin⟩, st⟩ := ldcNow X h7.1 hownT wT (own_atoms hZT wS) hheld (fun units hu => Jvm.ClassFile.lat_of_text hu hlat) (g := mkF C.m pc Ls S) rfl (hb h7.2.1 hd) hn hbig hc hl
    have E : Ext h T₂.heap := by rw [← h5]; exact ext_of hkeep
    have sameU : ∀ u v : Array UInt16, utf16ToString? u = some text → utf16ToString? v = some text → u = v := fun u v hu hv => by
      apply Array.toList_inj.mp
      rw [Jvm.ClassFile.units_of_text hu hlat, Jvm.ClassFile.units_of_text hv hlat]
    -- the entry, as T and as T₂ have it
    obtain ⟨kT, cfT, iT, unT, hkT, hcfT, hpT, huT, hnmT, htT, hresT⟩ := Cond.stringLink_spec hownT wT
    obtain ⟨k2, hk2, hke2, -, ee2, -⟩ := hW2.2.2.2 _ kT hkT
    cases hk2.symm.trans hkk
    have hcl : NL = true → Z.WarmedH T₂.vm := fun e => by first | exact absurd e (by decide) | exact absurd hm (List.not_mem_nil)
    have hintJ : T₂.vm.interned = T.vm.interned ∨ ∃ (u : Array UInt16) (a' : Addr), T₂.vm.interned = T.vm.interned.push (u, a') ∧ (T.vm.interned.find? (fun p => p.1 == u) = none → Sx Z T₂.heap Ds a' u) := by
      rcases hint with e | ⟨u, a', hu', e⟩
      · exact Or.inl e
      · refine Or.inr ⟨u, a', e, fun hnone => ?_⟩
        have ha' : T.heap.size ≤ a' := by
          rcases hint1.2 with q | ⟨u2, a2, q, r1, -⟩
          · rw [q] at e
            have := congrArg Array.size e
            simp at this
          · have := q.symm.trans e
            have := Array.push_inj_right.mp this
            cases this
            exact r1
        -- a is a'
        have hopT : kT.resolved[idx]? = some none := open_stays X.warmed hkB hkT hcf hnm hopen
        have eu : u = unT := sameU _ _ hu' htT
        have eus : us = u := sameU _ _ htu hu'
        have haa : a = a' := by
          rcases ee2 idx with e0 | ⟨-, r, e1, hr | ⟨a3, t3, si, us3, rfl, -, z3, z4, z5⟩⟩
          · have := (e0.trans hopT).symm.trans hrr
            simp at this
          · exfalso
            cases r <;> simp [State.rightAt, hkT, hcfT, hnmT] at hr
          · rw [hcfT] at z3 z4
            have e3 : si = iT := by
              have := z3.symm.trans hpT
              simpa using this
            subst e3
            have e4 : us3 = unT := by simpa [ConstantPool.utf8?, huT] using z4.symm
            subst e4
            have ea : a3 = a := by have := e1.symm.trans hrr; simpa using this
            subst ea
            rw [e, Array.find?_push, ← eu, hnone, Option.none_or] at z5
            simp at z5
            exact z5.symm
        subst haa
        rw [← eus]
        exact Sx.of_in hin (State.Warmed39.trans hZT hW2).alike.symm (Nat.le_refl _) ha' (fun x hx => by rw [h5]; exact (h4.2.2.1 x hx).2)
    have J2 : JJ Z n0 T₂.vm T₂.heap Ds := (JT.ext E).step hZT hW2 hintJ hcl
    have hcf2 : kk.cf = some cfT := by rw [hke2]; exact hcfT
    have hown2 : T₂.vm.findClass own = some C.m.cls := by rw [hW2.alike.findClass]; exact hownT
    have SX := J2.2.2.2.2 own idx hm _ kk cfT iT unT a hown2 hkk hcf2 hpT huT (Or.inl hrr)
    obtain ⟨hstr, hnin⟩ := SX.str htT hlat hcs hlen
    exact ⟨T₂.heap, a, E, hstr, hnin, T₂, locs, T₂.vm, T₂.heap.size, X2, h1.trans hS2 (Nat.le_trans h2 E.1), Nat.le_refl _, State.Warmed39.trans hZT hW2, J2, rfl, h6, ⟨h7.1, h7.2.1, h7.2.2.1, hown2, h7.2.2.2.2⟩, fun t ht => k _ (st _ ht)⟩
  · -- resolved already
    have SX := h4.2.2.2.2 own idx hm _ kB cf i units a hownB hkB hcf hpB hu (Or.inl hra)
    obtain ⟨hstr, hnin⟩ := SX.str htext hlat hcs hlen
    have L : Lit (C.s.setVm vm0) own idx a := by
      have hkB' : vm0.classes[C.m.cls]? = some kB := hkB
      have hown' : vm0.findClass own = some C.m.cls := hownB
      simp [Lit, State.resolvedAt?, State.setVm, hown', hkB', hra]
    have st := ldcAgain X h7.1 h3 h7.2.2.2.1 w L (g := mkF C.m pc Ls S) rfl (hb h7.2.1 hd)
    exact ⟨h, a, ⟨Nat.le_refl _, fun _ _ q => q⟩, hstr, hnin, T, locs, vm0, k0, X.mono (by omega) (by omega), h1, h2, h3, h4, h5, h6, h7, fun t ht => k _ (st _ ht)⟩
theorem own_sx0 {s : State} {a : Addr} {units : Array UInt16} (F : SlOf s a units) : Sx s s.heap [] a units := by
  obtain ⟨q, cS, h1, h2, h3, h4, h5⟩ := F
  exact ⟨q, cS, h1, h2, h3, h4, h5, by simp, by simp⟩
theorem ch0 : ∀ c ∈ ([] : List Int32), ¬ c < 0 ∧ ¬ (255 : Int32) < c := fun c hc => nomatch hc
theorem chS {x : Int32} {cs : List Int32} (p : ¬ x < 0 ∧ ¬ (255 : Int32) < x) (q : ∀ c ∈ cs, ¬ c < 0 ∧ ¬ (255 : Int32) < c) : ∀ c ∈ x :: cs, ¬ c < 0 ∧ ¬ (255 : Int32) < c := fun c hc => by
  rcases List.mem_cons.mp hc with e | e
  · rw [e]; exact p
  · exact q c e
def bi (b : Bool) : Int32 := if b then 1 else 0
theorem bi_nar (b : Bool) : nar .boolean (bi b) = bi b := by cases b <;> rfl
theorem memS {n : Addr} {Ns Ds : List Addr} (h : n ∈ Ds) (f : ∀ x ∈ Ns, x ∈ Ds) : ∀ x ∈ n :: Ns, x ∈ Ds := fun x hx => by
  rcases List.mem_cons.mp hx with e | e
  · rw [e]; exact h
  · exact f x e
theorem own_toInt {x : Int32} (h : ¬ x < 0 ∧ ¬ (255 : Int32) < x) : 0 ≤ x.toInt ∧ x.toInt ≤ 255 := by
  obtain ⟨h1, h2⟩ := h
  rw [Int32.lt_iff_toInt_lt] at h1 h2
  have e0 : (0 : Int32).toInt = 0 := rfl
  have e1 : (255 : Int32).toInt = 255 := rfl
  omega
theorem ofFin {x : Int32} (h : ¬ x < 0 ∧ ¬ (255 : Int32) < x) : ∃ k : Fin 256, x = Int32.ofNat k.val := by
  have b := own_toInt h
  refine ⟨⟨x.toInt.toNat, by omega⟩, ?_⟩
  apply Int32.toInt_inj.mp
  rw [Int32.toInt_ofNat_of_lt (by show x.toInt.toNat < _; omega)]
  show x.toInt = (x.toInt.toNat : Int)
  omega
theorem nar_of {x : Int32} (h : ¬ x < 0 ∧ ¬ (255 : Int32) < x) : nar .char x = x := by
  obtain ⟨k, rfl⟩ := ofFin h
  revert k; decide +kernel
theorem own_nr {ty : FieldType} {v : Value} (ht : ty.isReference = true) (hv : v.isRef = true) : narrow ty v = v := by
  rcases ref_cases hv with rfl | ⟨_, rfl⟩ <;> cases ty <;> first | rfl | cases ht
theorem own_fr {ty : FieldType} {v : Value} (ht : ty.isReference = true) (hv : v.isRef = true) : fits ty v = true := by
  rcases ref_cases hv with rfl | ⟨_, rfl⟩ <;> cases ty <;> first | rfl | cases ht
theorem own_nsroot {Z : State} {a0 : Array Value} {O K : String} {n : Nat} (w : (Jvm.Cond.noSuperclass O).before a0 Z = true) (wi : (Jvm.Cond.instantiable K n).before a0 Z = true) (hn : O ≠ K) : NS Z O K := by
  obtain ⟨c, k, h1, h2, h3, -, -⟩ := Cond.noSuperclass_spec w
  obtain ⟨t, kt, g1, -⟩ := Cond.instantiable_spec wi
  have ne := ids_ne h1 g1 hn
  refine ⟨c, t, h1, g1, fun fuel => ?_⟩
  cases fuel with
  | zero => rfl
  | succ f => simp [Vm.isSubclassAux, ne, h2, h3]
theorem own_nsno {Z : State} {a0 : Array Value} {Cc S K : String} {m : Nat} (w : (Jvm.Cond.superclass Cc S).before a0 Z = true) (wi : (Jvm.Cond.instantiable K m).before a0 Z = true) (n : NS Z Cc K) (hn : Cc ≠ K) : ∃ c t, Z.vm.findClass Cc = some c ∧ Z.vm.findClass K = some t ∧ Z.vm.assignable c t = false := by
  obtain ⟨c, t, h0, g0, n3⟩ := n
  obtain ⟨p, k, kp, h1, h2, h3, h4, h5, -, h7⟩ := Cond.superclass_spec h0 w
  obtain ⟨t', k', g1, g2, g5, g7, -⟩ := Cond.instantiable_spec wi
  cases g0.symm.trans g1
  have g8 : k'.isInterface = false := by simp only [Bool.or_eq_false_iff] at g7; exact g7.1
  have ne := ids_ne h0 g0 hn
  refine ⟨c, t, h0, g0, ?_⟩
  show Z.vm.assignableAux (255 + 1) c t = false
  simp [Vm.assignableAux, ne, h2, g2, h5, g5, g8, Vm.isSubclass, n3]
/-! clones of arrays; more steps -/
theorem arv_of_arh {Z : State} {h : Heap} {a : Addr} {k : ClassId} {ty : FieldType} {z : Int32} {vs : List Value} {dv : Value} (F : Arh Z h a k ty z [] vs dv) : Arv Z h a k ty z vs dv := F
theorem Rc.clone {pc' idx W cap : Nat} {ad : String} {a : Addr} {kA : ClassId} {ty : FieldType} {z : Int32} {vs : List Value} {dv : Value} (H : Rc C R own bs ml Z n0 ce sl pc Ls (.ref a :: rest) h Ds)
    (w1 : (Jvm.Cond.methodLink own idx ⟨ad, "clone", "()Ljava/lang/Object;"⟩).before a0 Z = true) (w2 : (Jvm.Cond.sameMethod ad "java/lang/Object" "clone" "()Ljava/lang/Object;").before a0 Z = true) (w3 : (Jvm.Cond.native ⟨"java/lang/Object", "clone", "()Ljava/lang/Object;"⟩).before a0 Z = true)
    (w4 : (Jvm.Cond.instanceMethod ⟨"java/lang/Object", "clone", "()Ljava/lang/Object;"⟩).before a0 Z = true) (w5 : (Jvm.Cond.selects ad ⟨ad, "clone", "()Ljava/lang/Object;"⟩ ⟨"java/lang/Object", "clone", "()Ljava/lang/Object;"⟩).before a0 Z = true) (w6 : (Jvm.Cond.castable ad "java/lang/Cloneable").before a0 Z = true)
    (V : Arv Z h a kA ty z vs dv) (E : Exa Z h a ad) (hsz : Ls.size = ml) (hd : decode bs pc = .ok (.invokevirtual idx, 3)) (hf : 1 ≤ R.frames) (hW : (rest.map fun v => v.category).sum = W) (hl : W + 14 ≤ R.locals) (hcap : z.toNatClampNeg ≤ cap) (hc : ce + 1 ≤ R.cells) (hsl : sl + cap ≤ R.slots) (hp : pc + 3 = pc') :
    ∃ (h' : Heap) (b : Addr), b = h.size ∧ Ext h h' ∧ Arv Z h' b kA ty z vs dv ∧ Exa Z h' b ad ∧ Rc C R own bs ml Z n0 (ce + 1) (sl + cap) pc' Ls (.ref b :: rest) h' (b :: Ds) := by
  subst hp
  obtain ⟨T, locs, vm0, k0, X, h1, h2, h3, h4, h5, h6, h7, k⟩ := H
  obtain ⟨T', h', X', e', E', A', F', st⟩ := RoadKit.cloneH X h7.1 (Z := Z) h3 h7.2.2.2.1 w1 w2 w3 w4 w5 w6 h5 V.arh E (g := mkF C.m pc Ls (.ref a :: rest)) rfl (hsz.trans h7.2.2.1.symm) rfl (hb h7.2.1 hd) hf (W := W) (by show 2 * 0 + _ ≤ _; omega) hl hcap hc hsl
  exact ⟨h', h.size, rfl, E', arv_of_arh A', F', T', _, vm0, k0, X', h1, Nat.le_trans h2 E'.1, h3, h4.born E' F'.lt, e', h6, h7, fun t ht => k _ (st _ ht)⟩
theorem Rc.ldc2L {pc' idx : Nat} {v : Int64} (H : Rc C R own bs ml Z n0 ce sl pc Ls S h Ds) (w : (Jvm.Cond.constantLong own idx v).before a0 Z = true) (hd : decode bs pc = .ok (.ldc2_w idx, 3)) (hp : pc + 3 = pc') : Rc C R own bs ml Z n0 ce sl pc' Ls (.long v :: S) h Ds := by
  subst hp
  exact H.goX fun s T locs t X hZ hown eT hx hby kk => X.ldc2Long hx hown (mvT hZ w) (g := mkF C.m pc Ls S) rfl (hb hby hd) _ kk
theorem Rc.ldcI {pc' idx : Nat} {v : Int32} (H : Rc C R own bs ml Z n0 ce sl pc Ls S h Ds) (w : (Jvm.Cond.constant own idx v).before a0 Z = true) (hd : decode bs pc = .ok (.ldc idx, 2)) (hp : pc + 2 = pc') : Rc C R own bs ml Z n0 ce sl pc' Ls (.int v :: S) h Ds := by
  subst hp
  exact H.goX fun s T locs t X hZ hown eT hx hby kk => X.ldcInt hx hown (mvT hZ w) (g := mkF C.m pc Ls S) rfl (hb hby hd) _ kk
/-! the case's words, read -/
section GivenWords
variable {s : State} {args : Array Value} {t u : Term} {a b : Addr} {cl : Cell} {ty : FieldType} {i k : Int32} {v : Value} {Cc n d : String}
theorem g_int (h : (Jvm.Cond.eq t (.int k)).value args s none s [] = some true) : t.eval args s none [] s = some (.int k) := Cond.eq_int (Cond.before_iff.mpr h) rfl
theorem g_ref (h : (Jvm.Cond.eq t u).value args s none s [] = some true) (hu : u.eval args s none [] s = some (.ref b)) : t.eval args s none [] s = some (.ref b) := by
  obtain ⟨x, y, h1, h2, h3, h4⟩ := cmp_v (Or.inl h)
  rw [hu] at h2
  cases h2
  have hx : x.isRef = true := by
    cases x <;> simp_all [Kin, Value.isRef]
  have q := gotT (eq_R h1 hu hx rfl) h
  rw [h1, q]
theorem g_fld (ht : t.eval args s none [] s = some (.ref a)) (e : (Term.field t Cc n d).eval args s none [] s = some v) : Fld s s.heap a Cc n d v := Fld.start (by rw [← fld_at (args := args) (first := s) (o := none) (idx := []) (C := Cc) (n := n) (dd := d) ht]; exact e)
theorem g_elem (e : (Term.elem t (.int i)).eval args s none [] s = some v) (ht : t.eval args s none [] s = some (.ref a)) (A : Arr s s.heap a cl ty) : cl.slots[i.toNatClampNeg]? = some v := (elem_in e ht rfl A.1).2
theorem g_len (e : (Term.length t).eval args s none [] s = some (.int k)) (ht : t.eval args s none [] s = some (.ref a)) (A : Arr s s.heap a cl ty) : cl.slots.size < 2 ^ 31 ∧ cl.slots.size.toInt32 = k := by
  have ha : s.arrayAt? a = some cl := A.fin (own_al s)
  have hl : cl.slots.size < 2 ^ 31 := SBG.length_lt ht ha e
  have q := len_f ht ha hl
  rw [q] at e
  exact ⟨hl, by simpa using e⟩
theorem g_str {cs : List Int32} {kb : ClassId} {b' : Addr} (X : Exa s s.heap a "java/lang/String") (Fc : Fld s s.heap a "java/lang/String" "coder" "B" (.int 0)) (Fv : Fld s s.heap a "java/lang/String" "value" "[B" (.ref b')) (V : Arv s s.heap b' kb .byte (Int32.ofNat cs.length) (bytesOfCs cs) (.int 0)) (h1 : ∀ c ∈ cs, ¬ c < 0 ∧ ¬ (255 : Int32) < c) (h2 : cs.length ≤ 4000) : IsStr s s.heap a cs := ⟨X, Fc, h1, h2, b', kb, Fv, V⟩
end GivenWords
/-! iaload; a call of a private instance method -/
theorem Rc.iaload {pc' : Nat} {a : Addr} {j z : Int32} {v : Value} {kA : ClassId} {vs : List Value} {dv : Value} (H : Rc C R own bs ml Z n0 ce sl pc Ls (.int j :: .ref a :: rest) h Ds) (V : Arv Z h a kA .int z vs dv) (hj : ¬ j < 0 ∧ j < z) (hv : vs.getD j.toNatClampNeg dv = v) (hd : decode bs pc = .ok (.iaload, 1)) (hp : pc + 1 = pc') : Rc C R own bs ml Z n0 ce sl pc' Ls (v :: rest) h Ds := by
  subst hp
  obtain ⟨cl, Ar, q1, q2, q3, q4, q5⟩ := V
  exact H.goX fun s T locs t X hZ hown eT hx hby kk => X.iaload hx (j := j) (v := v) (by rw [eT]; exact Ar.1) (State.isArrayOf_alike hZ.alike Ar.2.1) Ar.2.2 (inb_of q2 hj) (q4.at (inb_of q2 hj) hv) (g := mkF C.m pc Ls (.int j :: .ref a :: rest)) rfl rfl (hb hby hd) _ kk
theorem Rc.callP {pc' : Nat} {y : MethodName} {idx ml' W : Nat} {by' : ByteArray} {ret' : Option FieldType} {rm : Room} {a : Addr} {argsL : List Value} {Q : Option Value → Heap → List Addr → Prop} (H : Rc C R own bs ml Z n0 ce sl pc Ls S h Ds)
    (hlink : (Jvm.Cond.methodLink own idx y).before a0 Z = true) (hpriv : (Jvm.Cond.privateMethod y).before a0 Z = true) (hsel : (Jvm.Cond.selects y.cls y y).before a0 Z = true) (hinst : (Jvm.Cond.instanceMethod y).before a0 Z = true) (hinit : (Jvm.Cond.initialized y.cls).before a0 Z = true) (hcode : (Jvm.Cond.code y by' ml' ret').before a0 Z = true) (hy : NoMH y)
    (E : Exa Z h a y.cls) (K : Ctr C.l Z y by' ml' ret' [] rm (.ref a :: argsL).toArray h n0 Ds Q) (hsz : Ls.size = ml) (hlen : ∀ sig, parseMethodDescriptor y.desc = some sig → argsL.length = sig.parameters.length) (hst : S = argsL.reverse ++ .ref a :: rest) (hW : (rest.map fun v => v.category).sum = W)
    (hd : decode bs pc = .ok (.invokevirtual idx, 3)) (hfr : rm.frames + 1 ≤ R.frames) (hlo : W + (ml' + 11) + rm.locals ≤ R.locals) (hce : ce + rm.cells ≤ R.cells) (hsl : sl + rm.slots ≤ R.slots) (hp : pc + 3 = pc') :
    ∃ (v : Option Value) (h' : Heap) (Ds' : List Addr), Q v h' Ds' ∧ Rc C R own bs ml Z n0 (ce + rm.cells) (sl + rm.slots) pc' Ls (v.toList ++ rest) h' Ds' := by
  subst hp hst
  obtain ⟨T, locs, vm0, k0, X, h1, h2, h3, h4, h5, h6, h7, k⟩ := H
  obtain ⟨cq, kq, qa, qb, ⟨cellB, hcellT, hclsB, hstatB⟩⟩ := isOf (s := C.s.setVm vm0) h3 h5 E
  obtain ⟨v, vm₁, B, hw1, X', hS', hgr, hq, st⟩ := X.privateBackS h7.1 (y := y) h7.2.2.2.1 (mvT (s := C.s.setVm vm0) h3 hlink) (mvT (s := C.s.setVm vm0) h3 hinst) (mvT (s := C.s.setVm vm0) h3 hsel) (Cond.privateMethod_at (args := C.args) (mvT (s := C.s.setVm vm0) h3 hpriv)) (mvT (s := C.s.setVm vm0) h3 hcode) hy (ctrBack (s := C.s.setVm vm0) (W := W) K h3 h4 hcode hinit hfr hlo) (g := mkF C.m pc Ls (argsL.reverse ++ .ref a :: rest)) rfl (hsz.trans h7.2.2.1.symm) (Steps.refl _) hcellT (fun z h => by rw [h] at hstatB; cases hstatB) hlen rfl (by show 2 * 0 + _ ≤ _; omega) (hb h7.2.1 hd) (fun vm₁ hw => ⟨rfl, h5, hce, hsl⟩)
  exact own_fin h1 h2 h3 h5 h6 h7 k X' hS' hgr hq st
/-! calls of a superclass's method; of a private method on a subclass's object; System.arraycopy of bytes -/
theorem own_decl {y : MethodName} {by' : ByteArray} {ml' : Nat} {ret' : Option FieldType} (wi : (Jvm.Cond.instanceMethod y).before a0 Z = true) (wc : (Jvm.Cond.code y by' ml' ret').before a0 Z = true) : (Jvm.Cond.declares y).before a0 Z = true := by
  obtain ⟨mk, methM, hnamed, hmethM, hstM, habM⟩ := Cond.instanceMethod_spec wi
  obtain ⟨m2, cM, q1, -, -, -, -, -, -, hsig⟩ := Cond.code_spec hnamed wc
  cases hmethM.symm.trans q1
  simp [Cond.before, Cond.holds, Cond.value, hnamed, hmethM, hstM, hsig]
theorem own_nf {s : State} {args : Array Value} {y y' : MethodName} {Cc : String} (ws : (Jvm.Cond.selects Cc y' y').before args s = true) (hc : y'.cls = y.cls) : NotFace s y := fun r0 h0 => by
  obtain ⟨c2, r2, m2, q1, q2, q3, q4, kP, hkP, hkPi⟩ := Cond.selects_spec ws
  have a1 := findClass_of_methodNamed h0
  have a2 := findClass_of_methodNamed q3
  rw [hc, a1] at a2
  have e := Option.some.inj a2
  exact ⟨kP, by rw [e]; exact hkP, hkPi⟩
theorem own_same {y y' : MethodName} {Cc : String} (wi : (Jvm.Cond.instanceMethod y).before a0 Z = true) (ws : (Jvm.Cond.selects Cc y' y').before a0 Z = true) (hc : y'.cls = y.cls) (hy : NoMH y) : (Jvm.Cond.sameMethod y.cls y.cls y.name y.desc).before a0 Z = true := by
  obtain ⟨mk, methM, hnamed, hmethM, hstM, habM⟩ := Cond.instanceMethod_spec wi
  have hf := State.methodFound?_of_named hnamed hy
  have hcn := findClass_of_methodNamed hnamed
  obtain ⟨kp, hp, hpi⟩ := own_nf ws hc mk hnamed
  have hn' : Z.methodNamed? ⟨y.cls, y.name, y.desc⟩ = some mk := hnamed
  simp [Cond.before, Cond.holds, Cond.value, hcn, hf, hn', hp, hpi]
theorem Rc.callSup {pc' : Nat} {y : MethodName} {Cc : String} {idx ml' W : Nat} {by' : ByteArray} {ret' : Option FieldType} {rm : Room} {a : Addr} {argsL : List Value} {Q : Option Value → Heap → List Addr → Prop} (H : Rc C R own bs ml Z n0 ce sl pc Ls S h Ds) (hn : y.name ≠ "<init>")
    (hlink : (Jvm.Cond.methodLink own idx y).before a0 Z = true) (hsame : (Jvm.Cond.sameMethod y.cls y.cls y.name y.desc).before a0 Z = true) (hsup : (Jvm.Cond.superclass own y.cls).before a0 Z = true) (hinst : (Jvm.Cond.instanceMethod y).before a0 Z = true) (hinit : (Jvm.Cond.initialized y.cls).before a0 Z = true) (hcode : (Jvm.Cond.code y by' ml' ret').before a0 Z = true)
    (E : Exa Z h a Cc) (K : Ctr C.l Z y by' ml' ret' [] rm (.ref a :: argsL).toArray h n0 Ds Q) (hsz : Ls.size = ml) (hlen : ∀ sig, parseMethodDescriptor y.desc = some sig → argsL.length = sig.parameters.length) (hst : S = argsL.reverse ++ .ref a :: rest) (hW : (rest.map fun v => v.category).sum = W)
    (hd : decode bs pc = .ok (.invokespecial idx, 3)) (hfr : rm.frames + 1 ≤ R.frames) (hlo : W + (ml' + 11) + rm.locals ≤ R.locals) (hce : ce + rm.cells ≤ R.cells) (hsl : sl + rm.slots ≤ R.slots) (hp : pc + 3 = pc') :
    ∃ (v : Option Value) (h' : Heap) (Ds' : List Addr), Q v h' Ds' ∧ Rc C R own bs ml Z n0 (ce + rm.cells) (sl + rm.slots) pc' Ls (v.toList ++ rest) h' Ds' := by
  subst hp hst
  obtain ⟨T, locs, vm0, k0, X, h1, h2, h3, h4, h5, h6, h7, k⟩ := H
  obtain ⟨v, vm₁, B, hw1, X', hS', hgr, hq, st⟩ := RoadKit.superBackS X h7.1 (Z := Z) h3 h7.2.2.2.1 hlink hsame hinst hsup hn (ctrBack (s := C.s.setVm vm0) (W := W) K h3 h4 hcode hinit hfr hlo) h5 (Ins.self E) (g := mkF C.m pc Ls (argsL.reverse ++ .ref a :: rest)) rfl (hsz.trans h7.2.2.1.symm) hcode hlen rfl (by show 2 * 0 + _ ≤ _; omega) (hb h7.2.1 hd) (fun vm₁ hw => ⟨rfl, h5, hce, hsl⟩)
  exact own_fin h1 h2 h3 h5 h6 h7 k X' hS' hgr hq st
theorem Rc.copyB {pc' idx W : Nat} {a b : Addr} {sp dp nn z z' : Int32} {kA kB : ClassId} {vs vd us : List Value} {dv dd : Value} {ty : FieldType} (H : Rc C R own bs ml Z n0 ce sl pc Ls (.int nn :: .int dp :: .ref b :: .int sp :: .ref a :: rest) h Ds)
    (w1 : (Jvm.Cond.methodLink own idx Jvm.Stand.acN).before a0 Z = true) (w2 : (Jvm.Cond.native Jvm.Stand.acN).before a0 Z = true) (w3 : (Jvm.Cond.static Jvm.Stand.acN).before a0 Z = true) (w4 : (Jvm.Cond.initialized "java/lang/System").before a0 Z = true)
    (A : Arv Z h a kA ty z vs dv) (B : Arv Z h b kB ty z' vd dd) (hty : refKind ty = false) (g1 : ¬ sp < 0) (g2 : ¬ dp < 0) (g3 : ¬ nn < 0) (g4 : sp.toNatClampNeg + nn.toNatClampNeg ≤ z.toNatClampNeg) (g5 : dp.toNatClampNeg + nn.toNatClampNeg ≤ z'.toNatClampNeg)
    (hus : us = (List.range nn.toNatClampNeg).map fun i => vs.getD (sp.toNatClampNeg + i) dv) (hl : dp.toNatClampNeg + nn.toNatClampNeg ≤ vd.length) (hbm : b ∈ Ds) (hsz : Ls.size = ml) (hd : decode bs pc = .ok (.invokestatic idx, 3)) (hf : 1 ≤ R.frames) (hW : (rest.map fun v => v.category).sum = W) (hlo : W + (nativeFrameWords "java/lang/System" "arraycopy" 5 + 11) ≤ R.locals) (hp : pc + 3 = pc') :
    ∃ h', Keep h h' [b] ∧ Arv Z h' b kB ty z' (vd.take dp.toNatClampNeg ++ us ++ vd.drop (dp.toNatClampNeg + nn.toNatClampNeg)) dd ∧ Rc C R own bs ml Z n0 ce sl pc' Ls rest h' Ds := by
  subst hp
  obtain ⟨T, locs, vm0, k0, X, h1, h2, h3, h4, h5, h6, h7, k⟩ := H
  obtain ⟨T', h', L, X', e', hFr, K', V', st⟩ := RoadKit.cpA X h7.1 (Z := Z) h3 h7.2.2.2.1 w1 w2 w3 w4 h5 A B (Or.inl ⟨rfl, hty⟩) g1 g2 g3 g4 g5 hus hl h6 (h4.2.2.1 b hbm).1 (g := mkF C.m pc Ls (.int nn :: .int dp :: .ref b :: .int sp :: .ref a :: rest)) rfl (hsz.trans h7.2.2.1.symm) rfl (hb h7.2.1 hd) hf (W := W) (by show 2 * 0 + _ ≤ _; omega) hlo
  exact ⟨h', K', V', T', L, vm0, k0, X', h1, Nat.le_trans h2 K'.1, h3, h4.keep K' (own_ws1 hbm), e', hFr, h7, fun t ht => k _ (st _ ht)⟩
/-! a lambda that captures values (never called here); ctr_of with the method's own name -/
theorem ctr_ofN {l : Launch} {Z : State} {y : MethodName} {bytes : ByteArray} {maxL : Nat} {ret : Option FieldType} {ws : List Jvm.Cond} {rm : Room} {as' : Array Value} {h : Heap} {n0 : Nat} {Ds : List Addr} {Q : Option Value → Heap → List Addr → Prop} {Ls : Array Slot}
    (pf : plainFor y = true) (ef : ∀ m : MethodId, entryFrame m as' maxL = mkF m 0 Ls [])
    (wk : ∀ C : Cx, C.l = l → C.meth.sig.returnType = ret → C.meth.name = y.name → C.s.methodNamed? y = some C.m → Rc C rm y.cls bytes maxL Z n0 0 0 0 Ls [] h Ds → Done C Z n0 Q rm.cells rm.slots) : Ctr l Z y bytes maxL ret ws rm as' h n0 Ds Q := by
  refine MetFree.of_bodySF pf hisR ?_
  intro p e s m args below meth c s₁ Bd hml0 hP hK
  obtain ⟨rfl, hZ, hh, hJ⟩ := hP
  have X0 : Stand p l e rm s m args below meth c s₁ [] 0 0 := Stand.of_body Bd
  have e0 : s₁.heap = h := by rw [← hh, Bd.state]; rfl
  have hown : s.vm.findClass y.cls = some m.cls := findClass_of_methodNamed Bd.named
  have hnm := (name_of_methodNamed Bd.named Bd.method).1
  have hlk : meth.locks = false := BodyLoose.notSynchronized Bd
  exact wk (p, l, e, s, m, args, below, meth, c, s₁.setTop (entryFrame m args maxL)) rfl Bd.returns hnm Bd.named
    ⟨s₁, [], s.vm, 0, X0, (State.WarmedH.refl s).since 0, Nat.zero_le _, hZ, hJ, e0, Fr.nil n0, ⟨Bd.exec, Bd.bytes, hml0, hown, hlk⟩, fun t k => castTop (ef m) k⟩
theorem Rc.lam {pc' idx fi W : Nat} {x : MethodName} {σ : Lambda.Shape} {vals : List Value} (H : Rc C R own bs ml Z n0 ce sl pc Ls S h Ds) (hmn : C.s.methodNamed? x = some C.m) (w : (Jvm.Cond.lambdaSite x pc idx σ).before a0 Z = true) (hcap : σ.captured ≠ []) (hok : Jvm.LamKit.capOK σ x.cls fi 0 = true) (wO : (Jvm.Cond.instantiable "java/lang/Object" 0).before a0 Z = true)
    (hsz : Ls.size = ml) (hlen : vals.length = σ.captured.length) (hst : S = vals.reverse ++ rest) (hfit : ∀ (i : Nat) t v, σ.captured[i]? = some t → vals[i]? = some v → narrow t v = v ∧ fits t v = true) (hd : decode bs pc = .ok (.invokedynamic idx, 5)) (hW : (S.map fun v => v.category).sum = W) (hlo : W + 3072 ≤ R.locals) (hc : ce + 1 ≤ R.cells) (hl : sl + vals.length ≤ R.slots) (hp : pc + 5 = pc') :
    ∃ (h' : Heap) (b : Addr), b = h.size ∧ Ext h h' ∧ Rc C R own bs ml Z n0 (ce + 1) (sl + vals.length) pc' Ls (.ref b :: rest) h' (b :: Ds) := by
  subst hp hst
  obtain ⟨T, locs, vm0, k0, X, h1, h2, h3, h4, h5, h6, h7, k⟩ := H
  subst h5
  obtain ⟨cK, one, hat⟩ := Cond.lambdaSite_spec w
  obtain ⟨mD, kD, cfD, i0, p0, lk, hmD, hkD, hcfD, hsh, -, hfind, hmade, hcan, hl'⟩ := State.lambdaAt?_spec hat
  have hm0 : (C.s.setVm vm0).methodNamed? x = some C.m := (State.methodNamed?_setVm h1.1.alike x).trans hmn
  have hmZ : (C.s.setVm vm0).methodNamed? x = some mD := ((State.methodNamed?_setVm h3.alike x).trans hmD : (Z.setVm vm0).methodNamed? x = some mD)
  have hmm : C.m = mD := Option.some.inj (hm0.symm.trans hmZ)
  rw [← hmm] at hkD hfind hmade
  obtain ⟨kD', hkD', hnameD⟩ := className_of_methodNamed hmD
  rw [← hmm] at hkD'
  cases hkD.symm.trans hkD'
  rcases hl' with ⟨a, cell, -, -, hc0, -⟩ | ⟨rfl, -, -⟩
  · exact absurd hc0 hcap
  · obtain ⟨b, nt, desc, site, q1, q2, q3, q4⟩ := Jvm.Lambda.shapeOf?_site hsh
    obtain ⟨kc, f, hkc, hkind, hty, -⟩ := Jvm.LamKit.made_cap hok hkD hnameD hmade (Jvm.LamKit.noFields wO (State.WarmedH.refl Z))
    obtain ⟨kS, hkS, eS⟩ := h3.alike.2.2 _ _ hkD
    obtain ⟨kcS, hkcS, ecS⟩ := h3.alike.2.2 _ _ hkc
    have et : kcS.instanceTypes = σ.captured.toArray := by rw [ecS]; exact hty
    have ek : kcS.kind = .ordinary := by rw [ecS]; exact hkind
    have hz : ((kcS.instanceTypes.toList.zip vals).map fun (t, v) => narrow t v) = vals := by rw [et]; exact Jvm.LamKit.zip_narrow _ _ hlen fun i t v a b => (hfit i t v a b).1
    have hw : C.e.platform.lambdaLinkWords = 3072 := by rw [X.admits.platform]
    have q := X.lambdaMakes h7.1 (g := mkF C.m pc Ls (vals.reverse ++ rest)) rfl (hsz.trans h7.2.2.1.symm) (hb h7.2.1 hd) (vals := vals) (rest := rest) hkS (by rw [eS]; exact hfind) (by rw [eS]; exact hcfD) q1 q2 (parseLong_of_parse q3) (by rw [q4]; exact hlen) rfl hkcS (by rw [hw]; show 2 * 0 + ((vals.reverse ++ rest).map fun v => v.category).sum + 3072 ≤ _; omega) hc (by rw [hz]; exact hl)
      (fun i v hv => by
        rw [hz] at hv
        have hv' : vals[i]? = some v := by simpa using hv
        have hi : i < σ.captured.length := by rw [← hlen]; exact (List.getElem?_eq_some_iff.mp hv').1
        have := (hfit i _ v (List.getElem?_eq_getElem hi) hv').2
        simp [State.fitsSlot, State.slotType?, hkcS, ek, et, List.getElem?_eq_getElem hi, this])
    rw [hz] at q
    have E' : Ext T.heap (T.pushCell { cls := cK, slots := vals.toArray, vm := .none }).heap := by
      refine ⟨by show T.heap.size ≤ (T.heap.push _).size; simp, fun x c hx => ?_⟩
      have hlt := (Array.getElem?_eq_some_iff.mp hx).1
      show (T.heap.push _)[x]? = some c
      rw [Array.getElem?_push, if_neg (Nat.ne_of_lt hlt)]; exact hx
    have hlt : T.heap.size < (T.pushCell { cls := cK, slots := vals.toArray, vm := .none }).heap.size := by show T.heap.size < (T.heap.push _).size; simp
    exact ⟨_, T.heap.size, rfl, E', _, locs, vm0, k0, by simpa using q.1, h1, Nat.le_trans h2 E'.1, h3, h4.born E' hlt, rfl, h6, h7, fun t ht => k _ (q.2 _ ht)⟩
/-! the String laws of the paste, in the forward form -/
abbrev CompactOn (Z : State) : Prop := ∃ z : Int32, Sta Z Z.heap "java/lang/String" "COMPACT_STRINGS" "Z" (.int z) ∧ ¬ z = 0
abbrev SiooOk (Z : State) : Prop := ∃ fm : Value, Sta Z Z.heap "jdk/internal/util/Preconditions" "SIOOBE_FORMATTER" "Ljava/util/function/BiFunction;" fm ∧ fm.isRef = true
theorem own_up {cs : List Int32} (h : ∀ c ∈ cs, ¬ c < 0 ∧ ¬ (255 : Int32) < c) : ∀ c ∈ cs, ¬ c < 0 ∧ ¬ (65535 : Int32) < c := fun c hc => ⟨(h c hc).1, fun q => (h c hc).2 (by rw [Int32.lt_iff_toInt_lt] at q ⊢; have e1 : (65535 : Int32).toInt = 65535 := rfl; have e2 : (255 : Int32).toInt = 255 := rfl; omega)⟩
theorem Rc.newStr {pc' idx W : Nat} {x b : Addr} {kC : ClassId} {cs : List Int32} {d v0 c0 : Value} {N : Int32} (H : Rc C R own bs ml Z n0 ce sl pc Ls (.ref b :: .ref x :: rest) h Ds) (hws : ∀ d ∈ StrChars.Road.words, d.before a0 Z = true) (wi : (Jvm.Cond.instantiable "java/lang/String" 4).before a0 Z = true)
    (hlink : (Jvm.Cond.methodLink own idx ⟨"java/lang/String", "<init>", "([C)V"⟩).before a0 Z = true) (hinst : (Jvm.Cond.instanceMethod ⟨"java/lang/String", "<init>", "([C)V"⟩).before a0 Z = true) (CS : CompactOn Z)
    (E : Exa Z h x "java/lang/String") (V : Fld Z h x "java/lang/String" "value" "[B" v0) (Cd : Fld Z h x "java/lang/String" "coder" "B" c0) (K : Arv Z h b kC .char N (cs.map Value.int) d) (hN : N = Int32.ofNat cs.length) (l0 : 0 < cs.length) (l2 : cs.length ≤ 4000) (hp : ∀ c ∈ cs, ¬ c < 0 ∧ ¬ (255 : Int32) < c) (hx : x ∈ Ds)
    (hsz : Ls.size = ml) (hW : (rest.map fun v => v.category).sum = W) (hd : decode bs pc = .ok (.invokespecial idx, 3)) (hfr : 4 ≤ R.frames) (hlo : W + 65 ≤ R.locals) (hce : ce + 1 ≤ R.cells) (hsl : sl + cs.length ≤ R.slots) (hpc : pc + 3 = pc') :
    ∃ h', Keep h h' [x] ∧ IsStr Z h' x cs ∧ Rc C R own bs ml Z n0 (ce + 1) (sl + cs.length) pc' Ls rest h' Ds := by
  obtain ⟨z, hS, hz⟩ := CS
  obtain ⟨v, h', L, ⟨q1, q2, q3, q4, q5, t, kb, -, -, -, q6, q7⟩, R'⟩ := H.backI (y := ⟨"java/lang/String", "<init>", "([C)V"⟩) (kc := 1) (ks := cs.length) (argsL := [.ref b]) (Qb := fun v h' L => StrChars.Road.QV Z x N (cs.map (fun c => c.toInt8.toInt32)) h n0 v h' L) rfl hlink hinst (hws _ (List.mem_of_getElem? (i := 0) rfl)) (by decide)
    (fun s' hZ' => StrChars.Road.backV (W := W) hZ' hws wi (cs := cs) (bs := cs.map (fun c => c.toInt8.toInt32)) (n := cs.length) (H.mem hx).1 (own_n0 H.old) E V Cd K (hS.ext H.old.2) hz rfl hN l0 l2 hp rfl hfr hlo)
    (fun v h' L q => ⟨q.2.1, [x], q.2.2.1, own_ws1 hx⟩) hsz (lenOf (ps := [.array .char]) (r := none) (by decide +kernel) rfl) rfl hW hd hce hsl hpc
  subst q1
  exact ⟨h', q3, ⟨q4, q5, hp, l2, t, kb, q6, by rw [← hN]; exact q7⟩, R'⟩
theorem n4_8 : decode StrChars.New4.yB 8 = .ok (.aload_n 0, 1) := by decide +kernel
theorem n4_9 : decode StrChars.New4.yB 9 = .ok (.ldc 7, 2) := by decide +kernel
theorem n4_11 : decode StrChars.New4.yB 11 = .ok (.getfield 9, 3) := by decide +kernel
theorem n4_14 : decode StrChars.New4.yB 14 = .ok (.putfield 9, 3) := by decide +kernel
theorem n4_17 : decode StrChars.New4.yB 17 = .ok (.aload_n 0, 1) := by decide +kernel
theorem n4_18 : decode StrChars.New4.yB 18 = .ok (.ldc 7, 2) := by decide +kernel
theorem n4_20 : decode StrChars.New4.yB 20 = .ok (.getfield 15, 3) := by decide +kernel
theorem n4_23 : decode StrChars.New4.yB 23 = .ok (.putfield 15, 3) := by decide +kernel
theorem n4_26 : decode StrChars.New4.yB 26 = .ok (.return_, 1) := by decide +kernel
theorem Rc.str_eq {pc' idx W : Nat} {x : Addr} {cs : List Int32} {y : Addr} {ds : List Int32} (H : Rc C R own bs ml Z n0 ce sl pc Ls (.ref y :: .ref x :: rest) h Ds) (hws : ∀ d ∈ StrChars.Road.wordsEq, d.before a0 Z = true) (wi : (Jvm.Cond.instantiable "java/lang/String" 4).before a0 Z = true)
    (hlink : (Jvm.Cond.methodLink own idx ⟨"java/lang/String", "equals", "(Ljava/lang/Object;)Z"⟩).before a0 Z = true) (hdecl : (Jvm.Cond.declares ⟨"java/lang/String", "equals", "(Ljava/lang/Object;)Z"⟩).before a0 Z = true) (hsel : (Jvm.Cond.selects "java/lang/String" ⟨"java/lang/String", "equals", "(Ljava/lang/Object;)Z"⟩ ⟨"java/lang/String", "equals", "(Ljava/lang/Object;)Z"⟩).before a0 Z = true) (hinst : (Jvm.Cond.instanceMethod ⟨"java/lang/String", "equals", "(Ljava/lang/Object;)Z"⟩).before a0 Z = true) (CS : CompactOn Z) (F' : IsStr Z h y ds) (F : IsStr Z h x cs)
    (hsz : Ls.size = ml) (hW : (rest.map fun v => v.category).sum = W) (hd : decode bs pc = .ok (.invokevirtual idx, 3)) (hfr : 2 ≤ R.frames) (hlo : W + 28 ≤ R.locals) (hce : ce + 0 ≤ R.cells) (hsl : sl + 0 ≤ R.slots) (hpc : pc + 3 = pc') :
    Rc C R own bs ml Z n0 ce sl pc' Ls ((.int (if cs = ds then 1 else 0)) :: rest) h Ds := by
  obtain ⟨z, hS, hz⟩ := CS
  obtain ⟨f1, f2, f3, f4, t, kb, f5, f6⟩ := F
  obtain ⟨g1, g2, g3, g4, t', kb', g5, g6⟩ := F'
  obtain ⟨v, h', L, ⟨q1, q2, q3⟩, R'⟩ := H.backV (y := ⟨"java/lang/String", "equals", "(Ljava/lang/Object;)Z"⟩) (z := ⟨"java/lang/String", "equals", "(Ljava/lang/Object;)Z"⟩) (kc := 0) (ks := 0) (argsL := [.ref y]) (Qb := fun v h' L => ((v = some (.int 1) ∧ cs = ds) ∨ (v = some (.int 0) ∧ ¬ cs = ds)) ∧ L = [] ∧ h' = h) hlink hdecl (fun s' hZ' => notFace_of_selects (args := #[]) (mvT hZ' hsel)) hsel hinst (by decide) f1
    (fun s' hZ' => StrChars.Road.eqW (W := W) hZ' hws wi f1 f5 f2 f6 (StrChars.Road.codOf rfl (fun c hc => (f3 c hc).2)) (own_up f3) f4 g1 g5 g2 g6 (StrChars.Road.codOf rfl (fun c hc => (g3 c hc).2)) (own_up g3) g4 (hS.ext H.old.2) hz hfr hlo)
    (fun v h' L q => by obtain ⟨-, rfl, rfl⟩ := q; exact ⟨Fr.nil n0, [], Keep.refl _ _, fun x hx => nomatch hx⟩) hsz (lenOf (ps := [.object "java/lang/Object"]) (r := some .boolean) (by decide +kernel) rfl) rfl hW hd hce hsl hpc
  subst q3
  rcases q1 with ⟨rfl, e⟩ | ⟨rfl, e⟩
  · rw [if_pos e]; exact R'
  · rw [if_neg e]; exact R'

end OwnKit
theorem own_and255 (x : Int32) : ∃ k : Fin 256, x &&& 255 = Int32.ofNat k.val := by
  have h : (x &&& 255).toBitVec.toNat < 256 := by
    simp only [Int32.toBitVec_and, BitVec.toNat_and]
    exact Nat.lt_succ_of_le Nat.and_le_right
  refine ⟨⟨_, h⟩, ?_⟩
  apply Int32.toBitVec_inj.mp
  show _ = BitVec.ofNat 32 _
  rw [BitVec.ofNat_toNat]; simp
theorem own_and7 (x : Int32) : ∃ k : Fin 8, x &&& 7 = Int32.ofNat k.val := by
  have h : (x &&& 7).toBitVec.toNat < 8 := by
    simp only [Int32.toBitVec_and, BitVec.toNat_and]
    exact Nat.lt_succ_of_le Nat.and_le_right
  refine ⟨⟨_, h⟩, ?_⟩
  apply Int32.toBitVec_inj.mp
  show _ = BitVec.ofNat 32 _
  rw [BitVec.ofNat_toNat]; simp
theorem own_and3 (x : Int32) : ∃ k : Fin 4, x &&& 3 = Int32.ofNat k.val := by
  have h : (x &&& 3).toBitVec.toNat < 4 := by
    simp only [Int32.toBitVec_and, BitVec.toNat_and]
    exact Nat.lt_succ_of_le Nat.and_le_right
  refine ⟨⟨_, h⟩, ?_⟩
  apply Int32.toBitVec_inj.mp
  show _ = BitVec.ofNat 32 _
  rw [BitVec.ofNat_toNat]; simp
theorem own_and1 (x : Int32) : ∃ k : Fin 2, x &&& 1 = Int32.ofNat k.val := by
  have h : (x &&& 1).toBitVec.toNat < 2 := by
    simp only [Int32.toBitVec_and, BitVec.toNat_and]
    exact Nat.lt_succ_of_le Nat.and_le_right
  refine ⟨⟨_, h⟩, ?_⟩
  apply Int32.toBitVec_inj.mp
  show _ = BitVec.ofNat 32 _
  rw [BitVec.ofNat_toNat]; simp
theorem own_lt {i j : Nat} (hj : j ≤ 4000) (h : i < j) : Int32.ofNat i < Int32.ofNat j := by
  rw [Int32.lt_iff_toInt_lt, Int32.toInt_ofNat_of_lt (by omega), Int32.toInt_ofNat_of_lt (by omega)]; omega
theorem own_nlt {i j : Nat} (hi : i ≤ 4000) (h : j ≤ i) : ¬ Int32.ofNat i < Int32.ofNat j := by
  rw [Int32.lt_iff_toInt_lt, Int32.toInt_ofNat_of_lt (by omega), Int32.toInt_ofNat_of_lt (by omega)]; omega
theorem i32_succ (i : Nat) : Int32.ofNat i + 1 = Int32.ofNat (i + 1) := by
  apply Int32.toBitVec_inj.mp
  show BitVec.ofNat 32 i + 1#32 = BitVec.ofNat 32 (i + 1)
  rw [BitVec.ofNat_add]
theorem nar_i2c (x : Int32) : nar .char x.toUInt32.toUInt16.toUInt32.toInt32 = x.toUInt32.toUInt16.toUInt32.toInt32 := by
  generalize x.toUInt32.toUInt16 = y
  simp [nar]
theorem c255 (x : Int32) : ¬ (x &&& (255 : Int32)).toUInt32.toUInt16.toUInt32.toInt32 < 0 ∧ ¬ (255 : Int32) < (x &&& (255 : Int32)).toUInt32.toUInt16.toUInt32.toInt32 := by
  obtain ⟨k, hk⟩ := own_and255 x
  rw [hk]
  clear hk; revert k; decide +kernel
theorem own_ltI {k n : Nat} (hk : k ≤ 4000) (hn : n ≤ 4000) (h : Int32.ofNat k < Int32.ofNat n) : k < n := by
  apply Classical.byContradiction; intro q
  exact own_nlt hk (by omega) h
theorem own_getD {cs : List Int32} {k : Nat} (h : k < cs.length) (p : ∀ c ∈ cs, ¬ c < 0 ∧ ¬ (255 : Int32) < c) : ¬ cs.getD k 0 < 0 ∧ ¬ (255 : Int32) < cs.getD k 0 := by
  rw [List.getD_eq_getElem?_getD, List.getElem?_eq_getElem h]
  exact p _ (List.getElem_mem h)
theorem own_l255 (x : Int64) : ∃ k : Fin 256, x &&& 255 = Int64.ofNat k.val := by
  have h : (x &&& 255).toBitVec.toNat < 256 := by
    simp only [Int64.toBitVec_and, BitVec.toNat_and]
    exact Nat.lt_succ_of_le Nat.and_le_right
  refine ⟨⟨_, h⟩, ?_⟩
  apply Int64.toBitVec_inj.mp
  show _ = BitVec.ofNat 64 _
  rw [BitVec.ofNat_toNat]; simp
theorem cl255 (x : Int64) : ¬ (x &&& (255 : Int64)).toInt32.toUInt32.toUInt16.toUInt32.toInt32 < 0 ∧ ¬ (255 : Int32) < (x &&& (255 : Int64)).toInt32.toUInt32.toUInt16.toUInt32.toInt32 := by
  obtain ⟨k, hk⟩ := own_l255 x
  rw [hk]
  clear hk; revert k; decide +kernel
theorem own_clamp {k : Nat} (h : k < 2147483648) : (Int32.ofNat k).toNatClampNeg = k := by
  show (Int32.ofNat k).toInt.toNat = k
  rw [Int32.toInt_ofNat_of_lt (by omega)]; omega
theorem own_j {k n : Nat} (hn : n ≤ 4000) (h : k < n) : ¬ Int32.ofNat k < 0 ∧ Int32.ofNat k < Int32.ofNat n := ⟨own_nlt (j := 0) (by omega) (Nat.zero_le _), own_lt hn h⟩
theorem own_bget {cs : List Int32} {k : Nat} (hl : cs.length ≤ 4000) (h : k < cs.length) : (bytesOfCs cs).getD (Int32.ofNat k).toNatClampNeg (.int 0) = .int (cs.getD k 0).toInt8.toInt32 := by
  rw [own_clamp (by omega)]
  simp only [bytesOfCs, List.getD_eq_getElem?_getD, List.getElem?_map, List.getElem?_eq_getElem h]
  rfl
theorem own_b2c {c : Int32} (h : ¬ c < 0 ∧ ¬ (255 : Int32) < c) : (c.toInt8.toInt32 &&& (255 : Int32)).toUInt32.toUInt16.toUInt32.toInt32 = c := by
  obtain ⟨k, rfl⟩ := ofFin h
  clear h; revert k; decide +kernel
theorem nar_i2b (x : Int32) : nar .byte x.toInt8.toInt32 = x.toInt8.toInt32 := by
  generalize x.toInt8 = y
  simp [nar]
theorem own_shr0 (c : Int32) : c >>> ((0 : Int32) &&& 31) = c := by
  apply Int32.toBitVec_inj.mp
  simp
theorem own_w14 {a0 : Array Value} {Z : State} (hw : ∀ d ∈ tables_1, d.before a0 Z = true) : (Jvm.Cond.fieldLink "java/lang/String" (38 : Nat) "java/lang/String" "COMPACT_STRINGS" "Z").before a0 Z = true := hw _ (List.mem_of_getElem? (i := 14) rfl)
theorem own_d24_0 : decode jdk_42_method_152_code 0 = .ok (.getstatic 38, 3) := by decide +kernel
theorem own_d24_3 : decode jdk_42_method_152_code 3 = .ok (.ifCond .eq 10, 3) := by decide +kernel
theorem own_d24_6 : decode jdk_42_method_152_code 6 = .ok (.aload_n 0, 1) := by decide +kernel
theorem own_w26 {a0 : Array Value} {Z : State} (hw : ∀ d ∈ tables_1, d.before a0 Z = true) : (Jvm.Cond.fieldLink "java/lang/String" (15 : Nat) "java/lang/String" "coder" "B").before a0 Z = true := hw _ (List.mem_of_getElem? (i := 26) rfl)
theorem own_d24_7 : decode jdk_42_method_152_code 7 = .ok (.getfield 15, 3) := by decide +kernel
theorem own_d24_10 : decode jdk_42_method_152_code 10 = .ok (.goto 4, 3) := by decide +kernel
theorem own_d24_14 : decode jdk_42_method_152_code 14 = .ok (.ireturn, 1) := by decide +kernel
theorem own_pn0 : plainName "java/lang/String" = true := by first | (simp [plainName, overriddenIn]; done) | decide +kernel
theorem own_d23_0 : decode jdk_42_method_54_code 0 = .ok (.aload_n 0, 1) := by decide +kernel
theorem own_w28 {a0 : Array Value} {Z : State} (hw : ∀ d ∈ tables_1, d.before a0 Z = true) : (Jvm.Cond.fieldLink "java/lang/String" (9 : Nat) "java/lang/String" "value" "[B").before a0 Z = true := hw _ (List.mem_of_getElem? (i := 28) rfl)
theorem own_d23_1 : decode jdk_42_method_54_code 1 = .ok (.getfield 9, 3) := by decide +kernel
theorem own_d23_4 : decode jdk_42_method_54_code 4 = .ok (.arraylength, 1) := by decide +kernel
theorem own_d23_5 : decode jdk_42_method_54_code 5 = .ok (.aload_n 0, 1) := by decide +kernel
theorem own_w139 {a0 : Array Value} {Z : State} (hw : ∀ d ∈ tables_1, d.before a0 Z = true) : (Jvm.Cond.methodLink "java/lang/String" (335 : Nat) ({ cls := "java/lang/String", name := "coder", desc := "()B" } : Jvm.MethodName)).before a0 Z = true := hw _ (List.mem_of_getElem? (i := 139) rfl)
theorem own_pd0 : parseMethodDescriptor "()B" = some ⟨[], some .byte⟩ := by decide +kernel
theorem own_d23_6 : decode jdk_42_method_54_code 6 = .ok (.invokevirtual 335, 3) := by decide +kernel
theorem own_w142 {a0 : Array Value} {Z : State} (hw : ∀ d ∈ tables_1, d.before a0 Z = true) : (Jvm.Cond.selects "java/lang/String" ({ cls := "java/lang/String", name := "coder", desc := "()B" } : Jvm.MethodName) ({ cls := "java/lang/String", name := "coder", desc := "()B" } : Jvm.MethodName)).before a0 Z = true := hw _ (List.mem_of_getElem? (i := 142) rfl)
theorem own_w140 {a0 : Array Value} {Z : State} (hw : ∀ d ∈ tables_1, d.before a0 Z = true) : (Jvm.Cond.declares ({ cls := "java/lang/String", name := "coder", desc := "()B" } : Jvm.MethodName)).before a0 Z = true := hw _ (List.mem_of_getElem? (i := 140) rfl)
theorem own_w141 {a0 : Array Value} {Z : State} (hw : ∀ d ∈ tables_1, d.before a0 Z = true) : (Jvm.Cond.instanceMethod ({ cls := "java/lang/String", name := "coder", desc := "()B" } : Jvm.MethodName)).before a0 Z = true := hw _ (List.mem_of_getElem? (i := 141) rfl)
theorem own_w2 {a0 : Array Value} {Z : State} (hw : ∀ d ∈ tables_1, d.before a0 Z = true) : (Jvm.Cond.initialized "java/lang/String").before a0 Z = true := hw _ (List.mem_of_getElem? (i := 2) rfl)
theorem own_w143 {a0 : Array Value} {Z : State} (hw : ∀ d ∈ tables_1, d.before a0 Z = true) : (Jvm.Cond.code ({ cls := "java/lang/String", name := "coder", desc := "()B" } : Jvm.MethodName) jdk_42_method_152_code (1 : Nat) (Option.some Jvm.ClassFile.FieldType.byte)).before a0 Z = true := hw _ (List.mem_of_getElem? (i := 143) rfl)
theorem own_d23_9 : decode jdk_42_method_54_code 9 = .ok (.ishr, 1) := by decide +kernel
theorem own_d23_10 : decode jdk_42_method_54_code 10 = .ok (.ireturn, 1) := by decide +kernel
theorem own_d20_0 : decode jdk_68_method_2_code 0 = .ok (.aload_n 0, 1) := by decide +kernel
theorem own_w117 {a0 : Array Value} {Z : State} (hw : ∀ d ∈ tables_1, d.before a0 Z = true) : (Jvm.Cond.methodLink "java/lang/AbstractStringBuilder" (3 : Nat) ({ cls := "java/lang/Object", name := "<init>", desc := "()V" } : Jvm.MethodName)).before a0 Z = true := hw _ (List.mem_of_getElem? (i := 117) rfl)
theorem own_w13 {a0 : Array Value} {Z : State} (hw : ∀ d ∈ tables_1, d.before a0 Z = true) : (Jvm.Cond.code ({ cls := "java/lang/Object", name := "<init>", desc := "()V" } : Jvm.MethodName) object_method_1_code (1 : Nat) (Option.none : Option Jvm.ClassFile.FieldType)).before a0 Z = true := hw _ (List.mem_of_getElem? (i := 13) rfl)
theorem own_w12 {a0 : Array Value} {Z : State} (hw : ∀ d ∈ tables_1, d.before a0 Z = true) : (Jvm.Cond.instanceMethod ({ cls := "java/lang/Object", name := "<init>", desc := "()V" } : Jvm.MethodName)).before a0 Z = true := hw _ (List.mem_of_getElem? (i := 12) rfl)
theorem own_d20_1 : decode jdk_68_method_2_code 1 = .ok (.invokespecial 3, 3) := by decide +kernel
theorem own_w118 {a0 : Array Value} {Z : State} (hw : ∀ d ∈ tables_1, d.before a0 Z = true) : (Jvm.Cond.fieldLink "java/lang/AbstractStringBuilder" (18 : Nat) "java/lang/String" "COMPACT_STRINGS" "Z").before a0 Z = true := hw _ (List.mem_of_getElem? (i := 118) rfl)
theorem own_d20_4 : decode jdk_68_method_2_code 4 = .ok (.getstatic 18, 3) := by decide +kernel
theorem own_d20_7 : decode jdk_68_method_2_code 7 = .ok (.ifCond .eq 18, 3) := by decide +kernel
theorem own_d20_10 : decode jdk_68_method_2_code 10 = .ok (.aload_n 0, 1) := by decide +kernel
theorem own_d20_11 : decode jdk_68_method_2_code 11 = .ok (.iload_n 1, 1) := by decide +kernel
theorem own_w19 {a0 : Array Value} {Z : State} (hw : ∀ d ∈ tables_1, d.before a0 Z = true) : (Jvm.Cond.arrayClass Jvm.ClassFile.FieldType.byte).before a0 Z = true := hw _ (List.mem_of_getElem? (i := 19) rfl)
theorem own_d20_12 : decode jdk_68_method_2_code 12 = .ok (.newarray .byte, 2) := by decide +kernel
theorem own_w106 {a0 : Array Value} {Z : State} (hw : ∀ d ∈ tables_1, d.before a0 Z = true) : (Jvm.Cond.instantiable "java/lang/StringBuilder" (4 : Nat)).before a0 Z = true := hw _ (List.mem_of_getElem? (i := 106) rfl)
theorem own_w119 {a0 : Array Value} {Z : State} (hw : ∀ d ∈ tables_1, d.before a0 Z = true) : (Jvm.Cond.fieldLink "java/lang/AbstractStringBuilder" (15 : Nat) "java/lang/AbstractStringBuilder" "value" "[B").before a0 Z = true := hw _ (List.mem_of_getElem? (i := 119) rfl)
theorem own_w120 {a0 : Array Value} {Z : State} (hw : ∀ d ∈ tables_1, d.before a0 Z = true) : (Jvm.Cond.lays "java/lang/StringBuilder" "java/lang/AbstractStringBuilder" "value" "[B").before a0 Z = true := hw _ (List.mem_of_getElem? (i := 120) rfl)
theorem own_d20_14 : decode jdk_68_method_2_code 14 = .ok (.putfield 15, 3) := by decide +kernel
theorem own_w122 {a0 : Array Value} {Z : State} (hw : ∀ d ∈ tables_1, d.before a0 Z = true) : (Jvm.Cond.lays "java/lang/StringBuilder" "java/lang/AbstractStringBuilder" "coder" "B").before a0 Z = true := hw _ (List.mem_of_getElem? (i := 122) rfl)
theorem own_w145 {a0 : Array Value} {Z : State} (hw : ∀ d ∈ tables_1, d.before a0 Z = true) : (Jvm.Cond.lays "java/lang/StringBuilder" "java/lang/AbstractStringBuilder" "count" "I").before a0 Z = true := hw _ (List.mem_of_getElem? (i := 145) rfl)
theorem own_d20_17 : decode jdk_68_method_2_code 17 = .ok (.aload_n 0, 1) := by decide +kernel
theorem own_d20_18 : decode jdk_68_method_2_code 18 = .ok (.iconst 0, 1) := by decide +kernel
theorem own_w121 {a0 : Array Value} {Z : State} (hw : ∀ d ∈ tables_1, d.before a0 Z = true) : (Jvm.Cond.fieldLink "java/lang/AbstractStringBuilder" (22 : Nat) "java/lang/AbstractStringBuilder" "coder" "B").before a0 Z = true := hw _ (List.mem_of_getElem? (i := 121) rfl)
theorem own_d20_19 : decode jdk_68_method_2_code 19 = .ok (.putfield 22, 3) := by decide +kernel
theorem own_d20_22 : decode jdk_68_method_2_code 22 = .ok (.goto 16, 3) := by decide +kernel
theorem own_d20_38 : decode jdk_68_method_2_code 38 = .ok (.return_, 1) := by decide +kernel
theorem own_pn1 : plainName "java/lang/AbstractStringBuilder" = true := by first | (simp [plainName, overriddenIn]; done) | decide +kernel
theorem own_d19_0 : decode jdk_67_method_1_code 0 = .ok (.aload_n 0, 1) := by decide +kernel
theorem own_d19_1 : decode jdk_67_method_1_code 1 = .ok (.bipush 16, 2) := by decide +kernel
theorem own_w111 {a0 : Array Value} {Z : State} (hw : ∀ d ∈ tables_1, d.before a0 Z = true) : (Jvm.Cond.methodLink "java/lang/StringBuilder" (1 : Nat) ({ cls := "java/lang/AbstractStringBuilder", name := "<init>", desc := "(I)V" } : Jvm.MethodName)).before a0 Z = true := hw _ (List.mem_of_getElem? (i := 111) rfl)
theorem own_pd1 : parseMethodDescriptor "(I)V" = some ⟨[.int], none⟩ := by decide +kernel
theorem own_d19_3 : decode jdk_67_method_1_code 3 = .ok (.invokespecial 1, 3) := by decide +kernel
theorem own_w112 {a0 : Array Value} {Z : State} (hw : ∀ d ∈ tables_1, d.before a0 Z = true) : (Jvm.Cond.instanceMethod ({ cls := "java/lang/AbstractStringBuilder", name := "<init>", desc := "(I)V" } : Jvm.MethodName)).before a0 Z = true := hw _ (List.mem_of_getElem? (i := 112) rfl)
theorem own_w115 {a0 : Array Value} {Z : State} (hw : ∀ d ∈ tables_1, d.before a0 Z = true) : (Jvm.Cond.initialized "java/lang/AbstractStringBuilder").before a0 Z = true := hw _ (List.mem_of_getElem? (i := 115) rfl)
theorem own_w116 {a0 : Array Value} {Z : State} (hw : ∀ d ∈ tables_1, d.before a0 Z = true) : (Jvm.Cond.code ({ cls := "java/lang/AbstractStringBuilder", name := "<init>", desc := "(I)V" } : Jvm.MethodName) jdk_68_method_2_code (2 : Nat) (Option.none : Option Jvm.ClassFile.FieldType)).before a0 Z = true := hw _ (List.mem_of_getElem? (i := 116) rfl)
theorem own_d19_6 : decode jdk_67_method_1_code 6 = .ok (.return_, 1) := by decide +kernel
theorem own_pn2 : plainName "java/lang/StringBuilder" = true := by first | (simp [plainName, overriddenIn]; done) | decide +kernel
theorem own_d27_0 : decode jdk_68_method_71_code 0 = .ok (.getstatic 18, 3) := by decide +kernel
theorem own_d27_3 : decode jdk_68_method_71_code 3 = .ok (.ifCond .eq 18, 3) := by decide +kernel
theorem own_d27_6 : decode jdk_68_method_71_code 6 = .ok (.aload_n 0, 1) := by decide +kernel
theorem own_d27_7 : decode jdk_68_method_71_code 7 = .ok (.getfield 22, 3) := by decide +kernel
theorem own_d27_10 : decode jdk_68_method_71_code 10 = .ok (.aload_n 1, 1) := by decide +kernel
theorem own_w161 {a0 : Array Value} {Z : State} (hw : ∀ d ∈ tables_1, d.before a0 Z = true) : (Jvm.Cond.methodLink "java/lang/AbstractStringBuilder" (40 : Nat) ({ cls := "java/lang/String", name := "coder", desc := "()B" } : Jvm.MethodName)).before a0 Z = true := hw _ (List.mem_of_getElem? (i := 161) rfl)
theorem own_d27_11 : decode jdk_68_method_71_code 11 = .ok (.invokevirtual 40, 3) := by decide +kernel
theorem own_d27_14 : decode jdk_68_method_71_code 14 = .ok (.if_icmp .eq 7, 3) := by decide +kernel
theorem own_d27_21 : decode jdk_68_method_71_code 21 = .ok (.return_, 1) := by decide +kernel
theorem own_d25_0 : decode jdk_68_method_9_code 0 = .ok (.aload_n 0, 1) := by decide +kernel
theorem own_d25_1 : decode jdk_68_method_9_code 1 = .ok (.getfield 15, 3) := by decide +kernel
theorem own_d25_4 : decode jdk_68_method_9_code 4 = .ok (.arraylength, 1) := by decide +kernel
theorem own_d25_5 : decode jdk_68_method_9_code 5 = .ok (.aload_n 0, 1) := by decide +kernel
theorem own_d25_6 : decode jdk_68_method_9_code 6 = .ok (.getfield 22, 3) := by decide +kernel
theorem own_d25_9 : decode jdk_68_method_9_code 9 = .ok (.ishr, 1) := by decide +kernel
theorem own_d25_10 : decode jdk_68_method_9_code 10 = .ok (.istore_n 2, 1) := by decide +kernel
theorem own_d25_11 : decode jdk_68_method_9_code 11 = .ok (.iload_n 1, 1) := by decide +kernel
theorem own_d25_12 : decode jdk_68_method_9_code 12 = .ok (.iload_n 2, 1) := by decide +kernel
theorem own_d25_13 : decode jdk_68_method_9_code 13 = .ok (.isub, 1) := by decide +kernel
theorem own_d25_14 : decode jdk_68_method_9_code 14 = .ok (.ifCond .le 24, 3) := by decide +kernel
theorem own_d25_38 : decode jdk_68_method_9_code 38 = .ok (.return_, 1) := by decide +kernel
theorem own_d28_0 : decode jdk_42_method_147_code 0 = .ok (.aload_n 0, 1) := by decide +kernel
theorem own_d28_1 : decode jdk_42_method_147_code 1 = .ok (.invokevirtual 335, 3) := by decide +kernel
theorem own_d28_4 : decode jdk_42_method_147_code 4 = .ok (.iload_n 3, 1) := by decide +kernel
theorem own_d28_5 : decode jdk_42_method_147_code 5 = .ok (.if_icmp .ne 23, 3) := by decide +kernel
theorem own_d28_8 : decode jdk_42_method_147_code 8 = .ok (.aload_n 0, 1) := by decide +kernel
theorem own_d28_9 : decode jdk_42_method_147_code 9 = .ok (.getfield 9, 3) := by decide +kernel
theorem own_d28_12 : decode jdk_42_method_147_code 12 = .ok (.iconst 0, 1) := by decide +kernel
theorem own_d28_13 : decode jdk_42_method_147_code 13 = .ok (.aload_n 1, 1) := by decide +kernel
theorem own_d28_14 : decode jdk_42_method_147_code 14 = .ok (.iload_n 2, 1) := by decide +kernel
theorem own_d28_15 : decode jdk_42_method_147_code 15 = .ok (.iload_n 3, 1) := by decide +kernel
theorem own_d28_16 : decode jdk_42_method_147_code 16 = .ok (.ishl, 1) := by decide +kernel
theorem own_d28_17 : decode jdk_42_method_147_code 17 = .ok (.aload_n 0, 1) := by decide +kernel
theorem own_d28_18 : decode jdk_42_method_147_code 18 = .ok (.getfield 9, 3) := by decide +kernel
theorem own_d28_21 : decode jdk_42_method_147_code 21 = .ok (.arraylength, 1) := by decide +kernel
theorem own_w167 {a0 : Array Value} {Z : State} (hw : ∀ d ∈ tables_1, d.before a0 Z = true) : (Jvm.Cond.methodLink "java/lang/String" (212 : Nat) ({ cls := "java/lang/System", name := "arraycopy", desc := "(Ljava/lang/Object;ILjava/lang/Object;II)V" } : Jvm.MethodName)).before a0 Z = true := hw _ (List.mem_of_getElem? (i := 167) rfl)
theorem own_w170 {a0 : Array Value} {Z : State} (hw : ∀ d ∈ tables_1, d.before a0 Z = true) : (Jvm.Cond.native ({ cls := "java/lang/System", name := "arraycopy", desc := "(Ljava/lang/Object;ILjava/lang/Object;II)V" } : Jvm.MethodName)).before a0 Z = true := hw _ (List.mem_of_getElem? (i := 170) rfl)
theorem own_w168 {a0 : Array Value} {Z : State} (hw : ∀ d ∈ tables_1, d.before a0 Z = true) : (Jvm.Cond.static ({ cls := "java/lang/System", name := "arraycopy", desc := "(Ljava/lang/Object;ILjava/lang/Object;II)V" } : Jvm.MethodName)).before a0 Z = true := hw _ (List.mem_of_getElem? (i := 168) rfl)
theorem own_w169 {a0 : Array Value} {Z : State} (hw : ∀ d ∈ tables_1, d.before a0 Z = true) : (Jvm.Cond.initialized "java/lang/System").before a0 Z = true := hw _ (List.mem_of_getElem? (i := 169) rfl)
theorem own_d28_22 : decode jdk_42_method_147_code 22 = .ok (.invokestatic 212, 3) := by decide +kernel
theorem own_d28_25 : decode jdk_42_method_147_code 25 = .ok (.goto 18, 3) := by decide +kernel
theorem own_d28_43 : decode jdk_42_method_147_code 43 = .ok (.return_, 1) := by decide +kernel
theorem own_d26_0 : decode jdk_68_method_73_code 0 = .ok (.aload_n 0, 1) := by decide +kernel
theorem own_d26_1 : decode jdk_68_method_73_code 1 = .ok (.aload_n 2, 1) := by decide +kernel
theorem own_w156 {a0 : Array Value} {Z : State} (hw : ∀ d ∈ tables_1, d.before a0 Z = true) : (Jvm.Cond.methodLink "java/lang/AbstractStringBuilder" (397 : Nat) ({ cls := "java/lang/AbstractStringBuilder", name := "inflateIfNeededFor", desc := "(Ljava/lang/String;)V" } : Jvm.MethodName)).before a0 Z = true := hw _ (List.mem_of_getElem? (i := 156) rfl)
theorem own_pd2 : parseMethodDescriptor "(Ljava/lang/String;)V" = some ⟨[(.object "java/lang/String")], none⟩ := by decide +kernel
theorem own_d26_2 : decode jdk_68_method_73_code 2 = .ok (.invokevirtual 397, 3) := by decide +kernel
theorem own_w159 {a0 : Array Value} {Z : State} (hw : ∀ d ∈ tables_1, d.before a0 Z = true) : (Jvm.Cond.selects "java/lang/StringBuilder" ({ cls := "java/lang/AbstractStringBuilder", name := "inflateIfNeededFor", desc := "(Ljava/lang/String;)V" } : Jvm.MethodName) ({ cls := "java/lang/AbstractStringBuilder", name := "inflateIfNeededFor", desc := "(Ljava/lang/String;)V" } : Jvm.MethodName)).before a0 Z = true := hw _ (List.mem_of_getElem? (i := 159) rfl)
theorem own_w157 {a0 : Array Value} {Z : State} (hw : ∀ d ∈ tables_1, d.before a0 Z = true) : (Jvm.Cond.instanceMethod ({ cls := "java/lang/AbstractStringBuilder", name := "inflateIfNeededFor", desc := "(Ljava/lang/String;)V" } : Jvm.MethodName)).before a0 Z = true := hw _ (List.mem_of_getElem? (i := 157) rfl)
theorem own_w160 {a0 : Array Value} {Z : State} (hw : ∀ d ∈ tables_1, d.before a0 Z = true) : (Jvm.Cond.code ({ cls := "java/lang/AbstractStringBuilder", name := "inflateIfNeededFor", desc := "(Ljava/lang/String;)V" } : Jvm.MethodName) jdk_68_method_71_code (2 : Nat) (Option.none : Option Jvm.ClassFile.FieldType)).before a0 Z = true := hw _ (List.mem_of_getElem? (i := 160) rfl)
theorem own_d26_5 : decode jdk_68_method_73_code 5 = .ok (.aload_n 2, 1) := by decide +kernel
theorem own_d26_6 : decode jdk_68_method_73_code 6 = .ok (.aload_n 0, 1) := by decide +kernel
theorem own_d26_7 : decode jdk_68_method_73_code 7 = .ok (.getfield 15, 3) := by decide +kernel
theorem own_d26_10 : decode jdk_68_method_73_code 10 = .ok (.iload_n 1, 1) := by decide +kernel
theorem own_d26_11 : decode jdk_68_method_73_code 11 = .ok (.aload_n 0, 1) := by decide +kernel
theorem own_d26_12 : decode jdk_68_method_73_code 12 = .ok (.getfield 22, 3) := by decide +kernel
theorem own_w162 {a0 : Array Value} {Z : State} (hw : ∀ d ∈ tables_1, d.before a0 Z = true) : (Jvm.Cond.methodLink "java/lang/AbstractStringBuilder" (399 : Nat) ({ cls := "java/lang/String", name := "getBytes", desc := "([BIB)V" } : Jvm.MethodName)).before a0 Z = true := hw _ (List.mem_of_getElem? (i := 162) rfl)
theorem own_pd3 : parseMethodDescriptor "([BIB)V" = some ⟨[(.array .byte), .int, .byte], none⟩ := by decide +kernel
theorem own_d26_15 : decode jdk_68_method_73_code 15 = .ok (.invokevirtual 399, 3) := by decide +kernel
theorem own_w165 {a0 : Array Value} {Z : State} (hw : ∀ d ∈ tables_1, d.before a0 Z = true) : (Jvm.Cond.selects "java/lang/String" ({ cls := "java/lang/String", name := "getBytes", desc := "([BIB)V" } : Jvm.MethodName) ({ cls := "java/lang/String", name := "getBytes", desc := "([BIB)V" } : Jvm.MethodName)).before a0 Z = true := hw _ (List.mem_of_getElem? (i := 165) rfl)
theorem own_w163 {a0 : Array Value} {Z : State} (hw : ∀ d ∈ tables_1, d.before a0 Z = true) : (Jvm.Cond.declares ({ cls := "java/lang/String", name := "getBytes", desc := "([BIB)V" } : Jvm.MethodName)).before a0 Z = true := hw _ (List.mem_of_getElem? (i := 163) rfl)
theorem own_w164 {a0 : Array Value} {Z : State} (hw : ∀ d ∈ tables_1, d.before a0 Z = true) : (Jvm.Cond.instanceMethod ({ cls := "java/lang/String", name := "getBytes", desc := "([BIB)V" } : Jvm.MethodName)).before a0 Z = true := hw _ (List.mem_of_getElem? (i := 164) rfl)
theorem own_w166 {a0 : Array Value} {Z : State} (hw : ∀ d ∈ tables_1, d.before a0 Z = true) : (Jvm.Cond.code ({ cls := "java/lang/String", name := "getBytes", desc := "([BIB)V" } : Jvm.MethodName) jdk_42_method_147_code (4 : Nat) (Option.none : Option Jvm.ClassFile.FieldType)).before a0 Z = true := hw _ (List.mem_of_getElem? (i := 166) rfl)
theorem own_d26_18 : decode jdk_68_method_73_code 18 = .ok (.return_, 1) := by decide +kernel
theorem own_d22_0 : decode jdk_68_method_22_code 0 = .ok (.aload_n 1, 1) := by decide +kernel
theorem own_d22_1 : decode jdk_68_method_22_code 1 = .ok (.ifnonnull 8, 3) := by decide +kernel
theorem own_d22_9 : decode jdk_68_method_22_code 9 = .ok (.aload_n 1, 1) := by decide +kernel
theorem own_w134 {a0 : Array Value} {Z : State} (hw : ∀ d ∈ tables_1, d.before a0 Z = true) : (Jvm.Cond.methodLink "java/lang/AbstractStringBuilder" (32 : Nat) ({ cls := "java/lang/String", name := "length", desc := "()I" } : Jvm.MethodName)).before a0 Z = true := hw _ (List.mem_of_getElem? (i := 134) rfl)
theorem own_pd4 : parseMethodDescriptor "()I" = some ⟨[], some .int⟩ := by decide +kernel
theorem own_d22_10 : decode jdk_68_method_22_code 10 = .ok (.invokevirtual 32, 3) := by decide +kernel
theorem own_w137 {a0 : Array Value} {Z : State} (hw : ∀ d ∈ tables_1, d.before a0 Z = true) : (Jvm.Cond.selects "java/lang/String" ({ cls := "java/lang/String", name := "length", desc := "()I" } : Jvm.MethodName) ({ cls := "java/lang/String", name := "length", desc := "()I" } : Jvm.MethodName)).before a0 Z = true := hw _ (List.mem_of_getElem? (i := 137) rfl)
theorem own_w135 {a0 : Array Value} {Z : State} (hw : ∀ d ∈ tables_1, d.before a0 Z = true) : (Jvm.Cond.declares ({ cls := "java/lang/String", name := "length", desc := "()I" } : Jvm.MethodName)).before a0 Z = true := hw _ (List.mem_of_getElem? (i := 135) rfl)
theorem own_w136 {a0 : Array Value} {Z : State} (hw : ∀ d ∈ tables_1, d.before a0 Z = true) : (Jvm.Cond.instanceMethod ({ cls := "java/lang/String", name := "length", desc := "()I" } : Jvm.MethodName)).before a0 Z = true := hw _ (List.mem_of_getElem? (i := 136) rfl)
theorem own_w138 {a0 : Array Value} {Z : State} (hw : ∀ d ∈ tables_1, d.before a0 Z = true) : (Jvm.Cond.code ({ cls := "java/lang/String", name := "length", desc := "()I" } : Jvm.MethodName) jdk_42_method_54_code (1 : Nat) (Option.some Jvm.ClassFile.FieldType.int)).before a0 Z = true := hw _ (List.mem_of_getElem? (i := 138) rfl)
theorem own_d22_13 : decode jdk_68_method_22_code 13 = .ok (.istore_n 2, 1) := by decide +kernel
theorem own_d22_14 : decode jdk_68_method_22_code 14 = .ok (.aload_n 0, 1) := by decide +kernel
theorem own_d22_15 : decode jdk_68_method_22_code 15 = .ok (.aload_n 0, 1) := by decide +kernel
theorem own_w144 {a0 : Array Value} {Z : State} (hw : ∀ d ∈ tables_1, d.before a0 Z = true) : (Jvm.Cond.fieldLink "java/lang/AbstractStringBuilder" (79 : Nat) "java/lang/AbstractStringBuilder" "count" "I").before a0 Z = true := hw _ (List.mem_of_getElem? (i := 144) rfl)
theorem own_d22_16 : decode jdk_68_method_22_code 16 = .ok (.getfield 79, 3) := by decide +kernel
theorem own_d22_19 : decode jdk_68_method_22_code 19 = .ok (.iload_n 2, 1) := by decide +kernel
theorem own_d22_20 : decode jdk_68_method_22_code 20 = .ok (.iadd, 1) := by decide +kernel
theorem own_w146 {a0 : Array Value} {Z : State} (hw : ∀ d ∈ tables_1, d.before a0 Z = true) : (Jvm.Cond.methodLink "java/lang/AbstractStringBuilder" (100 : Nat) ({ cls := "java/lang/AbstractStringBuilder", name := "ensureCapacityInternal", desc := "(I)V" } : Jvm.MethodName)).before a0 Z = true := hw _ (List.mem_of_getElem? (i := 146) rfl)
theorem own_d22_21 : decode jdk_68_method_22_code 21 = .ok (.invokevirtual 100, 3) := by decide +kernel
theorem own_w149 {a0 : Array Value} {Z : State} (hw : ∀ d ∈ tables_1, d.before a0 Z = true) : (Jvm.Cond.selects "java/lang/StringBuilder" ({ cls := "java/lang/AbstractStringBuilder", name := "ensureCapacityInternal", desc := "(I)V" } : Jvm.MethodName) ({ cls := "java/lang/AbstractStringBuilder", name := "ensureCapacityInternal", desc := "(I)V" } : Jvm.MethodName)).before a0 Z = true := hw _ (List.mem_of_getElem? (i := 149) rfl)
theorem own_w147 {a0 : Array Value} {Z : State} (hw : ∀ d ∈ tables_1, d.before a0 Z = true) : (Jvm.Cond.instanceMethod ({ cls := "java/lang/AbstractStringBuilder", name := "ensureCapacityInternal", desc := "(I)V" } : Jvm.MethodName)).before a0 Z = true := hw _ (List.mem_of_getElem? (i := 147) rfl)
theorem own_w150 {a0 : Array Value} {Z : State} (hw : ∀ d ∈ tables_1, d.before a0 Z = true) : (Jvm.Cond.code ({ cls := "java/lang/AbstractStringBuilder", name := "ensureCapacityInternal", desc := "(I)V" } : Jvm.MethodName) jdk_68_method_9_code (3 : Nat) (Option.none : Option Jvm.ClassFile.FieldType)).before a0 Z = true := hw _ (List.mem_of_getElem? (i := 150) rfl)
theorem own_d22_24 : decode jdk_68_method_22_code 24 = .ok (.aload_n 0, 1) := by decide +kernel
theorem own_d22_25 : decode jdk_68_method_22_code 25 = .ok (.aload_n 0, 1) := by decide +kernel
theorem own_d22_26 : decode jdk_68_method_22_code 26 = .ok (.getfield 79, 3) := by decide +kernel
theorem own_d22_29 : decode jdk_68_method_22_code 29 = .ok (.aload_n 1, 1) := by decide +kernel
theorem own_w151 {a0 : Array Value} {Z : State} (hw : ∀ d ∈ tables_1, d.before a0 Z = true) : (Jvm.Cond.methodLink "java/lang/AbstractStringBuilder" (208 : Nat) ({ cls := "java/lang/AbstractStringBuilder", name := "putStringAt", desc := "(ILjava/lang/String;)V" } : Jvm.MethodName)).before a0 Z = true := hw _ (List.mem_of_getElem? (i := 151) rfl)
theorem own_pd5 : parseMethodDescriptor "(ILjava/lang/String;)V" = some ⟨[.int, (.object "java/lang/String")], none⟩ := by decide +kernel
theorem own_d22_30 : decode jdk_68_method_22_code 30 = .ok (.invokevirtual 208, 3) := by decide +kernel
theorem own_w154 {a0 : Array Value} {Z : State} (hw : ∀ d ∈ tables_1, d.before a0 Z = true) : (Jvm.Cond.selects "java/lang/StringBuilder" ({ cls := "java/lang/AbstractStringBuilder", name := "putStringAt", desc := "(ILjava/lang/String;)V" } : Jvm.MethodName) ({ cls := "java/lang/AbstractStringBuilder", name := "putStringAt", desc := "(ILjava/lang/String;)V" } : Jvm.MethodName)).before a0 Z = true := hw _ (List.mem_of_getElem? (i := 154) rfl)
theorem own_w152 {a0 : Array Value} {Z : State} (hw : ∀ d ∈ tables_1, d.before a0 Z = true) : (Jvm.Cond.instanceMethod ({ cls := "java/lang/AbstractStringBuilder", name := "putStringAt", desc := "(ILjava/lang/String;)V" } : Jvm.MethodName)).before a0 Z = true := hw _ (List.mem_of_getElem? (i := 152) rfl)
theorem own_w155 {a0 : Array Value} {Z : State} (hw : ∀ d ∈ tables_1, d.before a0 Z = true) : (Jvm.Cond.code ({ cls := "java/lang/AbstractStringBuilder", name := "putStringAt", desc := "(ILjava/lang/String;)V" } : Jvm.MethodName) jdk_68_method_73_code (3 : Nat) (Option.none : Option Jvm.ClassFile.FieldType)).before a0 Z = true := hw _ (List.mem_of_getElem? (i := 155) rfl)
theorem own_d22_33 : decode jdk_68_method_22_code 33 = .ok (.aload_n 0, 1) := by decide +kernel
theorem own_d22_34 : decode jdk_68_method_22_code 34 = .ok (.dup, 1) := by decide +kernel
theorem own_d22_35 : decode jdk_68_method_22_code 35 = .ok (.getfield 79, 3) := by decide +kernel
theorem own_d22_38 : decode jdk_68_method_22_code 38 = .ok (.iload_n 2, 1) := by decide +kernel
theorem own_d22_39 : decode jdk_68_method_22_code 39 = .ok (.iadd, 1) := by decide +kernel
theorem own_d22_40 : decode jdk_68_method_22_code 40 = .ok (.putfield 79, 3) := by decide +kernel
theorem own_d22_43 : decode jdk_68_method_22_code 43 = .ok (.aload_n 0, 1) := by decide +kernel
theorem own_d22_44 : decode jdk_68_method_22_code 44 = .ok (.areturn, 1) := by decide +kernel
theorem own_d21_0 : decode jdk_67_method_7_code 0 = .ok (.aload_n 0, 1) := by decide +kernel
theorem own_d21_1 : decode jdk_67_method_7_code 1 = .ok (.aload_n 1, 1) := by decide +kernel
theorem own_w129 {a0 : Array Value} {Z : State} (hw : ∀ d ∈ tables_1, d.before a0 Z = true) : (Jvm.Cond.methodLink "java/lang/StringBuilder" (29 : Nat) ({ cls := "java/lang/AbstractStringBuilder", name := "append", desc := "(Ljava/lang/String;)Ljava/lang/AbstractStringBuilder;" } : Jvm.MethodName)).before a0 Z = true := hw _ (List.mem_of_getElem? (i := 129) rfl)
theorem own_pd6 : parseMethodDescriptor "(Ljava/lang/String;)Ljava/lang/AbstractStringBuilder;" = some ⟨[(.object "java/lang/String")], some (.object "java/lang/AbstractStringBuilder")⟩ := by decide +kernel
theorem own_d21_2 : decode jdk_67_method_7_code 2 = .ok (.invokespecial 29, 3) := by decide +kernel
theorem own_w130 {a0 : Array Value} {Z : State} (hw : ∀ d ∈ tables_1, d.before a0 Z = true) : (Jvm.Cond.instanceMethod ({ cls := "java/lang/AbstractStringBuilder", name := "append", desc := "(Ljava/lang/String;)Ljava/lang/AbstractStringBuilder;" } : Jvm.MethodName)).before a0 Z = true := hw _ (List.mem_of_getElem? (i := 130) rfl)
theorem own_w131 {a0 : Array Value} {Z : State} (hw : ∀ d ∈ tables_1, d.before a0 Z = true) : (Jvm.Cond.superclass "java/lang/StringBuilder" "java/lang/AbstractStringBuilder").before a0 Z = true := hw _ (List.mem_of_getElem? (i := 131) rfl)
theorem own_w133 {a0 : Array Value} {Z : State} (hw : ∀ d ∈ tables_1, d.before a0 Z = true) : (Jvm.Cond.code ({ cls := "java/lang/AbstractStringBuilder", name := "append", desc := "(Ljava/lang/String;)Ljava/lang/AbstractStringBuilder;" } : Jvm.MethodName) jdk_68_method_22_code (3 : Nat) (Option.some (Jvm.ClassFile.FieldType.object "java/lang/AbstractStringBuilder"))).before a0 Z = true := hw _ (List.mem_of_getElem? (i := 133) rfl)
theorem own_d21_5 : decode jdk_67_method_7_code 5 = .ok (.pop, 1) := by decide +kernel
theorem own_d21_6 : decode jdk_67_method_7_code 6 = .ok (.aload_n 0, 1) := by decide +kernel
theorem own_d21_7 : decode jdk_67_method_7_code 7 = .ok (.areturn, 1) := by decide +kernel
theorem own_d39_0 : decode jdk_29_method_69_code 0 = .ok (.iload_n 0, 1) := by decide +kernel
theorem own_d39_1 : decode jdk_29_method_69_code 1 = .ok (.iload_n 1, 1) := by decide +kernel
theorem own_d39_2 : decode jdk_29_method_69_code 2 = .ok (.if_icmp .gt 7, 3) := by decide +kernel
theorem own_d39_9 : decode jdk_29_method_69_code 9 = .ok (.iload_n 1, 1) := by decide +kernel
theorem own_d39_10 : decode jdk_29_method_69_code 10 = .ok (.ireturn, 1) := by decide +kernel
theorem own_d38_0 : decode jdk_65_method_131_code 0 = .ok (.iload_n 1, 1) := by decide +kernel
theorem own_d38_1 : decode jdk_65_method_131_code 1 = .ok (.iload_n 0, 1) := by decide +kernel
theorem own_d38_2 : decode jdk_65_method_131_code 2 = .ok (.if_icmp .ge 35, 3) := by decide +kernel
theorem own_d38_37 : decode jdk_65_method_131_code 37 = .ok (.return_, 1) := by decide +kernel
theorem own_pn3 : plainName "java/util/Arrays" = true := by first | (simp [plainName, overriddenIn]; done) | decide +kernel
theorem own_d37_0 : decode jdk_65_method_133_code 0 = .ok (.iload_n 1, 1) := by decide +kernel
theorem own_d37_1 : decode jdk_65_method_133_code 1 = .ok (.iload_n 2, 1) := by decide +kernel
theorem own_w209 {a0 : Array Value} {Z : State} (hw : ∀ d ∈ tables_1, d.before a0 Z = true) : (Jvm.Cond.methodLink "java/util/Arrays" (343 : Nat) ({ cls := "java/util/Arrays", name := "checkLength", desc := "(II)V" } : Jvm.MethodName)).before a0 Z = true := hw _ (List.mem_of_getElem? (i := 209) rfl)
theorem own_pd7 : parseMethodDescriptor "(II)V" = some ⟨[.int, .int], none⟩ := by decide +kernel
theorem own_d37_2 : decode jdk_65_method_133_code 2 = .ok (.invokestatic 343, 3) := by decide +kernel
theorem own_w210 {a0 : Array Value} {Z : State} (hw : ∀ d ∈ tables_1, d.before a0 Z = true) : (Jvm.Cond.static ({ cls := "java/util/Arrays", name := "checkLength", desc := "(II)V" } : Jvm.MethodName)).before a0 Z = true := hw _ (List.mem_of_getElem? (i := 210) rfl)
theorem own_w204 {a0 : Array Value} {Z : State} (hw : ∀ d ∈ tables_1, d.before a0 Z = true) : (Jvm.Cond.initialized "java/util/Arrays").before a0 Z = true := hw _ (List.mem_of_getElem? (i := 204) rfl)
theorem own_w211 {a0 : Array Value} {Z : State} (hw : ∀ d ∈ tables_1, d.before a0 Z = true) : (Jvm.Cond.code ({ cls := "java/util/Arrays", name := "checkLength", desc := "(II)V" } : Jvm.MethodName) jdk_65_method_131_code (2 : Nat) (Option.none : Option Jvm.ClassFile.FieldType)).before a0 Z = true := hw _ (List.mem_of_getElem? (i := 211) rfl)
theorem own_d37_5 : decode jdk_65_method_133_code 5 = .ok (.iload_n 2, 1) := by decide +kernel
theorem own_d37_6 : decode jdk_65_method_133_code 6 = .ok (.iload_n 1, 1) := by decide +kernel
theorem own_d37_7 : decode jdk_65_method_133_code 7 = .ok (.isub, 1) := by decide +kernel
theorem own_d37_8 : decode jdk_65_method_133_code 8 = .ok (.istore_n 3, 1) := by decide +kernel
theorem own_d37_9 : decode jdk_65_method_133_code 9 = .ok (.iload_n 3, 1) := by decide +kernel
theorem own_d37_10 : decode jdk_65_method_133_code 10 = .ok (.newarray .byte, 2) := by decide +kernel
theorem own_d37_12 : decode jdk_65_method_133_code 12 = .ok (.astore 4, 2) := by decide +kernel
theorem own_d37_14 : decode jdk_65_method_133_code 14 = .ok (.aload_n 0, 1) := by decide +kernel
theorem own_d37_15 : decode jdk_65_method_133_code 15 = .ok (.iload_n 1, 1) := by decide +kernel
theorem own_d37_16 : decode jdk_65_method_133_code 16 = .ok (.aload 4, 2) := by decide +kernel
theorem own_d37_18 : decode jdk_65_method_133_code 18 = .ok (.iconst 0, 1) := by decide +kernel
theorem own_d37_19 : decode jdk_65_method_133_code 19 = .ok (.aload_n 0, 1) := by decide +kernel
theorem own_d37_20 : decode jdk_65_method_133_code 20 = .ok (.arraylength, 1) := by decide +kernel
theorem own_d37_21 : decode jdk_65_method_133_code 21 = .ok (.iload_n 1, 1) := by decide +kernel
theorem own_d37_22 : decode jdk_65_method_133_code 22 = .ok (.isub, 1) := by decide +kernel
theorem own_d37_23 : decode jdk_65_method_133_code 23 = .ok (.iload_n 3, 1) := by decide +kernel
theorem own_w212 {a0 : Array Value} {Z : State} (hw : ∀ d ∈ tables_1, d.before a0 Z = true) : (Jvm.Cond.methodLink "java/util/Arrays" (304 : Nat) ({ cls := "java/lang/Math", name := "min", desc := "(II)I" } : Jvm.MethodName)).before a0 Z = true := hw _ (List.mem_of_getElem? (i := 212) rfl)
theorem own_pd8 : parseMethodDescriptor "(II)I" = some ⟨[.int, .int], some .int⟩ := by decide +kernel
theorem own_d37_24 : decode jdk_65_method_133_code 24 = .ok (.invokestatic 304, 3) := by decide +kernel
theorem own_w213 {a0 : Array Value} {Z : State} (hw : ∀ d ∈ tables_1, d.before a0 Z = true) : (Jvm.Cond.static ({ cls := "java/lang/Math", name := "min", desc := "(II)I" } : Jvm.MethodName)).before a0 Z = true := hw _ (List.mem_of_getElem? (i := 213) rfl)
theorem own_w214 {a0 : Array Value} {Z : State} (hw : ∀ d ∈ tables_1, d.before a0 Z = true) : (Jvm.Cond.initialized "java/lang/Math").before a0 Z = true := hw _ (List.mem_of_getElem? (i := 214) rfl)
theorem own_w215 {a0 : Array Value} {Z : State} (hw : ∀ d ∈ tables_1, d.before a0 Z = true) : (Jvm.Cond.code ({ cls := "java/lang/Math", name := "min", desc := "(II)I" } : Jvm.MethodName) jdk_29_method_69_code (2 : Nat) (Option.some Jvm.ClassFile.FieldType.int)).before a0 Z = true := hw _ (List.mem_of_getElem? (i := 215) rfl)
theorem own_w216 {a0 : Array Value} {Z : State} (hw : ∀ d ∈ tables_1, d.before a0 Z = true) : (Jvm.Cond.methodLink "java/util/Arrays" (150 : Nat) ({ cls := "java/lang/System", name := "arraycopy", desc := "(Ljava/lang/Object;ILjava/lang/Object;II)V" } : Jvm.MethodName)).before a0 Z = true := hw _ (List.mem_of_getElem? (i := 216) rfl)
theorem own_d37_27 : decode jdk_65_method_133_code 27 = .ok (.invokestatic 150, 3) := by decide +kernel
theorem own_d37_30 : decode jdk_65_method_133_code 30 = .ok (.aload 4, 2) := by decide +kernel
theorem own_d37_32 : decode jdk_65_method_133_code 32 = .ok (.areturn, 1) := by decide +kernel
theorem own_d36_0 : decode jdk_65_method_132_code 0 = .ok (.iload_n 1, 1) := by decide +kernel
theorem own_d36_1 : decode jdk_65_method_132_code 1 = .ok (.ifCond .ne 9, 3) := by decide +kernel
theorem own_d36_4 : decode jdk_65_method_132_code 4 = .ok (.iload_n 2, 1) := by decide +kernel
theorem own_d36_5 : decode jdk_65_method_132_code 5 = .ok (.aload_n 0, 1) := by decide +kernel
theorem own_d36_6 : decode jdk_65_method_132_code 6 = .ok (.arraylength, 1) := by decide +kernel
theorem own_d36_7 : decode jdk_65_method_132_code 7 = .ok (.if_icmp .eq 10, 3) := by decide +kernel
theorem own_d36_10 : decode jdk_65_method_132_code 10 = .ok (.aload_n 0, 1) := by decide +kernel
theorem own_d36_11 : decode jdk_65_method_132_code 11 = .ok (.iload_n 1, 1) := by decide +kernel
theorem own_d36_12 : decode jdk_65_method_132_code 12 = .ok (.iload_n 2, 1) := by decide +kernel
theorem own_w206 {a0 : Array Value} {Z : State} (hw : ∀ d ∈ tables_1, d.before a0 Z = true) : (Jvm.Cond.methodLink "java/util/Arrays" (339 : Nat) ({ cls := "java/util/Arrays", name := "copyOfRangeByte", desc := "([BII)[B" } : Jvm.MethodName)).before a0 Z = true := hw _ (List.mem_of_getElem? (i := 206) rfl)
theorem own_pd9 : parseMethodDescriptor "([BII)[B" = some ⟨[(.array .byte), .int, .int], some (.array .byte)⟩ := by decide +kernel
theorem own_d36_13 : decode jdk_65_method_132_code 13 = .ok (.invokestatic 339, 3) := by decide +kernel
theorem own_w207 {a0 : Array Value} {Z : State} (hw : ∀ d ∈ tables_1, d.before a0 Z = true) : (Jvm.Cond.static ({ cls := "java/util/Arrays", name := "copyOfRangeByte", desc := "([BII)[B" } : Jvm.MethodName)).before a0 Z = true := hw _ (List.mem_of_getElem? (i := 207) rfl)
theorem own_w208 {a0 : Array Value} {Z : State} (hw : ∀ d ∈ tables_1, d.before a0 Z = true) : (Jvm.Cond.code ({ cls := "java/util/Arrays", name := "copyOfRangeByte", desc := "([BII)[B" } : Jvm.MethodName) jdk_65_method_133_code (5 : Nat) (Option.some (Jvm.ClassFile.FieldType.array Jvm.ClassFile.FieldType.byte))).before a0 Z = true := hw _ (List.mem_of_getElem? (i := 208) rfl)
theorem own_d36_16 : decode jdk_65_method_132_code 16 = .ok (.areturn, 1) := by decide +kernel
theorem own_d32_0 : decode jdk_68_method_64_code 0 = .ok (.aload_n 0, 1) := by decide +kernel
theorem own_d32_1 : decode jdk_68_method_64_code 1 = .ok (.getfield 15, 3) := by decide +kernel
theorem own_d32_4 : decode jdk_68_method_64_code 4 = .ok (.areturn, 1) := by decide +kernel
theorem own_d34_0 : decode jdk_68_method_6_code 0 = .ok (.aload_n 0, 1) := by decide +kernel
theorem own_d34_1 : decode jdk_68_method_6_code 1 = .ok (.getfield 79, 3) := by decide +kernel
theorem own_d34_4 : decode jdk_68_method_6_code 4 = .ok (.ireturn, 1) := by decide +kernel
theorem own_d33_0 : decode jdk_67_method_93_code 0 = .ok (.aload_n 0, 1) := by decide +kernel
theorem own_w195 {a0 : Array Value} {Z : State} (hw : ∀ d ∈ tables_1, d.before a0 Z = true) : (Jvm.Cond.methodLink "java/lang/StringBuilder" (343 : Nat) ({ cls := "java/lang/AbstractStringBuilder", name := "length", desc := "()I" } : Jvm.MethodName)).before a0 Z = true := hw _ (List.mem_of_getElem? (i := 195) rfl)
theorem own_d33_1 : decode jdk_67_method_93_code 1 = .ok (.invokespecial 343, 3) := by decide +kernel
theorem own_w191 {a0 : Array Value} {Z : State} (hw : ∀ d ∈ tables_1, d.before a0 Z = true) : (Jvm.Cond.instanceMethod ({ cls := "java/lang/AbstractStringBuilder", name := "length", desc := "()I" } : Jvm.MethodName)).before a0 Z = true := hw _ (List.mem_of_getElem? (i := 191) rfl)
theorem own_w196 {a0 : Array Value} {Z : State} (hw : ∀ d ∈ tables_1, d.before a0 Z = true) : (Jvm.Cond.code ({ cls := "java/lang/AbstractStringBuilder", name := "length", desc := "()I" } : Jvm.MethodName) jdk_68_method_6_code (1 : Nat) (Option.some Jvm.ClassFile.FieldType.int)).before a0 Z = true := hw _ (List.mem_of_getElem? (i := 196) rfl)
theorem own_d33_4 : decode jdk_67_method_93_code 4 = .ok (.ireturn, 1) := by decide +kernel
theorem own_d35_0 : decode jdk_68_method_68_code 0 = .ok (.getstatic 18, 3) := by decide +kernel
theorem own_d35_3 : decode jdk_68_method_68_code 3 = .ok (.ifCond .eq 14, 3) := by decide +kernel
theorem own_d35_6 : decode jdk_68_method_68_code 6 = .ok (.aload_n 0, 1) := by decide +kernel
theorem own_d35_7 : decode jdk_68_method_68_code 7 = .ok (.getfield 22, 3) := by decide +kernel
theorem own_d35_10 : decode jdk_68_method_68_code 10 = .ok (.ifCond .ne 7, 3) := by decide +kernel
theorem own_d35_13 : decode jdk_68_method_68_code 13 = .ok (.iconst 1, 1) := by decide +kernel
theorem own_d35_14 : decode jdk_68_method_68_code 14 = .ok (.goto 4, 3) := by decide +kernel
theorem own_d35_18 : decode jdk_68_method_68_code 18 = .ok (.ireturn, 1) := by decide +kernel
theorem own_w1 {a0 : Array Value} {Z : State} (hw : ∀ d ∈ tables_1, d.before a0 Z = true) : (Jvm.Cond.instantiable "java/lang/String" (4 : Nat)).before a0 Z = true := hw _ (List.mem_of_getElem? (i := 1) rfl)
theorem own_d31_0 : decode jdk_42_method_150_code 0 = .ok (.aload_n 0, 1) := by decide +kernel
theorem own_w11 {a0 : Array Value} {Z : State} (hw : ∀ d ∈ tables_1, d.before a0 Z = true) : (Jvm.Cond.methodLink "java/lang/String" (1 : Nat) ({ cls := "java/lang/Object", name := "<init>", desc := "()V" } : Jvm.MethodName)).before a0 Z = true := hw _ (List.mem_of_getElem? (i := 11) rfl)
theorem own_d31_1 : decode jdk_42_method_150_code 1 = .ok (.invokespecial 1, 3) := by decide +kernel
theorem own_d31_4 : decode jdk_42_method_150_code 4 = .ok (.aload_n 1, 1) := by decide +kernel
theorem own_w184 {a0 : Array Value} {Z : State} (hw : ∀ d ∈ tables_1, d.before a0 Z = true) : (Jvm.Cond.methodLink "java/lang/String" (552 : Nat) ({ cls := "java/lang/AbstractStringBuilder", name := "getValue", desc := "()[B" } : Jvm.MethodName)).before a0 Z = true := hw _ (List.mem_of_getElem? (i := 184) rfl)
theorem own_pd10 : parseMethodDescriptor "()[B" = some ⟨[], some (.array .byte)⟩ := by decide +kernel
theorem own_d31_5 : decode jdk_42_method_150_code 5 = .ok (.invokevirtual 552, 3) := by decide +kernel
theorem own_w187 {a0 : Array Value} {Z : State} (hw : ∀ d ∈ tables_1, d.before a0 Z = true) : (Jvm.Cond.selects "java/lang/StringBuilder" ({ cls := "java/lang/AbstractStringBuilder", name := "getValue", desc := "()[B" } : Jvm.MethodName) ({ cls := "java/lang/AbstractStringBuilder", name := "getValue", desc := "()[B" } : Jvm.MethodName)).before a0 Z = true := hw _ (List.mem_of_getElem? (i := 187) rfl)
theorem own_w185 {a0 : Array Value} {Z : State} (hw : ∀ d ∈ tables_1, d.before a0 Z = true) : (Jvm.Cond.declares ({ cls := "java/lang/AbstractStringBuilder", name := "getValue", desc := "()[B" } : Jvm.MethodName)).before a0 Z = true := hw _ (List.mem_of_getElem? (i := 185) rfl)
theorem own_w186 {a0 : Array Value} {Z : State} (hw : ∀ d ∈ tables_1, d.before a0 Z = true) : (Jvm.Cond.instanceMethod ({ cls := "java/lang/AbstractStringBuilder", name := "getValue", desc := "()[B" } : Jvm.MethodName)).before a0 Z = true := hw _ (List.mem_of_getElem? (i := 186) rfl)
theorem own_w188 {a0 : Array Value} {Z : State} (hw : ∀ d ∈ tables_1, d.before a0 Z = true) : (Jvm.Cond.code ({ cls := "java/lang/AbstractStringBuilder", name := "getValue", desc := "()[B" } : Jvm.MethodName) jdk_68_method_64_code (1 : Nat) (Option.some (Jvm.ClassFile.FieldType.array Jvm.ClassFile.FieldType.byte))).before a0 Z = true := hw _ (List.mem_of_getElem? (i := 188) rfl)
theorem own_d31_8 : decode jdk_42_method_150_code 8 = .ok (.astore_n 3, 1) := by decide +kernel
theorem own_d31_9 : decode jdk_42_method_150_code 9 = .ok (.aload_n 1, 1) := by decide +kernel
theorem own_w189 {a0 : Array Value} {Z : State} (hw : ∀ d ∈ tables_1, d.before a0 Z = true) : (Jvm.Cond.methodLink "java/lang/String" (549 : Nat) ({ cls := "java/lang/AbstractStringBuilder", name := "length", desc := "()I" } : Jvm.MethodName)).before a0 Z = true := hw _ (List.mem_of_getElem? (i := 189) rfl)
theorem own_d31_10 : decode jdk_42_method_150_code 10 = .ok (.invokevirtual 549, 3) := by decide +kernel
theorem own_w192 {a0 : Array Value} {Z : State} (hw : ∀ d ∈ tables_1, d.before a0 Z = true) : (Jvm.Cond.selects "java/lang/StringBuilder" ({ cls := "java/lang/AbstractStringBuilder", name := "length", desc := "()I" } : Jvm.MethodName) ({ cls := "java/lang/StringBuilder", name := "length", desc := "()I" } : Jvm.MethodName)).before a0 Z = true := hw _ (List.mem_of_getElem? (i := 192) rfl)
theorem own_w190 {a0 : Array Value} {Z : State} (hw : ∀ d ∈ tables_1, d.before a0 Z = true) : (Jvm.Cond.declares ({ cls := "java/lang/AbstractStringBuilder", name := "length", desc := "()I" } : Jvm.MethodName)).before a0 Z = true := hw _ (List.mem_of_getElem? (i := 190) rfl)
theorem own_w193 {a0 : Array Value} {Z : State} (hw : ∀ d ∈ tables_1, d.before a0 Z = true) : (Jvm.Cond.instanceMethod ({ cls := "java/lang/StringBuilder", name := "length", desc := "()I" } : Jvm.MethodName)).before a0 Z = true := hw _ (List.mem_of_getElem? (i := 193) rfl)
theorem own_w107 {a0 : Array Value} {Z : State} (hw : ∀ d ∈ tables_1, d.before a0 Z = true) : (Jvm.Cond.initialized "java/lang/StringBuilder").before a0 Z = true := hw _ (List.mem_of_getElem? (i := 107) rfl)
theorem own_w194 {a0 : Array Value} {Z : State} (hw : ∀ d ∈ tables_1, d.before a0 Z = true) : (Jvm.Cond.code ({ cls := "java/lang/StringBuilder", name := "length", desc := "()I" } : Jvm.MethodName) jdk_67_method_93_code (1 : Nat) (Option.some Jvm.ClassFile.FieldType.int)).before a0 Z = true := hw _ (List.mem_of_getElem? (i := 194) rfl)
theorem own_d31_13 : decode jdk_42_method_150_code 13 = .ok (.istore 4, 2) := by decide +kernel
theorem own_d31_15 : decode jdk_42_method_150_code 15 = .ok (.aload_n 1, 1) := by decide +kernel
theorem own_w197 {a0 : Array Value} {Z : State} (hw : ∀ d ∈ tables_1, d.before a0 Z = true) : (Jvm.Cond.methodLink "java/lang/String" (1047 : Nat) ({ cls := "java/lang/AbstractStringBuilder", name := "isLatin1", desc := "()Z" } : Jvm.MethodName)).before a0 Z = true := hw _ (List.mem_of_getElem? (i := 197) rfl)
theorem own_pd11 : parseMethodDescriptor "()Z" = some ⟨[], some .boolean⟩ := by decide +kernel
theorem own_d31_16 : decode jdk_42_method_150_code 16 = .ok (.invokevirtual 1047, 3) := by decide +kernel
theorem own_w200 {a0 : Array Value} {Z : State} (hw : ∀ d ∈ tables_1, d.before a0 Z = true) : (Jvm.Cond.selects "java/lang/StringBuilder" ({ cls := "java/lang/AbstractStringBuilder", name := "isLatin1", desc := "()Z" } : Jvm.MethodName) ({ cls := "java/lang/AbstractStringBuilder", name := "isLatin1", desc := "()Z" } : Jvm.MethodName)).before a0 Z = true := hw _ (List.mem_of_getElem? (i := 200) rfl)
theorem own_w198 {a0 : Array Value} {Z : State} (hw : ∀ d ∈ tables_1, d.before a0 Z = true) : (Jvm.Cond.declares ({ cls := "java/lang/AbstractStringBuilder", name := "isLatin1", desc := "()Z" } : Jvm.MethodName)).before a0 Z = true := hw _ (List.mem_of_getElem? (i := 198) rfl)
theorem own_w199 {a0 : Array Value} {Z : State} (hw : ∀ d ∈ tables_1, d.before a0 Z = true) : (Jvm.Cond.instanceMethod ({ cls := "java/lang/AbstractStringBuilder", name := "isLatin1", desc := "()Z" } : Jvm.MethodName)).before a0 Z = true := hw _ (List.mem_of_getElem? (i := 199) rfl)
theorem own_w201 {a0 : Array Value} {Z : State} (hw : ∀ d ∈ tables_1, d.before a0 Z = true) : (Jvm.Cond.code ({ cls := "java/lang/AbstractStringBuilder", name := "isLatin1", desc := "()Z" } : Jvm.MethodName) jdk_68_method_68_code (1 : Nat) (Option.some Jvm.ClassFile.FieldType.boolean)).before a0 Z = true := hw _ (List.mem_of_getElem? (i := 201) rfl)
theorem own_d31_19 : decode jdk_42_method_150_code 19 = .ok (.ifCond .eq 22, 3) := by decide +kernel
theorem own_d31_22 : decode jdk_42_method_150_code 22 = .ok (.aload_n 0, 1) := by decide +kernel
theorem own_d31_23 : decode jdk_42_method_150_code 23 = .ok (.iconst 0, 1) := by decide +kernel
theorem own_w27 {a0 : Array Value} {Z : State} (hw : ∀ d ∈ tables_1, d.before a0 Z = true) : (Jvm.Cond.laysFinal "java/lang/String" "java/lang/String" "coder" "B").before a0 Z = true := hw _ (List.mem_of_getElem? (i := 27) rfl)
theorem own_d31_24 : decode jdk_42_method_150_code 24 = .ok (.putfield 15, 3) := by decide +kernel
theorem own_w29 {a0 : Array Value} {Z : State} (hw : ∀ d ∈ tables_1, d.before a0 Z = true) : (Jvm.Cond.laysFinal "java/lang/String" "java/lang/String" "value" "[B").before a0 Z = true := hw _ (List.mem_of_getElem? (i := 29) rfl)
theorem own_d31_27 : decode jdk_42_method_150_code 27 = .ok (.aload_n 0, 1) := by decide +kernel
theorem own_d31_28 : decode jdk_42_method_150_code 28 = .ok (.aload_n 3, 1) := by decide +kernel
theorem own_d31_29 : decode jdk_42_method_150_code 29 = .ok (.iconst 0, 1) := by decide +kernel
theorem own_d31_30 : decode jdk_42_method_150_code 30 = .ok (.iload 4, 2) := by decide +kernel
theorem own_w202 {a0 : Array Value} {Z : State} (hw : ∀ d ∈ tables_1, d.before a0 Z = true) : (Jvm.Cond.methodLink "java/lang/String" (54 : Nat) ({ cls := "java/util/Arrays", name := "copyOfRange", desc := "([BII)[B" } : Jvm.MethodName)).before a0 Z = true := hw _ (List.mem_of_getElem? (i := 202) rfl)
theorem own_d31_32 : decode jdk_42_method_150_code 32 = .ok (.invokestatic 54, 3) := by decide +kernel
theorem own_w203 {a0 : Array Value} {Z : State} (hw : ∀ d ∈ tables_1, d.before a0 Z = true) : (Jvm.Cond.static ({ cls := "java/util/Arrays", name := "copyOfRange", desc := "([BII)[B" } : Jvm.MethodName)).before a0 Z = true := hw _ (List.mem_of_getElem? (i := 203) rfl)
theorem own_w205 {a0 : Array Value} {Z : State} (hw : ∀ d ∈ tables_1, d.before a0 Z = true) : (Jvm.Cond.code ({ cls := "java/util/Arrays", name := "copyOfRange", desc := "([BII)[B" } : Jvm.MethodName) jdk_65_method_132_code (3 : Nat) (Option.some (Jvm.ClassFile.FieldType.array Jvm.ClassFile.FieldType.byte))).before a0 Z = true := hw _ (List.mem_of_getElem? (i := 205) rfl)
theorem own_d31_35 : decode jdk_42_method_150_code 35 = .ok (.putfield 9, 3) := by decide +kernel
theorem own_d31_38 : decode jdk_42_method_150_code 38 = .ok (.goto 59, 3) := by decide +kernel
theorem own_d31_97 : decode jdk_42_method_150_code 97 = .ok (.return_, 1) := by decide +kernel
theorem own_d30_0 : decode jdk_42_method_53_code 0 = .ok (.aload_n 0, 1) := by decide +kernel
theorem own_d30_1 : decode jdk_42_method_53_code 1 = .ok (.aload_n 1, 1) := by decide +kernel
theorem own_d30_2 : decode jdk_42_method_53_code 2 = .ok (.aconst_null, 1) := by decide +kernel
theorem own_w181 {a0 : Array Value} {Z : State} (hw : ∀ d ∈ tables_1, d.before a0 Z = true) : (Jvm.Cond.methodLink "java/lang/String" (489 : Nat) ({ cls := "java/lang/String", name := "<init>", desc := "(Ljava/lang/AbstractStringBuilder;Ljava/lang/Void;)V" } : Jvm.MethodName)).before a0 Z = true := hw _ (List.mem_of_getElem? (i := 181) rfl)
theorem own_pd12 : parseMethodDescriptor "(Ljava/lang/AbstractStringBuilder;Ljava/lang/Void;)V" = some ⟨[(.object "java/lang/AbstractStringBuilder"), (.object "java/lang/Void")], none⟩ := by decide +kernel
theorem own_d30_3 : decode jdk_42_method_53_code 3 = .ok (.invokespecial 489, 3) := by decide +kernel
theorem own_w182 {a0 : Array Value} {Z : State} (hw : ∀ d ∈ tables_1, d.before a0 Z = true) : (Jvm.Cond.instanceMethod ({ cls := "java/lang/String", name := "<init>", desc := "(Ljava/lang/AbstractStringBuilder;Ljava/lang/Void;)V" } : Jvm.MethodName)).before a0 Z = true := hw _ (List.mem_of_getElem? (i := 182) rfl)
theorem own_w183 {a0 : Array Value} {Z : State} (hw : ∀ d ∈ tables_1, d.before a0 Z = true) : (Jvm.Cond.code ({ cls := "java/lang/String", name := "<init>", desc := "(Ljava/lang/AbstractStringBuilder;Ljava/lang/Void;)V" } : Jvm.MethodName) jdk_42_method_150_code (5 : Nat) (Option.none : Option Jvm.ClassFile.FieldType)).before a0 Z = true := hw _ (List.mem_of_getElem? (i := 183) rfl)
theorem own_d30_6 : decode jdk_42_method_53_code 6 = .ok (.return_, 1) := by decide +kernel
theorem own_w177 {a0 : Array Value} {Z : State} (hw : ∀ d ∈ tables_1, d.before a0 Z = true) : (Jvm.Cond.classLink "java/lang/StringBuilder" (18 : Nat) "java/lang/String").before a0 Z = true := hw _ (List.mem_of_getElem? (i := 177) rfl)
theorem own_d29_0 : decode jdk_67_method_42_code 0 = .ok (.new 18, 3) := by decide +kernel
theorem own_d29_3 : decode jdk_67_method_42_code 3 = .ok (.dup, 1) := by decide +kernel
theorem own_d29_4 : decode jdk_67_method_42_code 4 = .ok (.aload_n 0, 1) := by decide +kernel
theorem own_w178 {a0 : Array Value} {Z : State} (hw : ∀ d ∈ tables_1, d.before a0 Z = true) : (Jvm.Cond.methodLink "java/lang/StringBuilder" (137 : Nat) ({ cls := "java/lang/String", name := "<init>", desc := "(Ljava/lang/StringBuilder;)V" } : Jvm.MethodName)).before a0 Z = true := hw _ (List.mem_of_getElem? (i := 178) rfl)
theorem own_pd13 : parseMethodDescriptor "(Ljava/lang/StringBuilder;)V" = some ⟨[(.object "java/lang/StringBuilder")], none⟩ := by decide +kernel
theorem own_d29_5 : decode jdk_67_method_42_code 5 = .ok (.invokespecial 137, 3) := by decide +kernel
theorem own_w179 {a0 : Array Value} {Z : State} (hw : ∀ d ∈ tables_1, d.before a0 Z = true) : (Jvm.Cond.instanceMethod ({ cls := "java/lang/String", name := "<init>", desc := "(Ljava/lang/StringBuilder;)V" } : Jvm.MethodName)).before a0 Z = true := hw _ (List.mem_of_getElem? (i := 179) rfl)
theorem own_w180 {a0 : Array Value} {Z : State} (hw : ∀ d ∈ tables_1, d.before a0 Z = true) : (Jvm.Cond.code ({ cls := "java/lang/String", name := "<init>", desc := "(Ljava/lang/StringBuilder;)V" } : Jvm.MethodName) jdk_42_method_53_code (2 : Nat) (Option.none : Option Jvm.ClassFile.FieldType)).before a0 Z = true := hw _ (List.mem_of_getElem? (i := 180) rfl)
theorem own_d29_8 : decode jdk_67_method_42_code 8 = .ok (.areturn, 1) := by decide +kernel
theorem own_d17_0 : decode jdk_31_method_10_code 0 = .ok (.aload_n 0, 1) := by decide +kernel
theorem own_d17_1 : decode jdk_31_method_10_code 1 = .ok (.ifnonnull 11, 3) := by decide +kernel
theorem own_d17_12 : decode jdk_31_method_10_code 12 = .ok (.aload_n 0, 1) := by decide +kernel
theorem own_d17_13 : decode jdk_31_method_10_code 13 = .ok (.areturn, 1) := by decide +kernel
theorem own_pn4 : plainName "java/util/Objects" = true := by first | (simp [plainName, overriddenIn]; done) | decide +kernel
theorem own_w40 {a0 : Array Value} {Z : State} (hw : ∀ d ∈ tables_1, d.before a0 Z = true) : (Jvm.Cond.fieldLink "java/util/Optional" (1 : Nat) "java/util/Optional" "EMPTY" "Ljava/util/Optional;").before a0 Z = true := hw _ (List.mem_of_getElem? (i := 40) rfl)
theorem own_d8_0 : decode jdk_32_method_1_code 0 = .ok (.getstatic 1, 3) := by decide +kernel
theorem own_d8_3 : decode jdk_32_method_1_code 3 = .ok (.astore_n 0, 1) := by decide +kernel
theorem own_d8_4 : decode jdk_32_method_1_code 4 = .ok (.aload_n 0, 1) := by decide +kernel
theorem own_d8_5 : decode jdk_32_method_1_code 5 = .ok (.areturn, 1) := by decide +kernel
theorem own_pn5 : plainName "java/util/Optional" = true := by first | (simp [plainName, overriddenIn]; done) | decide +kernel
theorem own_d40_0 : decode jdk_32_method_15_code 0 = .ok (.aload_n 0, 1) := by decide +kernel
theorem own_w102 {a0 : Array Value} {Z : State} (hw : ∀ d ∈ tables_1, d.before a0 Z = true) : (Jvm.Cond.fieldLink "java/util/Optional" (13 : Nat) "java/util/Optional" "value" "Ljava/lang/Object;").before a0 Z = true := hw _ (List.mem_of_getElem? (i := 102) rfl)
theorem own_d40_1 : decode jdk_32_method_15_code 1 = .ok (.getfield 13, 3) := by decide +kernel
theorem own_d40_4 : decode jdk_32_method_15_code 4 = .ok (.ifnull 10, 3) := by decide +kernel
theorem own_d40_7 : decode jdk_32_method_15_code 7 = .ok (.aload_n 0, 1) := by decide +kernel
theorem own_d40_8 : decode jdk_32_method_15_code 8 = .ok (.getfield 13, 3) := by decide +kernel
theorem own_d40_11 : decode jdk_32_method_15_code 11 = .ok (.goto 4, 3) := by decide +kernel
theorem own_d40_15 : decode jdk_32_method_15_code 15 = .ok (.areturn, 1) := by decide +kernel
theorem own_d40_14 : decode jdk_32_method_15_code 14 = .ok (.aload_n 1, 1) := by decide +kernel
theorem own_d13_0 : decode jdk_42_method_66_code 0 = .ok (.aload_n 0, 1) := by decide +kernel
theorem own_d13_1 : decode jdk_42_method_66_code 1 = .ok (.aload_n 1, 1) := by decide +kernel
theorem own_d13_2 : decode jdk_42_method_66_code 2 = .ok (.if_acmp .ne 5, 3) := by decide +kernel
theorem own_d13_7 : decode jdk_42_method_66_code 7 = .ok (.aload_n 1, 1) := by decide +kernel
theorem own_d13_8 : decode jdk_42_method_66_code 8 = .ok (.instanceof 10, 3) := by decide +kernel
theorem own_d13_11 : decode jdk_42_method_66_code 11 = .ok (.ifCond .eq 43, 3) := by decide +kernel
theorem own_d13_54 : decode jdk_42_method_66_code 54 = .ok (.iconst 0, 1) := by decide +kernel
theorem own_d13_55 : decode jdk_42_method_66_code 55 = .ok (.ireturn, 1) := by decide +kernel
theorem own_d10_0 : decode jdk_30_method_1_code 0 = .ok (.aload_n 0, 1) := by decide +kernel
theorem own_w49 {a0 : Array Value} {Z : State} (hw : ∀ d ∈ tables_1, d.before a0 Z = true) : (Jvm.Cond.methodLink "java/lang/Record" (1 : Nat) ({ cls := "java/lang/Object", name := "<init>", desc := "()V" } : Jvm.MethodName)).before a0 Z = true := hw _ (List.mem_of_getElem? (i := 49) rfl)
theorem own_d10_1 : decode jdk_30_method_1_code 1 = .ok (.invokespecial 1, 3) := by decide +kernel
theorem own_d10_4 : decode jdk_30_method_1_code 4 = .ok (.return_, 1) := by decide +kernel
theorem own_pn6 : plainName "java/lang/Record" = true := by first | (simp [plainName, overriddenIn]; done) | decide +kernel
theorem own_d11_0 : decode jdk_31_method_11_code 0 = .ok (.aload_n 0, 1) := by decide +kernel
theorem own_d11_1 : decode jdk_31_method_11_code 1 = .ok (.ifnonnull 12, 3) := by decide +kernel
theorem own_d11_13 : decode jdk_31_method_11_code 13 = .ok (.aload_n 0, 1) := by decide +kernel
theorem own_d11_14 : decode jdk_31_method_11_code 14 = .ok (.areturn, 1) := by decide +kernel
theorem own_d18_0 : decode jdk_32_method_7_code 0 = .ok (.aload_n 0, 1) := by decide +kernel
theorem own_d18_1 : decode jdk_32_method_7_code 1 = .ok (.getfield 13, 3) := by decide +kernel
theorem own_d18_4 : decode jdk_32_method_7_code 4 = .ok (.ifnonnull 7, 3) := by decide +kernel
theorem own_d18_7 : decode jdk_32_method_7_code 7 = .ok (.iconst 1, 1) := by decide +kernel
theorem own_d18_8 : decode jdk_32_method_7_code 8 = .ok (.goto 4, 3) := by decide +kernel
theorem own_d18_12 : decode jdk_32_method_7_code 12 = .ok (.ireturn, 1) := by decide +kernel
theorem own_d16_0 : decode jdk_32_method_11_code 0 = .ok (.aload_n 1, 1) := by decide +kernel
theorem own_w94 {a0 : Array Value} {Z : State} (hw : ∀ d ∈ tables_1, d.before a0 Z = true) : (Jvm.Cond.methodLink "java/util/Optional" (17 : Nat) ({ cls := "java/util/Objects", name := "requireNonNull", desc := "(Ljava/lang/Object;)Ljava/lang/Object;" } : Jvm.MethodName)).before a0 Z = true := hw _ (List.mem_of_getElem? (i := 94) rfl)
theorem own_pd14 : parseMethodDescriptor "(Ljava/lang/Object;)Ljava/lang/Object;" = some ⟨[(.object "java/lang/Object")], some (.object "java/lang/Object")⟩ := by decide +kernel
theorem own_d16_1 : decode jdk_32_method_11_code 1 = .ok (.invokestatic 17, 3) := by decide +kernel
theorem own_w95 {a0 : Array Value} {Z : State} (hw : ∀ d ∈ tables_1, d.before a0 Z = true) : (Jvm.Cond.static ({ cls := "java/util/Objects", name := "requireNonNull", desc := "(Ljava/lang/Object;)Ljava/lang/Object;" } : Jvm.MethodName)).before a0 Z = true := hw _ (List.mem_of_getElem? (i := 95) rfl)
theorem own_w55 {a0 : Array Value} {Z : State} (hw : ∀ d ∈ tables_1, d.before a0 Z = true) : (Jvm.Cond.initialized "java/util/Objects").before a0 Z = true := hw _ (List.mem_of_getElem? (i := 55) rfl)
theorem own_w96 {a0 : Array Value} {Z : State} (hw : ∀ d ∈ tables_1, d.before a0 Z = true) : (Jvm.Cond.code ({ cls := "java/util/Objects", name := "requireNonNull", desc := "(Ljava/lang/Object;)Ljava/lang/Object;" } : Jvm.MethodName) jdk_31_method_10_code (1 : Nat) (Option.some (Jvm.ClassFile.FieldType.object "java/lang/Object"))).before a0 Z = true := hw _ (List.mem_of_getElem? (i := 96) rfl)
theorem own_d16_4 : decode jdk_32_method_11_code 4 = .ok (.pop, 1) := by decide +kernel
theorem own_d16_5 : decode jdk_32_method_11_code 5 = .ok (.aload_n 0, 1) := by decide +kernel
theorem own_w97 {a0 : Array Value} {Z : State} (hw : ∀ d ∈ tables_1, d.before a0 Z = true) : (Jvm.Cond.methodLink "java/util/Optional" (43 : Nat) ({ cls := "java/util/Optional", name := "isEmpty", desc := "()Z" } : Jvm.MethodName)).before a0 Z = true := hw _ (List.mem_of_getElem? (i := 97) rfl)
theorem own_d16_6 : decode jdk_32_method_11_code 6 = .ok (.invokevirtual 43, 3) := by decide +kernel
theorem own_w100 {a0 : Array Value} {Z : State} (hw : ∀ d ∈ tables_1, d.before a0 Z = true) : (Jvm.Cond.selects "java/util/Optional" ({ cls := "java/util/Optional", name := "isEmpty", desc := "()Z" } : Jvm.MethodName) ({ cls := "java/util/Optional", name := "isEmpty", desc := "()Z" } : Jvm.MethodName)).before a0 Z = true := hw _ (List.mem_of_getElem? (i := 100) rfl)
theorem own_w98 {a0 : Array Value} {Z : State} (hw : ∀ d ∈ tables_1, d.before a0 Z = true) : (Jvm.Cond.declares ({ cls := "java/util/Optional", name := "isEmpty", desc := "()Z" } : Jvm.MethodName)).before a0 Z = true := hw _ (List.mem_of_getElem? (i := 98) rfl)
theorem own_w99 {a0 : Array Value} {Z : State} (hw : ∀ d ∈ tables_1, d.before a0 Z = true) : (Jvm.Cond.instanceMethod ({ cls := "java/util/Optional", name := "isEmpty", desc := "()Z" } : Jvm.MethodName)).before a0 Z = true := hw _ (List.mem_of_getElem? (i := 99) rfl)
theorem own_w38 {a0 : Array Value} {Z : State} (hw : ∀ d ∈ tables_1, d.before a0 Z = true) : (Jvm.Cond.initialized "java/util/Optional").before a0 Z = true := hw _ (List.mem_of_getElem? (i := 38) rfl)
theorem own_w101 {a0 : Array Value} {Z : State} (hw : ∀ d ∈ tables_1, d.before a0 Z = true) : (Jvm.Cond.code ({ cls := "java/util/Optional", name := "isEmpty", desc := "()Z" } : Jvm.MethodName) jdk_32_method_7_code (1 : Nat) (Option.some Jvm.ClassFile.FieldType.boolean)).before a0 Z = true := hw _ (List.mem_of_getElem? (i := 101) rfl)
theorem own_d16_9 : decode jdk_32_method_11_code 9 = .ok (.ifCond .eq 7, 3) := by decide +kernel
theorem own_w104 {a0 : Array Value} {Z : State} (hw : ∀ d ∈ tables_1, d.before a0 Z = true) : (Jvm.Cond.methodLink "java/util/Optional" (53 : Nat) ({ cls := "java/util/Optional", name := "empty", desc := "()Ljava/util/Optional;" } : Jvm.MethodName)).before a0 Z = true := hw _ (List.mem_of_getElem? (i := 104) rfl)
theorem own_pd15 : parseMethodDescriptor "()Ljava/util/Optional;" = some ⟨[], some (.object "java/util/Optional")⟩ := by decide +kernel
theorem own_d16_12 : decode jdk_32_method_11_code 12 = .ok (.invokestatic 53, 3) := by decide +kernel
theorem own_w37 {a0 : Array Value} {Z : State} (hw : ∀ d ∈ tables_1, d.before a0 Z = true) : (Jvm.Cond.static ({ cls := "java/util/Optional", name := "empty", desc := "()Ljava/util/Optional;" } : Jvm.MethodName)).before a0 Z = true := hw _ (List.mem_of_getElem? (i := 37) rfl)
theorem own_w39 {a0 : Array Value} {Z : State} (hw : ∀ d ∈ tables_1, d.before a0 Z = true) : (Jvm.Cond.code ({ cls := "java/util/Optional", name := "empty", desc := "()Ljava/util/Optional;" } : Jvm.MethodName) jdk_32_method_1_code (1 : Nat) (Option.some (Jvm.ClassFile.FieldType.object "java/util/Optional"))).before a0 Z = true := hw _ (List.mem_of_getElem? (i := 39) rfl)
theorem own_d16_15 : decode jdk_32_method_11_code 15 = .ok (.areturn, 1) := by decide +kernel
theorem own_d9_0 : decode prog_32_method_1_code 0 = .ok (.aload_n 0, 1) := by decide +kernel
theorem own_w44 {a0 : Array Value} {Z : State} (hw : ∀ d ∈ tables_1, d.before a0 Z = true) : (Jvm.Cond.methodLink "com/example/rein/rein/policy/Rule$Target" (1 : Nat) ({ cls := "java/lang/Record", name := "<init>", desc := "()V" } : Jvm.MethodName)).before a0 Z = true := hw _ (List.mem_of_getElem? (i := 44) rfl)
theorem own_w45 {a0 : Array Value} {Z : State} (hw : ∀ d ∈ tables_1, d.before a0 Z = true) : (Jvm.Cond.instanceMethod ({ cls := "java/lang/Record", name := "<init>", desc := "()V" } : Jvm.MethodName)).before a0 Z = true := hw _ (List.mem_of_getElem? (i := 45) rfl)
theorem own_w47 {a0 : Array Value} {Z : State} (hw : ∀ d ∈ tables_1, d.before a0 Z = true) : (Jvm.Cond.initialized "java/lang/Record").before a0 Z = true := hw _ (List.mem_of_getElem? (i := 47) rfl)
theorem own_w48 {a0 : Array Value} {Z : State} (hw : ∀ d ∈ tables_1, d.before a0 Z = true) : (Jvm.Cond.code ({ cls := "java/lang/Record", name := "<init>", desc := "()V" } : Jvm.MethodName) jdk_30_method_1_code (1 : Nat) (Option.none : Option Jvm.ClassFile.FieldType)).before a0 Z = true := hw _ (List.mem_of_getElem? (i := 48) rfl)
theorem own_pd16 : parseMethodDescriptor "()V" = some ⟨[], none⟩ := by decide +kernel
theorem own_d9_1 : decode prog_32_method_1_code 1 = .ok (.invokespecial 1, 3) := by decide +kernel
theorem own_d9_4 : decode prog_32_method_1_code 4 = .ok (.aload_n 1, 1) := by decide +kernel
theorem own_w50 {a0 : Array Value} {Z : State} (hw : ∀ d ∈ tables_1, d.before a0 Z = true) : (Jvm.Cond.stringLink "com/example/rein/rein/policy/Rule$Target" (7 : Nat) "collection").before a0 Z = true := hw _ (List.mem_of_getElem? (i := 50) rfl)
theorem own_d9_5 : decode prog_32_method_1_code 5 = .ok (.ldc 7, 2) := by decide +kernel
theorem own_w53 {a0 : Array Value} {Z : State} (hw : ∀ d ∈ tables_1, d.before a0 Z = true) : (Jvm.Cond.methodLink "com/example/rein/rein/policy/Rule$Target" (9 : Nat) ({ cls := "java/util/Objects", name := "requireNonNull", desc := "(Ljava/lang/Object;Ljava/lang/String;)Ljava/lang/Object;" } : Jvm.MethodName)).before a0 Z = true := hw _ (List.mem_of_getElem? (i := 53) rfl)
theorem own_pd17 : parseMethodDescriptor "(Ljava/lang/Object;Ljava/lang/String;)Ljava/lang/Object;" = some ⟨[(.object "java/lang/Object"), (.object "java/lang/String")], some (.object "java/lang/Object")⟩ := by decide +kernel
theorem own_d9_7 : decode prog_32_method_1_code 7 = .ok (.invokestatic 9, 3) := by decide +kernel
theorem own_w54 {a0 : Array Value} {Z : State} (hw : ∀ d ∈ tables_1, d.before a0 Z = true) : (Jvm.Cond.static ({ cls := "java/util/Objects", name := "requireNonNull", desc := "(Ljava/lang/Object;Ljava/lang/String;)Ljava/lang/Object;" } : Jvm.MethodName)).before a0 Z = true := hw _ (List.mem_of_getElem? (i := 54) rfl)
theorem own_w56 {a0 : Array Value} {Z : State} (hw : ∀ d ∈ tables_1, d.before a0 Z = true) : (Jvm.Cond.code ({ cls := "java/util/Objects", name := "requireNonNull", desc := "(Ljava/lang/Object;Ljava/lang/String;)Ljava/lang/Object;" } : Jvm.MethodName) jdk_31_method_11_code (2 : Nat) (Option.some (Jvm.ClassFile.FieldType.object "java/lang/Object"))).before a0 Z = true := hw _ (List.mem_of_getElem? (i := 56) rfl)
theorem own_d9_10 : decode prog_32_method_1_code 10 = .ok (.pop, 1) := by decide +kernel
theorem own_d9_11 : decode prog_32_method_1_code 11 = .ok (.aload_n 2, 1) := by decide +kernel
theorem own_w57 {a0 : Array Value} {Z : State} (hw : ∀ d ∈ tables_1, d.before a0 Z = true) : (Jvm.Cond.stringLink "com/example/rein/rein/policy/Rule$Target" (15 : Nat) "field").before a0 Z = true := hw _ (List.mem_of_getElem? (i := 57) rfl)
theorem own_d9_12 : decode prog_32_method_1_code 12 = .ok (.ldc 15, 2) := by decide +kernel
theorem own_d9_14 : decode prog_32_method_1_code 14 = .ok (.invokestatic 9, 3) := by decide +kernel
theorem own_d9_17 : decode prog_32_method_1_code 17 = .ok (.pop, 1) := by decide +kernel
theorem own_d9_18 : decode prog_32_method_1_code 18 = .ok (.aload_n 3, 1) := by decide +kernel
theorem own_w58 {a0 : Array Value} {Z : State} (hw : ∀ d ∈ tables_1, d.before a0 Z = true) : (Jvm.Cond.stringLink "com/example/rein/rein/policy/Rule$Target" (17 : Nat) "value").before a0 Z = true := hw _ (List.mem_of_getElem? (i := 58) rfl)
theorem own_d9_19 : decode prog_32_method_1_code 19 = .ok (.ldc 17, 2) := by decide +kernel
theorem own_d9_21 : decode prog_32_method_1_code 21 = .ok (.invokestatic 9, 3) := by decide +kernel
theorem own_d9_24 : decode prog_32_method_1_code 24 = .ok (.pop, 1) := by decide +kernel
theorem own_d9_25 : decode prog_32_method_1_code 25 = .ok (.aload_n 0, 1) := by decide +kernel
theorem own_d9_26 : decode prog_32_method_1_code 26 = .ok (.aload_n 1, 1) := by decide +kernel
theorem own_w59 {a0 : Array Value} {Z : State} (hw : ∀ d ∈ tables_1, d.before a0 Z = true) : (Jvm.Cond.fieldLink "com/example/rein/rein/policy/Rule$Target" (19 : Nat) "com/example/rein/rein/policy/Rule$Target" "collection" "Ljava/lang/String;").before a0 Z = true := hw _ (List.mem_of_getElem? (i := 59) rfl)
theorem own_w35 {a0 : Array Value} {Z : State} (hw : ∀ d ∈ tables_1, d.before a0 Z = true) : (Jvm.Cond.instantiable "com/example/rein/rein/policy/Rule$Target" (3 : Nat)).before a0 Z = true := hw _ (List.mem_of_getElem? (i := 35) rfl)
theorem own_w60 {a0 : Array Value} {Z : State} (hw : ∀ d ∈ tables_1, d.before a0 Z = true) : (Jvm.Cond.laysFinal "com/example/rein/rein/policy/Rule$Target" "com/example/rein/rein/policy/Rule$Target" "collection" "Ljava/lang/String;").before a0 Z = true := hw _ (List.mem_of_getElem? (i := 60) rfl)
theorem own_d9_27 : decode prog_32_method_1_code 27 = .ok (.putfield 19, 3) := by decide +kernel
theorem own_w62 {a0 : Array Value} {Z : State} (hw : ∀ d ∈ tables_1, d.before a0 Z = true) : (Jvm.Cond.laysFinal "com/example/rein/rein/policy/Rule$Target" "com/example/rein/rein/policy/Rule$Target" "field" "Ljava/lang/String;").before a0 Z = true := hw _ (List.mem_of_getElem? (i := 62) rfl)
theorem own_w64 {a0 : Array Value} {Z : State} (hw : ∀ d ∈ tables_1, d.before a0 Z = true) : (Jvm.Cond.laysFinal "com/example/rein/rein/policy/Rule$Target" "com/example/rein/rein/policy/Rule$Target" "value" "Ljava/util/Optional;").before a0 Z = true := hw _ (List.mem_of_getElem? (i := 64) rfl)
theorem own_d9_30 : decode prog_32_method_1_code 30 = .ok (.aload_n 0, 1) := by decide +kernel
theorem own_d9_31 : decode prog_32_method_1_code 31 = .ok (.aload_n 2, 1) := by decide +kernel
theorem own_w61 {a0 : Array Value} {Z : State} (hw : ∀ d ∈ tables_1, d.before a0 Z = true) : (Jvm.Cond.fieldLink "com/example/rein/rein/policy/Rule$Target" (24 : Nat) "com/example/rein/rein/policy/Rule$Target" "field" "Ljava/lang/String;").before a0 Z = true := hw _ (List.mem_of_getElem? (i := 61) rfl)
theorem own_d9_32 : decode prog_32_method_1_code 32 = .ok (.putfield 24, 3) := by decide +kernel
theorem own_d9_35 : decode prog_32_method_1_code 35 = .ok (.aload_n 0, 1) := by decide +kernel
theorem own_d9_36 : decode prog_32_method_1_code 36 = .ok (.aload_n 3, 1) := by decide +kernel
theorem own_w63 {a0 : Array Value} {Z : State} (hw : ∀ d ∈ tables_1, d.before a0 Z = true) : (Jvm.Cond.fieldLink "com/example/rein/rein/policy/Rule$Target" (26 : Nat) "com/example/rein/rein/policy/Rule$Target" "value" "Ljava/util/Optional;").before a0 Z = true := hw _ (List.mem_of_getElem? (i := 63) rfl)
theorem own_d9_37 : decode prog_32_method_1_code 37 = .ok (.putfield 26, 3) := by decide +kernel
theorem own_d9_40 : decode prog_32_method_1_code 40 = .ok (.return_, 1) := by decide +kernel
theorem own_pn7 : plainName "com/example/rein/rein/policy/Rule$Target" = true := by first | (simp [plainName, overriddenIn]; done) | decide +kernel
theorem own_w34 {a0 : Array Value} {Z : State} (hw : ∀ d ∈ tables_1, d.before a0 Z = true) : (Jvm.Cond.classLink "com/example/rein/rein/policy/Rule$Target" (20 : Nat) "com/example/rein/rein/policy/Rule$Target").before a0 Z = true := hw _ (List.mem_of_getElem? (i := 34) rfl)
theorem own_w32 {a0 : Array Value} {Z : State} (hw : ∀ d ∈ tables_1, d.before a0 Z = true) : (Jvm.Cond.initialized "com/example/rein/rein/policy/Rule$Target").before a0 Z = true := hw _ (List.mem_of_getElem? (i := 32) rfl)
theorem own_d7_0 : decode prog_32_method_2_code 0 = .ok (.new 20, 3) := by decide +kernel
theorem own_d7_3 : decode prog_32_method_2_code 3 = .ok (.dup, 1) := by decide +kernel
theorem own_d7_4 : decode prog_32_method_2_code 4 = .ok (.aload_n 0, 1) := by decide +kernel
theorem own_d7_5 : decode prog_32_method_2_code 5 = .ok (.aload_n 1, 1) := by decide +kernel
theorem own_w36 {a0 : Array Value} {Z : State} (hw : ∀ d ∈ tables_1, d.before a0 Z = true) : (Jvm.Cond.methodLink "com/example/rein/rein/policy/Rule$Target" (29 : Nat) ({ cls := "java/util/Optional", name := "empty", desc := "()Ljava/util/Optional;" } : Jvm.MethodName)).before a0 Z = true := hw _ (List.mem_of_getElem? (i := 36) rfl)
theorem own_d7_6 : decode prog_32_method_2_code 6 = .ok (.invokestatic 29, 3) := by decide +kernel
theorem own_w41 {a0 : Array Value} {Z : State} (hw : ∀ d ∈ tables_1, d.before a0 Z = true) : (Jvm.Cond.methodLink "com/example/rein/rein/policy/Rule$Target" (35 : Nat) ({ cls := "com/example/rein/rein/policy/Rule$Target", name := "<init>", desc := "(Ljava/lang/String;Ljava/lang/String;Ljava/util/Optional;)V" } : Jvm.MethodName)).before a0 Z = true := hw _ (List.mem_of_getElem? (i := 41) rfl)
theorem own_pd18 : parseMethodDescriptor "(Ljava/lang/String;Ljava/lang/String;Ljava/util/Optional;)V" = some ⟨[(.object "java/lang/String"), (.object "java/lang/String"), (.object "java/util/Optional")], none⟩ := by decide +kernel
theorem own_d7_9 : decode prog_32_method_2_code 9 = .ok (.invokespecial 35, 3) := by decide +kernel
theorem own_w42 {a0 : Array Value} {Z : State} (hw : ∀ d ∈ tables_1, d.before a0 Z = true) : (Jvm.Cond.instanceMethod ({ cls := "com/example/rein/rein/policy/Rule$Target", name := "<init>", desc := "(Ljava/lang/String;Ljava/lang/String;Ljava/util/Optional;)V" } : Jvm.MethodName)).before a0 Z = true := hw _ (List.mem_of_getElem? (i := 42) rfl)
theorem own_w43 {a0 : Array Value} {Z : State} (hw : ∀ d ∈ tables_1, d.before a0 Z = true) : (Jvm.Cond.code ({ cls := "com/example/rein/rein/policy/Rule$Target", name := "<init>", desc := "(Ljava/lang/String;Ljava/lang/String;Ljava/util/Optional;)V" } : Jvm.MethodName) prog_32_method_1_code (4 : Nat) (Option.none : Option Jvm.ClassFile.FieldType)).before a0 Z = true := hw _ (List.mem_of_getElem? (i := 43) rfl)
theorem own_d7_12 : decode prog_32_method_2_code 12 = .ok (.areturn, 1) := by decide +kernel
theorem own_d12_0 : decode prog_32_method_7_code 0 = .ok (.aload_n 0, 1) := by decide +kernel
theorem own_d12_1 : decode prog_32_method_7_code 1 = .ok (.getfield 19, 3) := by decide +kernel
theorem own_d12_4 : decode prog_32_method_7_code 4 = .ok (.areturn, 1) := by decide +kernel
theorem own_d14_0 : decode prog_32_method_8_code 0 = .ok (.aload_n 0, 1) := by decide +kernel
theorem own_d14_1 : decode prog_32_method_8_code 1 = .ok (.getfield 24, 3) := by decide +kernel
theorem own_d14_4 : decode prog_32_method_8_code 4 = .ok (.areturn, 1) := by decide +kernel
theorem own_d15_0 : decode prog_32_method_4_code 0 = .ok (.aload_n 0, 1) := by decide +kernel
theorem own_d15_1 : decode prog_32_method_4_code 1 = .ok (.getfield 26, 3) := by decide +kernel
theorem own_d15_4 : decode prog_32_method_4_code 4 = .ok (.aload_n 0, 1) := by decide +kernel
theorem own_w85 {a0 : Array Value} {Z : State} (hw : ∀ d ∈ tables_1, d.before a0 Z = true) : (Jvm.Cond.lambdaSite ({ cls := "com/example/rein/rein/policy/Rule$Target", name := "toString", desc := "()Ljava/lang/String;" } : Jvm.MethodName) (5 : Nat) (42 : Nat) (Jvm.Lambda.Shape.mk "java/util/function/Function" "apply" (Jvm.ClassFile.MethodDescriptor.mk ([(Jvm.ClassFile.FieldType.object "java/lang/Object")] : List Jvm.ClassFile.FieldType) (Option.some (Jvm.ClassFile.FieldType.object "java/lang/Object"))) ([(Jvm.ClassFile.FieldType.object "com/example/rein/rein/policy/Rule$Target")] : List Jvm.ClassFile.FieldType) (5 : Nat) "com/example/rein/rein/policy/Rule$Target" "lambda$toString$0" (Jvm.ClassFile.MethodDescriptor.mk ([(Jvm.ClassFile.FieldType.object "java/lang/String")] : List Jvm.ClassFile.FieldType) (Option.some (Jvm.ClassFile.FieldType.object "java/lang/String"))) false (Jvm.ClassFile.MethodDescriptor.mk ([(Jvm.ClassFile.FieldType.object "java/lang/String")] : List Jvm.ClassFile.FieldType) (Option.some (Jvm.ClassFile.FieldType.object "java/lang/String"))))).before a0 Z = true := hw _ (List.mem_of_getElem? (i := 85) rfl)
theorem own_w88 {a0 : Array Value} {Z : State} (hw : ∀ d ∈ tables_1, d.before a0 Z = true) : (Jvm.Cond.instantiable "java/lang/Object" (0 : Nat)).before a0 Z = true := hw _ (List.mem_of_getElem? (i := 88) rfl)
theorem own_d15_5 : decode prog_32_method_4_code 5 = .ok (.invokedynamic 42, 5) := by decide +kernel
theorem own_w89 {a0 : Array Value} {Z : State} (hw : ∀ d ∈ tables_1, d.before a0 Z = true) : (Jvm.Cond.methodLink "com/example/rein/rein/policy/Rule$Target" (46 : Nat) ({ cls := "java/util/Optional", name := "map", desc := "(Ljava/util/function/Function;)Ljava/util/Optional;" } : Jvm.MethodName)).before a0 Z = true := hw _ (List.mem_of_getElem? (i := 89) rfl)
theorem own_pd19 : parseMethodDescriptor "(Ljava/util/function/Function;)Ljava/util/Optional;" = some ⟨[(.object "java/util/function/Function")], some (.object "java/util/Optional")⟩ := by decide +kernel
theorem own_d15_10 : decode prog_32_method_4_code 10 = .ok (.invokevirtual 46, 3) := by decide +kernel
theorem own_w92 {a0 : Array Value} {Z : State} (hw : ∀ d ∈ tables_1, d.before a0 Z = true) : (Jvm.Cond.selects "java/util/Optional" ({ cls := "java/util/Optional", name := "map", desc := "(Ljava/util/function/Function;)Ljava/util/Optional;" } : Jvm.MethodName) ({ cls := "java/util/Optional", name := "map", desc := "(Ljava/util/function/Function;)Ljava/util/Optional;" } : Jvm.MethodName)).before a0 Z = true := hw _ (List.mem_of_getElem? (i := 92) rfl)
theorem own_w90 {a0 : Array Value} {Z : State} (hw : ∀ d ∈ tables_1, d.before a0 Z = true) : (Jvm.Cond.declares ({ cls := "java/util/Optional", name := "map", desc := "(Ljava/util/function/Function;)Ljava/util/Optional;" } : Jvm.MethodName)).before a0 Z = true := hw _ (List.mem_of_getElem? (i := 90) rfl)
theorem own_w91 {a0 : Array Value} {Z : State} (hw : ∀ d ∈ tables_1, d.before a0 Z = true) : (Jvm.Cond.instanceMethod ({ cls := "java/util/Optional", name := "map", desc := "(Ljava/util/function/Function;)Ljava/util/Optional;" } : Jvm.MethodName)).before a0 Z = true := hw _ (List.mem_of_getElem? (i := 91) rfl)
theorem own_w93 {a0 : Array Value} {Z : State} (hw : ∀ d ∈ tables_1, d.before a0 Z = true) : (Jvm.Cond.code ({ cls := "java/util/Optional", name := "map", desc := "(Ljava/util/function/Function;)Ljava/util/Optional;" } : Jvm.MethodName) jdk_32_method_11_code (2 : Nat) (Option.some (Jvm.ClassFile.FieldType.object "java/util/Optional"))).before a0 Z = true := hw _ (List.mem_of_getElem? (i := 93) rfl)
theorem own_w105 {a0 : Array Value} {Z : State} (hw : ∀ d ∈ tables_1, d.before a0 Z = true) : (Jvm.Cond.classLink "com/example/rein/rein/policy/Rule$Target" (50 : Nat) "java/lang/StringBuilder").before a0 Z = true := hw _ (List.mem_of_getElem? (i := 105) rfl)
theorem own_d15_13 : decode prog_32_method_4_code 13 = .ok (.new 50, 3) := by decide +kernel
theorem own_d15_16 : decode prog_32_method_4_code 16 = .ok (.dup, 1) := by decide +kernel
theorem own_w108 {a0 : Array Value} {Z : State} (hw : ∀ d ∈ tables_1, d.before a0 Z = true) : (Jvm.Cond.methodLink "com/example/rein/rein/policy/Rule$Target" (52 : Nat) ({ cls := "java/lang/StringBuilder", name := "<init>", desc := "()V" } : Jvm.MethodName)).before a0 Z = true := hw _ (List.mem_of_getElem? (i := 108) rfl)
theorem own_d15_17 : decode prog_32_method_4_code 17 = .ok (.invokespecial 52, 3) := by decide +kernel
theorem own_w109 {a0 : Array Value} {Z : State} (hw : ∀ d ∈ tables_1, d.before a0 Z = true) : (Jvm.Cond.instanceMethod ({ cls := "java/lang/StringBuilder", name := "<init>", desc := "()V" } : Jvm.MethodName)).before a0 Z = true := hw _ (List.mem_of_getElem? (i := 109) rfl)
theorem own_w110 {a0 : Array Value} {Z : State} (hw : ∀ d ∈ tables_1, d.before a0 Z = true) : (Jvm.Cond.code ({ cls := "java/lang/StringBuilder", name := "<init>", desc := "()V" } : Jvm.MethodName) jdk_67_method_1_code (1 : Nat) (Option.none : Option Jvm.ClassFile.FieldType)).before a0 Z = true := hw _ (List.mem_of_getElem? (i := 110) rfl)
theorem own_w123 {a0 : Array Value} {Z : State} (hw : ∀ d ∈ tables_1, d.before a0 Z = true) : (Jvm.Cond.stringLink "com/example/rein/rein/policy/Rule$Target" (53 : Nat) "column ").before a0 Z = true := hw _ (List.mem_of_getElem? (i := 123) rfl)
theorem own_d15_20 : decode prog_32_method_4_code 20 = .ok (.ldc 53, 2) := by decide +kernel
theorem own_w124 {a0 : Array Value} {Z : State} (hw : ∀ d ∈ tables_1, d.before a0 Z = true) : (Jvm.Cond.methodLink "com/example/rein/rein/policy/Rule$Target" (55 : Nat) ({ cls := "java/lang/StringBuilder", name := "append", desc := "(Ljava/lang/String;)Ljava/lang/StringBuilder;" } : Jvm.MethodName)).before a0 Z = true := hw _ (List.mem_of_getElem? (i := 124) rfl)
theorem own_pd20 : parseMethodDescriptor "(Ljava/lang/String;)Ljava/lang/StringBuilder;" = some ⟨[(.object "java/lang/String")], some (.object "java/lang/StringBuilder")⟩ := by decide +kernel
theorem own_d15_22 : decode prog_32_method_4_code 22 = .ok (.invokevirtual 55, 3) := by decide +kernel
theorem own_w127 {a0 : Array Value} {Z : State} (hw : ∀ d ∈ tables_1, d.before a0 Z = true) : (Jvm.Cond.selects "java/lang/StringBuilder" ({ cls := "java/lang/StringBuilder", name := "append", desc := "(Ljava/lang/String;)Ljava/lang/StringBuilder;" } : Jvm.MethodName) ({ cls := "java/lang/StringBuilder", name := "append", desc := "(Ljava/lang/String;)Ljava/lang/StringBuilder;" } : Jvm.MethodName)).before a0 Z = true := hw _ (List.mem_of_getElem? (i := 127) rfl)
theorem own_w125 {a0 : Array Value} {Z : State} (hw : ∀ d ∈ tables_1, d.before a0 Z = true) : (Jvm.Cond.declares ({ cls := "java/lang/StringBuilder", name := "append", desc := "(Ljava/lang/String;)Ljava/lang/StringBuilder;" } : Jvm.MethodName)).before a0 Z = true := hw _ (List.mem_of_getElem? (i := 125) rfl)
theorem own_w126 {a0 : Array Value} {Z : State} (hw : ∀ d ∈ tables_1, d.before a0 Z = true) : (Jvm.Cond.instanceMethod ({ cls := "java/lang/StringBuilder", name := "append", desc := "(Ljava/lang/String;)Ljava/lang/StringBuilder;" } : Jvm.MethodName)).before a0 Z = true := hw _ (List.mem_of_getElem? (i := 126) rfl)
theorem own_w128 {a0 : Array Value} {Z : State} (hw : ∀ d ∈ tables_1, d.before a0 Z = true) : (Jvm.Cond.code ({ cls := "java/lang/StringBuilder", name := "append", desc := "(Ljava/lang/String;)Ljava/lang/StringBuilder;" } : Jvm.MethodName) jdk_67_method_7_code (2 : Nat) (Option.some (Jvm.ClassFile.FieldType.object "java/lang/StringBuilder"))).before a0 Z = true := hw _ (List.mem_of_getElem? (i := 128) rfl)
theorem own_d15_25 : decode prog_32_method_4_code 25 = .ok (.aload_n 0, 1) := by decide +kernel
theorem own_d15_26 : decode prog_32_method_4_code 26 = .ok (.getfield 19, 3) := by decide +kernel
theorem own_d15_29 : decode prog_32_method_4_code 29 = .ok (.invokevirtual 55, 3) := by decide +kernel
theorem own_w171 {a0 : Array Value} {Z : State} (hw : ∀ d ∈ tables_1, d.before a0 Z = true) : (Jvm.Cond.stringLink "com/example/rein/rein/policy/Rule$Target" (59 : Nat) " ").before a0 Z = true := hw _ (List.mem_of_getElem? (i := 171) rfl)
theorem own_d15_32 : decode prog_32_method_4_code 32 = .ok (.ldc 59, 2) := by decide +kernel
theorem own_d15_34 : decode prog_32_method_4_code 34 = .ok (.invokevirtual 55, 3) := by decide +kernel
theorem own_d15_37 : decode prog_32_method_4_code 37 = .ok (.aload_n 0, 1) := by decide +kernel
theorem own_d15_38 : decode prog_32_method_4_code 38 = .ok (.getfield 24, 3) := by decide +kernel
theorem own_d15_41 : decode prog_32_method_4_code 41 = .ok (.invokevirtual 55, 3) := by decide +kernel
theorem own_w172 {a0 : Array Value} {Z : State} (hw : ∀ d ∈ tables_1, d.before a0 Z = true) : (Jvm.Cond.methodLink "com/example/rein/rein/policy/Rule$Target" (61 : Nat) ({ cls := "java/lang/StringBuilder", name := "toString", desc := "()Ljava/lang/String;" } : Jvm.MethodName)).before a0 Z = true := hw _ (List.mem_of_getElem? (i := 172) rfl)
theorem own_pd21 : parseMethodDescriptor "()Ljava/lang/String;" = some ⟨[], some (.object "java/lang/String")⟩ := by decide +kernel
theorem own_d15_44 : decode prog_32_method_4_code 44 = .ok (.invokevirtual 61, 3) := by decide +kernel
theorem own_w175 {a0 : Array Value} {Z : State} (hw : ∀ d ∈ tables_1, d.before a0 Z = true) : (Jvm.Cond.selects "java/lang/StringBuilder" ({ cls := "java/lang/StringBuilder", name := "toString", desc := "()Ljava/lang/String;" } : Jvm.MethodName) ({ cls := "java/lang/StringBuilder", name := "toString", desc := "()Ljava/lang/String;" } : Jvm.MethodName)).before a0 Z = true := hw _ (List.mem_of_getElem? (i := 175) rfl)
theorem own_w173 {a0 : Array Value} {Z : State} (hw : ∀ d ∈ tables_1, d.before a0 Z = true) : (Jvm.Cond.declares ({ cls := "java/lang/StringBuilder", name := "toString", desc := "()Ljava/lang/String;" } : Jvm.MethodName)).before a0 Z = true := hw _ (List.mem_of_getElem? (i := 173) rfl)
theorem own_w174 {a0 : Array Value} {Z : State} (hw : ∀ d ∈ tables_1, d.before a0 Z = true) : (Jvm.Cond.instanceMethod ({ cls := "java/lang/StringBuilder", name := "toString", desc := "()Ljava/lang/String;" } : Jvm.MethodName)).before a0 Z = true := hw _ (List.mem_of_getElem? (i := 174) rfl)
theorem own_w176 {a0 : Array Value} {Z : State} (hw : ∀ d ∈ tables_1, d.before a0 Z = true) : (Jvm.Cond.code ({ cls := "java/lang/StringBuilder", name := "toString", desc := "()Ljava/lang/String;" } : Jvm.MethodName) jdk_67_method_42_code (1 : Nat) (Option.some (Jvm.ClassFile.FieldType.object "java/lang/String"))).before a0 Z = true := hw _ (List.mem_of_getElem? (i := 176) rfl)
theorem own_w217 {a0 : Array Value} {Z : State} (hw : ∀ d ∈ tables_1, d.before a0 Z = true) : (Jvm.Cond.methodLink "com/example/rein/rein/policy/Rule$Target" (65 : Nat) ({ cls := "java/util/Optional", name := "orElse", desc := "(Ljava/lang/Object;)Ljava/lang/Object;" } : Jvm.MethodName)).before a0 Z = true := hw _ (List.mem_of_getElem? (i := 217) rfl)
theorem own_d15_47 : decode prog_32_method_4_code 47 = .ok (.invokevirtual 65, 3) := by decide +kernel
theorem own_w220 {a0 : Array Value} {Z : State} (hw : ∀ d ∈ tables_1, d.before a0 Z = true) : (Jvm.Cond.selects "java/util/Optional" ({ cls := "java/util/Optional", name := "orElse", desc := "(Ljava/lang/Object;)Ljava/lang/Object;" } : Jvm.MethodName) ({ cls := "java/util/Optional", name := "orElse", desc := "(Ljava/lang/Object;)Ljava/lang/Object;" } : Jvm.MethodName)).before a0 Z = true := hw _ (List.mem_of_getElem? (i := 220) rfl)
theorem own_w218 {a0 : Array Value} {Z : State} (hw : ∀ d ∈ tables_1, d.before a0 Z = true) : (Jvm.Cond.declares ({ cls := "java/util/Optional", name := "orElse", desc := "(Ljava/lang/Object;)Ljava/lang/Object;" } : Jvm.MethodName)).before a0 Z = true := hw _ (List.mem_of_getElem? (i := 218) rfl)
theorem own_w219 {a0 : Array Value} {Z : State} (hw : ∀ d ∈ tables_1, d.before a0 Z = true) : (Jvm.Cond.instanceMethod ({ cls := "java/util/Optional", name := "orElse", desc := "(Ljava/lang/Object;)Ljava/lang/Object;" } : Jvm.MethodName)).before a0 Z = true := hw _ (List.mem_of_getElem? (i := 219) rfl)
theorem own_w221 {a0 : Array Value} {Z : State} (hw : ∀ d ∈ tables_1, d.before a0 Z = true) : (Jvm.Cond.code ({ cls := "java/util/Optional", name := "orElse", desc := "(Ljava/lang/Object;)Ljava/lang/Object;" } : Jvm.MethodName) jdk_32_method_15_code (2 : Nat) (Option.some (Jvm.ClassFile.FieldType.object "java/lang/Object"))).before a0 Z = true := hw _ (List.mem_of_getElem? (i := 221) rfl)
theorem own_w222 {a0 : Array Value} {Z : State} (hw : ∀ d ∈ tables_1, d.before a0 Z = true) : (Jvm.Cond.classLink "com/example/rein/rein/policy/Rule$Target" (69 : Nat) "java/lang/String").before a0 Z = true := hw _ (List.mem_of_getElem? (i := 222) rfl)
theorem own_d15_50 : decode prog_32_method_4_code 50 = .ok (.checkcast 69, 3) := by decide +kernel
theorem own_d15_53 : decode prog_32_method_4_code 53 = .ok (.areturn, 1) := by decide +kernel
theorem own_w0 {a0 : Array Value} {Z : State} (hw : ∀ d ∈ tables_1, d.before a0 Z = true) : (Jvm.Cond.classLink "com/example/rein/rein/policy/TargetColumnPinLaw" (7 : Nat) "java/lang/String").before a0 Z = true := hw _ (List.mem_of_getElem? (i := 0) rfl)
theorem own_w3 {a0 : Array Value} {Z : State} (hw : ∀ d ∈ tables_1, d.before a0 Z = true) : (Jvm.Cond.arrayClass Jvm.ClassFile.FieldType.char).before a0 Z = true := hw _ (List.mem_of_getElem? (i := 3) rfl)
theorem own_w4 {a0 : Array Value} {Z : State} (hw : ∀ d ∈ tables_1, d.before a0 Z = true) : (Jvm.Cond.methodLink "com/example/rein/rein/policy/TargetColumnPinLaw" (9 : Nat) ({ cls := "java/lang/String", name := "<init>", desc := "([C)V" } : Jvm.MethodName)).before a0 Z = true := hw _ (List.mem_of_getElem? (i := 4) rfl)
theorem own_w5 {a0 : Array Value} {Z : State} (hw : ∀ d ∈ tables_1, d.before a0 Z = true) : (Jvm.Cond.instanceMethod ({ cls := "java/lang/String", name := "<init>", desc := "([C)V" } : Jvm.MethodName)).before a0 Z = true := hw _ (List.mem_of_getElem? (i := 5) rfl)
theorem own_w30 {a0 : Array Value} {Z : State} (hw : ∀ d ∈ tables_1, d.before a0 Z = true) : (Jvm.Cond.methodLink "com/example/rein/rein/policy/TargetColumnPinLaw" (12 : Nat) ({ cls := "com/example/rein/rein/policy/Rule$Target", name := "column", desc := "(Ljava/lang/String;Ljava/lang/String;)Lcom/example/rein/rein/policy/Rule$Target;" } : Jvm.MethodName)).before a0 Z = true := hw _ (List.mem_of_getElem? (i := 30) rfl)
theorem own_pd22 : parseMethodDescriptor "(Ljava/lang/String;Ljava/lang/String;)Lcom/example/rein/rein/policy/Rule$Target;" = some ⟨[(.object "java/lang/String"), (.object "java/lang/String")], some (.object "com/example/rein/rein/policy/Rule$Target")⟩ := by decide +kernel
theorem own_w31 {a0 : Array Value} {Z : State} (hw : ∀ d ∈ tables_1, d.before a0 Z = true) : (Jvm.Cond.static ({ cls := "com/example/rein/rein/policy/Rule$Target", name := "column", desc := "(Ljava/lang/String;Ljava/lang/String;)Lcom/example/rein/rein/policy/Rule$Target;" } : Jvm.MethodName)).before a0 Z = true := hw _ (List.mem_of_getElem? (i := 31) rfl)
theorem own_w33 {a0 : Array Value} {Z : State} (hw : ∀ d ∈ tables_1, d.before a0 Z = true) : (Jvm.Cond.code ({ cls := "com/example/rein/rein/policy/Rule$Target", name := "column", desc := "(Ljava/lang/String;Ljava/lang/String;)Lcom/example/rein/rein/policy/Rule$Target;" } : Jvm.MethodName) prog_32_method_2_code (2 : Nat) (Option.some (Jvm.ClassFile.FieldType.object "com/example/rein/rein/policy/Rule$Target"))).before a0 Z = true := hw _ (List.mem_of_getElem? (i := 33) rfl)
theorem own_w65 {a0 : Array Value} {Z : State} (hw : ∀ d ∈ tables_1, d.before a0 Z = true) : (Jvm.Cond.methodLink "com/example/rein/rein/policy/TargetColumnPinLaw" (18 : Nat) ({ cls := "com/example/rein/rein/policy/Rule$Target", name := "collection", desc := "()Ljava/lang/String;" } : Jvm.MethodName)).before a0 Z = true := hw _ (List.mem_of_getElem? (i := 65) rfl)
theorem own_w68 {a0 : Array Value} {Z : State} (hw : ∀ d ∈ tables_1, d.before a0 Z = true) : (Jvm.Cond.selects "com/example/rein/rein/policy/Rule$Target" ({ cls := "com/example/rein/rein/policy/Rule$Target", name := "collection", desc := "()Ljava/lang/String;" } : Jvm.MethodName) ({ cls := "com/example/rein/rein/policy/Rule$Target", name := "collection", desc := "()Ljava/lang/String;" } : Jvm.MethodName)).before a0 Z = true := hw _ (List.mem_of_getElem? (i := 68) rfl)
theorem own_w66 {a0 : Array Value} {Z : State} (hw : ∀ d ∈ tables_1, d.before a0 Z = true) : (Jvm.Cond.declares ({ cls := "com/example/rein/rein/policy/Rule$Target", name := "collection", desc := "()Ljava/lang/String;" } : Jvm.MethodName)).before a0 Z = true := hw _ (List.mem_of_getElem? (i := 66) rfl)
theorem own_w67 {a0 : Array Value} {Z : State} (hw : ∀ d ∈ tables_1, d.before a0 Z = true) : (Jvm.Cond.instanceMethod ({ cls := "com/example/rein/rein/policy/Rule$Target", name := "collection", desc := "()Ljava/lang/String;" } : Jvm.MethodName)).before a0 Z = true := hw _ (List.mem_of_getElem? (i := 67) rfl)
theorem own_w69 {a0 : Array Value} {Z : State} (hw : ∀ d ∈ tables_1, d.before a0 Z = true) : (Jvm.Cond.code ({ cls := "com/example/rein/rein/policy/Rule$Target", name := "collection", desc := "()Ljava/lang/String;" } : Jvm.MethodName) prog_32_method_7_code (1 : Nat) (Option.some (Jvm.ClassFile.FieldType.object "java/lang/String"))).before a0 Z = true := hw _ (List.mem_of_getElem? (i := 69) rfl)
theorem own_w70 {a0 : Array Value} {Z : State} (hw : ∀ d ∈ tables_1, d.before a0 Z = true) : (Jvm.Cond.methodLink "com/example/rein/rein/policy/TargetColumnPinLaw" (22 : Nat) ({ cls := "java/lang/String", name := "equals", desc := "(Ljava/lang/Object;)Z" } : Jvm.MethodName)).before a0 Z = true := hw _ (List.mem_of_getElem? (i := 70) rfl)
theorem own_w71 {a0 : Array Value} {Z : State} (hw : ∀ d ∈ tables_1, d.before a0 Z = true) : (Jvm.Cond.declares ({ cls := "java/lang/String", name := "equals", desc := "(Ljava/lang/Object;)Z" } : Jvm.MethodName)).before a0 Z = true := hw _ (List.mem_of_getElem? (i := 71) rfl)
theorem own_w73 {a0 : Array Value} {Z : State} (hw : ∀ d ∈ tables_1, d.before a0 Z = true) : (Jvm.Cond.selects "java/lang/String" ({ cls := "java/lang/String", name := "equals", desc := "(Ljava/lang/Object;)Z" } : Jvm.MethodName) ({ cls := "java/lang/String", name := "equals", desc := "(Ljava/lang/Object;)Z" } : Jvm.MethodName)).before a0 Z = true := hw _ (List.mem_of_getElem? (i := 73) rfl)
theorem own_w72 {a0 : Array Value} {Z : State} (hw : ∀ d ∈ tables_1, d.before a0 Z = true) : (Jvm.Cond.instanceMethod ({ cls := "java/lang/String", name := "equals", desc := "(Ljava/lang/Object;)Z" } : Jvm.MethodName)).before a0 Z = true := hw _ (List.mem_of_getElem? (i := 72) rfl)
theorem own_w75 {a0 : Array Value} {Z : State} (hw : ∀ d ∈ tables_1, d.before a0 Z = true) : (Jvm.Cond.methodLink "com/example/rein/rein/policy/TargetColumnPinLaw" (26 : Nat) ({ cls := "com/example/rein/rein/policy/Rule$Target", name := "field", desc := "()Ljava/lang/String;" } : Jvm.MethodName)).before a0 Z = true := hw _ (List.mem_of_getElem? (i := 75) rfl)
theorem own_w78 {a0 : Array Value} {Z : State} (hw : ∀ d ∈ tables_1, d.before a0 Z = true) : (Jvm.Cond.selects "com/example/rein/rein/policy/Rule$Target" ({ cls := "com/example/rein/rein/policy/Rule$Target", name := "field", desc := "()Ljava/lang/String;" } : Jvm.MethodName) ({ cls := "com/example/rein/rein/policy/Rule$Target", name := "field", desc := "()Ljava/lang/String;" } : Jvm.MethodName)).before a0 Z = true := hw _ (List.mem_of_getElem? (i := 78) rfl)
theorem own_w76 {a0 : Array Value} {Z : State} (hw : ∀ d ∈ tables_1, d.before a0 Z = true) : (Jvm.Cond.declares ({ cls := "com/example/rein/rein/policy/Rule$Target", name := "field", desc := "()Ljava/lang/String;" } : Jvm.MethodName)).before a0 Z = true := hw _ (List.mem_of_getElem? (i := 76) rfl)
theorem own_w77 {a0 : Array Value} {Z : State} (hw : ∀ d ∈ tables_1, d.before a0 Z = true) : (Jvm.Cond.instanceMethod ({ cls := "com/example/rein/rein/policy/Rule$Target", name := "field", desc := "()Ljava/lang/String;" } : Jvm.MethodName)).before a0 Z = true := hw _ (List.mem_of_getElem? (i := 77) rfl)
theorem own_w79 {a0 : Array Value} {Z : State} (hw : ∀ d ∈ tables_1, d.before a0 Z = true) : (Jvm.Cond.code ({ cls := "com/example/rein/rein/policy/Rule$Target", name := "field", desc := "()Ljava/lang/String;" } : Jvm.MethodName) prog_32_method_8_code (1 : Nat) (Option.some (Jvm.ClassFile.FieldType.object "java/lang/String"))).before a0 Z = true := hw _ (List.mem_of_getElem? (i := 79) rfl)
theorem own_w80 {a0 : Array Value} {Z : State} (hw : ∀ d ∈ tables_1, d.before a0 Z = true) : (Jvm.Cond.methodLink "com/example/rein/rein/policy/TargetColumnPinLaw" (29 : Nat) ({ cls := "com/example/rein/rein/policy/Rule$Target", name := "toString", desc := "()Ljava/lang/String;" } : Jvm.MethodName)).before a0 Z = true := hw _ (List.mem_of_getElem? (i := 80) rfl)
theorem own_w83 {a0 : Array Value} {Z : State} (hw : ∀ d ∈ tables_1, d.before a0 Z = true) : (Jvm.Cond.selects "com/example/rein/rein/policy/Rule$Target" ({ cls := "com/example/rein/rein/policy/Rule$Target", name := "toString", desc := "()Ljava/lang/String;" } : Jvm.MethodName) ({ cls := "com/example/rein/rein/policy/Rule$Target", name := "toString", desc := "()Ljava/lang/String;" } : Jvm.MethodName)).before a0 Z = true := hw _ (List.mem_of_getElem? (i := 83) rfl)
theorem own_w81 {a0 : Array Value} {Z : State} (hw : ∀ d ∈ tables_1, d.before a0 Z = true) : (Jvm.Cond.declares ({ cls := "com/example/rein/rein/policy/Rule$Target", name := "toString", desc := "()Ljava/lang/String;" } : Jvm.MethodName)).before a0 Z = true := hw _ (List.mem_of_getElem? (i := 81) rfl)
theorem own_w82 {a0 : Array Value} {Z : State} (hw : ∀ d ∈ tables_1, d.before a0 Z = true) : (Jvm.Cond.instanceMethod ({ cls := "com/example/rein/rein/policy/Rule$Target", name := "toString", desc := "()Ljava/lang/String;" } : Jvm.MethodName)).before a0 Z = true := hw _ (List.mem_of_getElem? (i := 82) rfl)
theorem own_w84 {a0 : Array Value} {Z : State} (hw : ∀ d ∈ tables_1, d.before a0 Z = true) : (Jvm.Cond.code ({ cls := "com/example/rein/rein/policy/Rule$Target", name := "toString", desc := "()Ljava/lang/String;" } : Jvm.MethodName) prog_32_method_4_code (1 : Nat) (Option.some (Jvm.ClassFile.FieldType.object "java/lang/String"))).before a0 Z = true := hw _ (List.mem_of_getElem? (i := 84) rfl)
theorem own_pn8 : plainName "com/example/rein/rein/policy/TargetColumnPinLaw" = true := by first | (simp [plainName, overriddenIn]; done) | decide +kernel
set_option maxRecDepth 65536 in
set_option maxHeartbeats 4000000 in
theorem rm_coder (l : Launch) (Z : State) (a0 : Array Value) (hw : ∀ d ∈ tables_1, d.before a0 Z = true) (a : Addr) (h : Heap) (n0 : Nat) (Ds : List Addr) (own_cs : CompactOn Z) (F_c : Fld Z h a "java/lang/String" "coder" "B" (.int (0 : Int32))) :
    Ctr l Z (⟨"java/lang/String", "coder", "()B"⟩ : MethodName) jdk_42_method_152_code 1 (some .byte) [] ({ frames := 0, cells := 0, slots := 0, locals := 0 } : Room) #[.ref a] h n0 Ds (fun v h' Ds' => v = some (.int (0 : Int32)) ∧ h = h' ∧ Ds = Ds') := by
  refine ctr_of (Ls := #[.val (.ref a)]) (plainFor_of_name own_pn0) (fun m => by first | (simp [entryFrame, mkF, argsToLocals, Value.category]; done) | rfl) ?_
  intro C hl hret hnm R
  subst hl
  obtain ⟨zc, S_zc, hzc⟩ := id own_cs
  replace R := R.getS (pc' := 3) (host := "") (Or.inl (own_w14 hw)) Via.refl S_zc own_d24_0 rfl
  replace R := R.ifN (pc' := 6) own_d24_3 (feq hzc).1 rfl
  replace R := R.aloadN (pc' := 7) (v := (.ref a)) own_d24_6 rfl rfl rfl
  replace R := R.getF (pc' := 10) (host := "") (Or.inl (own_w26 hw)) Via.refl F_c own_d24_7 rfl
  replace R := R.goto (pc' := 14) own_d24_10 (by decide) rfl
  exact R.retN (Ds' := Ds) hret (by simp) (show nar .byte (0 : Int32) = (0 : Int32) from rfl) own_d24_14 (by decide) (by decide) (fun _ q => q) ⟨rfl, rfl, rfl⟩
set_option maxRecDepth 65536 in
set_option maxHeartbeats 4000000 in
theorem rm_length (l : Launch) (Z : State) (a0 : Array Value) (hw : ∀ d ∈ tables_1, d.before a0 Z = true) (a : Addr) (h : Heap) (n0 : Nat) (Ds : List Addr) (own_cs : CompactOn Z) {cs : List Int32} (S_a : IsStr Z h a cs) :
    Ctr l Z (⟨"java/lang/String", "length", "()I"⟩ : MethodName) jdk_42_method_54_code 1 (some .int) [] ({ frames := 1, cells := 0, slots := 0, locals := 13 } : Room) #[.ref a] h n0 Ds (fun v h' Ds' => v = some (.int (Int32.ofNat cs.length)) ∧ h = h' ∧ Ds = Ds') := by
  refine ctr_of (Ls := #[.val (.ref a)]) (plainFor_of_name own_pn0) (fun m => by first | (simp [entryFrame, mkF, argsToLocals, Value.category]; done) | rfl) ?_
  intro C hl hret hnm R
  subst hl
  obtain ⟨e1, e2, e3, e4, t, kb, e5, e6⟩ := S_a
  replace R := R.aloadN (pc' := 1) (v := (.ref a)) own_d23_0 rfl rfl rfl
  replace R := R.getF (pc' := 4) (host := "") (Or.inl (own_w28 hw)) Via.refl e5 own_d23_1 rfl
  replace R := R.arraylength (pc' := 5) e6 own_d23_4 rfl
  replace R := R.aloadN (pc' := 6) (v := (.ref a)) own_d23_5 rfl rfl rfl
  obtain ⟨_, _, _, ⟨rfl, rfl, rfl⟩, R⟩ := R.callV (pc' := 9) (y := (⟨"java/lang/String", "coder", "()B"⟩ : MethodName)) (z := (⟨"java/lang/String", "coder", "()B"⟩ : MethodName)) (argsL := []) (rest := [(.int (Int32.ofNat cs.length))]) (W := 1) (own_w139 hw) (own_w140 hw) (fun s' hZ' => notFace_of_selects (args := #[]) (mvT hZ' (own_w142 hw))) (own_w142 hw) (own_w141 hw) (own_w2 hw) (own_w143 hw) (by decide) e1 (rm_coder C.l Z a0 hw a h n0 Ds own_cs e2) rfl (lenOf own_pd0 rfl) rfl rfl own_d23_6 (by decide) (by decide) (by decide) (by decide) rfl
  replace R := R.mono (ce' := 0) (sl' := 0) (by decide) (by decide)
  replace R := R.stk (S' := [(.int (0 : Int32)), (.int (Int32.ofNat cs.length))]) rfl
  replace R := R.ishr (pc' := 10) own_d23_9 rfl
  replace R := R.stk (congrArg (fun z => ([Value.int z] : List Value)) (own_shr0 (Int32.ofNat cs.length)))
  exact R.retI (Ds' := Ds) hret own_d23_10 (by decide) (by decide) (fun _ q => q) ⟨rfl, rfl, rfl⟩
set_option maxRecDepth 65536 in
set_option maxHeartbeats 4000000 in
theorem rm_ai (l : Launch) (Z : State) (a0 : Array Value) (hw : ∀ d ∈ tables_1, d.before a0 Z = true) (a : Addr) (h : Heap) (n0 : Nat) (Ds : List Addr) (own_cs : CompactOn Z) (ha : a ∈ Ds) (E_a : Exa Z h a "java/lang/StringBuilder") (F_value : Fld Z h a "java/lang/AbstractStringBuilder" "value" "[B" .null) (F_coder : Fld Z h a "java/lang/AbstractStringBuilder" "coder" "B" (.int (0 : Int32))) (F_count : Fld Z h a "java/lang/AbstractStringBuilder" "count" "I" (.int (0 : Int32))) :
    Ctr l Z (⟨"java/lang/AbstractStringBuilder", "<init>", "(I)V"⟩ : MethodName) jdk_68_method_2_code 2 none [] ({ frames := 1, cells := 1, slots := 16, locals := 12 } : Room) #[.ref a, .int (16 : Int32)] h n0 Ds (fun v h' Ds' => ∃ (b : Addr) (kb : ClassId), v = none ∧ Keep h h' [a] ∧ b = h.size ∧ a ≠ b ∧ Exa Z h' a "java/lang/StringBuilder" ∧ Fld Z h' a "java/lang/AbstractStringBuilder" "value" "[B" (.ref b) ∧ Fld Z h' a "java/lang/AbstractStringBuilder" "coder" "B" (.int (0 : Int32)) ∧ Fld Z h' a "java/lang/AbstractStringBuilder" "count" "I" (.int (0 : Int32)) ∧ Arv Z h' b kb .byte (16 : Int32) [(.int (0 : Int32)), (.int (0 : Int32)), (.int (0 : Int32)), (.int (0 : Int32)), (.int (0 : Int32)), (.int (0 : Int32)), (.int (0 : Int32)), (.int (0 : Int32)), (.int (0 : Int32)), (.int (0 : Int32)), (.int (0 : Int32)), (.int (0 : Int32)), (.int (0 : Int32)), (.int (0 : Int32)), (.int (0 : Int32)), (.int (0 : Int32))] (.int 0) ∧ b :: Ds = Ds') := by
  refine ctr_of (Ls := #[.val (.ref a), .val (.int (16 : Int32))]) (plainFor_of_name own_pn1) (fun m => by first | (simp [entryFrame, mkF, argsToLocals, Value.category]; done) | rfl) ?_
  intro C hl hret hnm R
  subst hl
  obtain ⟨zc, S_zc, hzc⟩ := id own_cs
  replace R := R.aloadN (pc' := 1) (v := (.ref a)) own_d20_0 rfl rfl rfl
  replace R := R.initO (pc' := 4) (W := 0) (own_w117 hw) (own_w12 hw) (own_w13 hw) rfl own_d20_1 (by decide) rfl (by decide) rfl
  replace R := R.getS (pc' := 7) (host := "") (Or.inl (own_w118 hw)) Via.refl S_zc own_d20_4 rfl
  replace R := R.ifN (pc' := 10) own_d20_7 (feq hzc).1 rfl
  replace R := R.aloadN (pc' := 11) (v := (.ref a)) own_d20_10 rfl rfl rfl
  replace R := R.iloadN (pc' := 12) (v := (16 : Int32)) own_d20_11 rfl rfl
  obtain ⟨h1, b1, k1, g1, E1, V1, R⟩ := R.newP (pc' := 14) (aty := .byte) (cap := 16) (own_w19 hw) own_d20_12 (by decide) (by decide) (by decide) (by decide) (by decide) rfl
  have V1p : Arv Z h1 b1 k1 .byte (16 : Int32) [(.int (0 : Int32)), (.int (0 : Int32)), (.int (0 : Int32)), (.int (0 : Int32)), (.int (0 : Int32)), (.int (0 : Int32)), (.int (0 : Int32)), (.int (0 : Int32)), (.int (0 : Int32)), (.int (0 : Int32)), (.int (0 : Int32)), (.int (0 : Int32)), (.int (0 : Int32)), (.int (0 : Int32)), (.int (0 : Int32)), (.int (0 : Int32))] (.int (0 : Int32)) := V1.pad (pad_rep [] (.int (0 : Int32)) 16)
  have K2 := ((Keep.refl h []).trans ((Keep.refl h []).ext E1) all0)
  have F3 := E_a.keep K2
  have nab : a ≠ b1 := Exa.neArv F3 V1p (own_w106 hw)
  have K4 := ((Keep.refl h []).trans ((Keep.refl h []).ext E1) all0)
  have F5 := F_value.keep K4 nin0
  have K6 := ((Keep.refl h []).trans ((Keep.refl h []).ext E1) all0)
  have F7 := F_coder.keep K6 nin0
  have K8 := ((Keep.refl h []).trans ((Keep.refl h []).ext E1) all0)
  have F9 := F_count.keep K8 nin0
  obtain ⟨h10, W10, R⟩ := R.putF (pc' := 17) (ty := (.array .byte)) (host := "") (Or.inl (own_w119 hw)) Via.refl F5 F3 (Or.inl (own_w120 hw)) (own_w106 hw) (by decide) rfl rfl (List.mem_cons_of_mem _ ha) own_d20_14 rfl
  have F10 := F5.same W10
  have F11 := F7.other W10 (Or.inr (slot_ne (Or.inl (own_w122 hw)) (Or.inl (own_w120 hw)) (by decide) (t := .byte) (t' := (.array .byte)) (by decide) (by decide)))
  have F12 := F9.other W10 (Or.inr (slot_ne (Or.inl (own_w145 hw)) (Or.inl (own_w120 hw)) (by decide) (t := .int) (t' := (.array .byte)) (by decide) (by decide)))
  replace R := R.aloadN (pc' := 18) (v := (.ref a)) own_d20_17 rfl rfl rfl
  replace R := R.iconst (pc' := 19) (z := (0 : Int32)) own_d20_18 rfl rfl
  have K13 := ((Keep.refl h1 [a]).trans (Keep.of_wr W10) (allS (Or.inl (List.mem_of_getElem? (i := 0) rfl)) all0))
  have F14 := F3.keep K13
  obtain ⟨h15, W15, R⟩ := R.putFN (pc' := 22) (ty := .byte) (v' := (.int (0 : Int32))) (own_w121 hw) Via.refl F11 F14 (Or.inl (own_w122 hw)) (own_w106 hw) (by decide) (rfl) (rfl) (List.mem_cons_of_mem _ ha) own_d20_19 rfl
  have F15 := F11.same W15
  have F16 := F10.other W15 (Or.inr (slot_ne (Or.inl (own_w120 hw)) (Or.inl (own_w122 hw)) (by decide) (t := (.array .byte)) (t' := .byte) (by decide) (by decide)))
  have F17 := F12.other W15 (Or.inr (slot_ne (Or.inl (own_w145 hw)) (Or.inl (own_w122 hw)) (by decide) (t := .int) (t' := .byte) (by decide) (by decide)))
  replace R := R.goto (pc' := 38) own_d20_22 (by decide) rfl
  have hK := ((((Keep.refl h [a]).trans ((Keep.refl h []).ext E1) all0).trans (Keep.of_wr W10) (allS (Or.inl (List.mem_of_getElem? (i := 0) rfl)) all0)).trans (Keep.of_wr W15) (allS (Or.inl (List.mem_of_getElem? (i := 0) rfl)) all0))
  have K18 := ((Keep.refl h10 [a]).trans (Keep.of_wr W15) (allS (Or.inl (List.mem_of_getElem? (i := 0) rfl)) all0))
  have F19 := F14.keep K18
  have K20 := (((Keep.refl h1 [a]).trans (Keep.of_wr W10) (allS (Or.inl (List.mem_of_getElem? (i := 0) rfl)) all0)).trans (Keep.of_wr W15) (allS (Or.inl (List.mem_of_getElem? (i := 0) rfl)) all0))
  have F21 := V1p.keep K20 (ninS (Ne.symm nab) nin0)
  exact R.retV (Ds' := b1 :: Ds) hret own_d20_38 (by decide) (by decide) (fun _ q => q) ⟨b1, _, rfl, hK, g1, nab, F19, F16, F15, F17, F21, rfl⟩
set_option maxRecDepth 65536 in
set_option maxHeartbeats 4000000 in
theorem rm_si (l : Launch) (Z : State) (a0 : Array Value) (hw : ∀ d ∈ tables_1, d.before a0 Z = true) (a : Addr) (h : Heap) (n0 : Nat) (Ds : List Addr) (own_cs : CompactOn Z) (ha : a ∈ Ds) (E_a : Exa Z h a "java/lang/StringBuilder") (F_value : Fld Z h a "java/lang/AbstractStringBuilder" "value" "[B" .null) (F_coder : Fld Z h a "java/lang/AbstractStringBuilder" "coder" "B" (.int (0 : Int32))) (F_count : Fld Z h a "java/lang/AbstractStringBuilder" "count" "I" (.int (0 : Int32))) :
    Ctr l Z (⟨"java/lang/StringBuilder", "<init>", "()V"⟩ : MethodName) jdk_67_method_1_code 1 none [] ({ frames := 2, cells := 1, slots := 16, locals := 25 } : Room) #[.ref a] h n0 Ds (fun v h' Ds' => ∃ (b : Addr) (kb : ClassId), v = none ∧ Keep h h' [a] ∧ b = h.size ∧ a ≠ b ∧ Exa Z h' a "java/lang/StringBuilder" ∧ Fld Z h' a "java/lang/AbstractStringBuilder" "value" "[B" (.ref b) ∧ Fld Z h' a "java/lang/AbstractStringBuilder" "coder" "B" (.int (0 : Int32)) ∧ Fld Z h' a "java/lang/AbstractStringBuilder" "count" "I" (.int (0 : Int32)) ∧ Arv Z h' b kb .byte (16 : Int32) [(.int (0 : Int32)), (.int (0 : Int32)), (.int (0 : Int32)), (.int (0 : Int32)), (.int (0 : Int32)), (.int (0 : Int32)), (.int (0 : Int32)), (.int (0 : Int32)), (.int (0 : Int32)), (.int (0 : Int32)), (.int (0 : Int32)), (.int (0 : Int32)), (.int (0 : Int32)), (.int (0 : Int32)), (.int (0 : Int32)), (.int (0 : Int32))] (.int 0) ∧ b :: Ds = Ds') := by
  refine ctr_of (Ls := #[.val (.ref a)]) (plainFor_of_name own_pn2) (fun m => by first | (simp [entryFrame, mkF, argsToLocals, Value.category]; done) | rfl) ?_
  intro C hl hret hnm R
  subst hl
  replace R := R.aloadN (pc' := 1) (v := (.ref a)) own_d19_0 rfl rfl rfl
  replace R := R.bipush (pc' := 3) (z := (16 : Int32)) own_d19_1 rfl rfl
  obtain ⟨_, h1, _, ⟨b1, k1, rfl, K1, g1, n1, X1, F1_value, F1_coder, F1_count, V1, rfl⟩, R⟩ := R.callI (pc' := 6) (a := a) (argsL := [(.int (16 : Int32))]) (rest := []) (W := 0) rfl (own_w111 hw) (own_w112 hw) (own_w115 hw) (own_w116 hw) (by decide) (rm_ai C.l Z a0 hw a h n0 Ds own_cs ha E_a F_value F_coder F_count) rfl (lenOf own_pd1 rfl) rfl rfl own_d19_3 (by decide) (by decide) (by decide) (by decide) rfl
  have nab := n1
  replace R := R.mono (ce' := 1) (sl' := 16) (by decide) (by decide)
  replace R := R.stk (S' := []) rfl
  have hK := ((Keep.refl h [a]).trans K1 (allS (Or.inl (List.mem_of_getElem? (i := 0) rfl)) all0))
  exact R.retV (Ds' := b1 :: Ds) hret own_d19_6 (by decide) (by decide) (fun _ q => q) ⟨b1, _, rfl, hK, g1, nab, X1, F1_value, F1_coder, F1_count, V1, rfl⟩
set_option maxRecDepth 65536 in
set_option maxHeartbeats 4000000 in
theorem rm_inf (l : Launch) (Z : State) (a0 : Array Value) (hw : ∀ d ∈ tables_1, d.before a0 Z = true) (a s : Addr) (h : Heap) (n0 : Nat) (Ds : List Addr) (own_cs : CompactOn Z) (E_a : Exa Z h a "java/lang/StringBuilder") (F_coder : Fld Z h a "java/lang/AbstractStringBuilder" "coder" "B" (.int (0 : Int32))) {cs : List Int32} (S_s : IsStr Z h s cs) :
    Ctr l Z (⟨"java/lang/AbstractStringBuilder", "inflateIfNeededFor", "(Ljava/lang/String;)V"⟩ : MethodName) jdk_68_method_71_code 2 none [] ({ frames := 1, cells := 0, slots := 0, locals := 13 } : Room) #[.ref a, .ref s] h n0 Ds (fun v h' Ds' => v = none ∧ h = h' ∧ Ds = Ds') := by
  refine ctr_of (Ls := #[.val (.ref a), .val (.ref s)]) (plainFor_of_name own_pn1) (fun m => by first | (simp [entryFrame, mkF, argsToLocals, Value.category]; done) | rfl) ?_
  intro C hl hret hnm R
  subst hl
  obtain ⟨zc, S_zc, hzc⟩ := id own_cs
  obtain ⟨e1, e2, e3, e4, t, kt, e5, e6⟩ := S_s
  replace R := R.getS (pc' := 3) (host := "") (Or.inl (own_w118 hw)) Via.refl S_zc own_d27_0 rfl
  replace R := R.ifN (pc' := 6) own_d27_3 (feq hzc).1 rfl
  replace R := R.aloadN (pc' := 7) (v := (.ref a)) own_d27_6 rfl rfl rfl
  replace R := R.getF (pc' := 10) (host := "") (Or.inl (own_w121 hw)) Via.refl F_coder own_d27_7 rfl
  replace R := R.aloadN (pc' := 11) (v := (.ref s)) own_d27_10 rfl rfl rfl
  obtain ⟨_, _, _, ⟨rfl, rfl, rfl⟩, R⟩ := R.callV (pc' := 14) (y := (⟨"java/lang/String", "coder", "()B"⟩ : MethodName)) (z := (⟨"java/lang/String", "coder", "()B"⟩ : MethodName)) (argsL := []) (rest := [(.int (0 : Int32))]) (W := 1) (own_w161 hw) (own_w140 hw) (fun s' hZ' => notFace_of_selects (args := #[]) (mvT hZ' (own_w142 hw))) (own_w142 hw) (own_w141 hw) (own_w2 hw) (own_w143 hw) (by decide) e1 (rm_coder C.l Z a0 hw s h n0 Ds own_cs e2) rfl (lenOf own_pd0 rfl) rfl rfl own_d27_11 (by decide) (by decide) (by decide) (by decide) rfl
  replace R := R.mono (ce' := 0) (sl' := 0) (by decide) (by decide)
  replace R := R.stk (S' := [(.int (0 : Int32)), (.int (0 : Int32))]) rfl
  replace R := R.icmpY (pc' := 21) own_d27_14 (teq (by decide : (0 : Int32) = (0 : Int32))).1 (by decide) rfl
  exact R.retV (Ds' := Ds) hret own_d27_21 (by decide) (by decide) (fun _ q => q) ⟨rfl, rfl, rfl⟩
set_option maxRecDepth 65536 in
set_option maxHeartbeats 4000000 in
theorem rm_ec7 (l : Launch) (Z : State) (a0 : Array Value) (hw : ∀ d ∈ tables_1, d.before a0 Z = true) (a : Addr) (h : Heap) (n0 : Nat) (Ds : List Addr) {vb : Addr} {kb : ClassId} {vs : List Value} (hvl : vs.length = 16) (hvb : vb ∈ Ds) (V_b : Arv Z h vb kb .byte (16 : Int32) vs (.int 0)) (E_a : Exa Z h a "java/lang/StringBuilder") (F_value : Fld Z h a "java/lang/AbstractStringBuilder" "value" "[B" (.ref vb)) (F_coder : Fld Z h a "java/lang/AbstractStringBuilder" "coder" "B" (.int (0 : Int32))) :
    Ctr l Z (⟨"java/lang/AbstractStringBuilder", "ensureCapacityInternal", "(I)V"⟩ : MethodName) jdk_68_method_9_code 3 none [] ({ frames := 0, cells := 0, slots := 0, locals := 0 } : Room) #[.ref a, .int (7 : Int32)] h n0 Ds (fun v h' Ds' => v = none ∧ h = h' ∧ Ds = Ds') := by
  refine ctr_of (Ls := #[.val (.ref a), .val (.int (7 : Int32)), .unset]) (plainFor_of_name own_pn1) (fun m => by first | (simp [entryFrame, mkF, argsToLocals, Value.category]; done) | rfl) ?_
  intro C hl hret hnm R
  subst hl
  replace R := R.aloadN (pc' := 1) (v := (.ref a)) own_d25_0 rfl rfl rfl
  replace R := R.getF (pc' := 4) (host := "") (Or.inl (own_w119 hw)) Via.refl F_value own_d25_1 rfl
  replace R := R.arraylength (pc' := 5) V_b own_d25_4 rfl
  replace R := R.aloadN (pc' := 6) (v := (.ref a)) own_d25_5 rfl rfl rfl
  replace R := R.getF (pc' := 9) (host := "") (Or.inl (own_w121 hw)) Via.refl F_coder own_d25_6 rfl
  replace R := R.ishr (pc' := 10) own_d25_9 rfl
  replace R := R.stk (S' := [(.int (16 : Int32))]) rfl
  replace R := R.istoreN (pc' := 11) (l' := #[.val (.ref a), .val (.int (7 : Int32)), .val (.int (16 : Int32))]) own_d25_10 rfl rfl
  replace R := R.iloadN (pc' := 12) (v := (7 : Int32)) own_d25_11 rfl rfl
  replace R := R.iloadN (pc' := 13) (v := (16 : Int32)) own_d25_12 rfl rfl
  replace R := R.isub (pc' := 14) own_d25_13 rfl
  replace R := R.stk (S' := [(.int (-9 : Int32))]) rfl
  replace R := R.ifY (pc' := 38) own_d25_14 (flt (by decide : ¬ ((0 : Int32) < (-9 : Int32)))).2.2.2 (by decide) rfl
  exact R.retV (Ds' := Ds) hret own_d25_38 (by decide) (by decide) (fun _ q => q) ⟨rfl, rfl, rfl⟩
set_option maxRecDepth 65536 in
set_option maxHeartbeats 4000000 in
theorem rm_gb_0_7 (l : Launch) (Z : State) (a0 : Array Value) (hw : ∀ d ∈ tables_1, d.before a0 Z = true) (s : Addr) (h : Heap) (n0 : Nat) (Ds : List Addr) (own_cs : CompactOn Z) {vb : Addr} {kb : ClassId} {vs : List Value} (hvl : vs.length = 16) (hvb : vb ∈ Ds) (V_b : Arv Z h vb kb .byte (16 : Int32) vs (.int 0)) {x0 x1 x2 x3 x4 x5 x6 : Int32} (S_s : IsStr Z h s [x0, x1, x2, x3, x4, x5, x6]) :
    Ctr l Z (⟨"java/lang/String", "getBytes", "([BIB)V"⟩ : MethodName) jdk_42_method_147_code 4 none [] ({ frames := 1, cells := 0, slots := 0, locals := 80 } : Room) #[.ref s, .ref vb, .int (0 : Int32), .int (0 : Int32)] h n0 Ds (fun v h' Ds' => v = none ∧ Keep h h' [vb] ∧ Arv Z h' vb kb .byte (16 : Int32) (vs.take 0 ++ [(.int x0.toInt8.toInt32), (.int x1.toInt8.toInt32), (.int x2.toInt8.toInt32), (.int x3.toInt8.toInt32), (.int x4.toInt8.toInt32), (.int x5.toInt8.toInt32), (.int x6.toInt8.toInt32)] ++ vs.drop 7) (.int 0) ∧ Ds = Ds') := by
  refine ctr_of (Ls := #[.val (.ref s), .val (.ref vb), .val (.int (0 : Int32)), .val (.int (0 : Int32))]) (plainFor_of_name own_pn0) (fun m => by first | (simp [entryFrame, mkF, argsToLocals, Value.category]; done) | rfl) ?_
  intro C hl hret hnm R
  subst hl
  obtain ⟨e1, e2, e3, e4, t, kt, e5, e6⟩ := S_s
  have e7 : Arv Z h t kt .byte (7 : Int32) [(.int x0.toInt8.toInt32), (.int x1.toInt8.toInt32), (.int x2.toInt8.toInt32), (.int x3.toInt8.toInt32), (.int x4.toInt8.toInt32), (.int x5.toInt8.toInt32), (.int x6.toInt8.toInt32)] (.int 0) := e6
  replace R := R.aloadN (pc' := 1) (v := (.ref s)) own_d28_0 rfl rfl rfl
  obtain ⟨_, _, _, ⟨rfl, rfl, rfl⟩, R⟩ := R.callV (pc' := 4) (y := (⟨"java/lang/String", "coder", "()B"⟩ : MethodName)) (z := (⟨"java/lang/String", "coder", "()B"⟩ : MethodName)) (argsL := []) (rest := []) (W := 0) (own_w139 hw) (own_w140 hw) (fun s' hZ' => notFace_of_selects (args := #[]) (mvT hZ' (own_w142 hw))) (own_w142 hw) (own_w141 hw) (own_w2 hw) (own_w143 hw) (by decide) e1 (rm_coder C.l Z a0 hw s h n0 Ds own_cs e2) rfl (lenOf own_pd0 rfl) rfl rfl own_d28_1 (by decide) (by decide) (by decide) (by decide) rfl
  replace R := R.mono (ce' := 0) (sl' := 0) (by decide) (by decide)
  replace R := R.stk (S' := [(.int (0 : Int32))]) rfl
  replace R := R.iloadN (pc' := 5) (v := (0 : Int32)) own_d28_4 rfl rfl
  replace R := R.icmpN (pc' := 8) own_d28_5 (teq (by decide : (0 : Int32) = (0 : Int32))).2 rfl
  replace R := R.aloadN (pc' := 9) (v := (.ref s)) own_d28_8 rfl rfl rfl
  replace R := R.getF (pc' := 12) (host := "") (Or.inl (own_w28 hw)) Via.refl e5 own_d28_9 rfl
  replace R := R.iconst (pc' := 13) (z := (0 : Int32)) own_d28_12 rfl rfl
  replace R := R.aloadN (pc' := 14) (v := (.ref vb)) own_d28_13 rfl rfl rfl
  replace R := R.iloadN (pc' := 15) (v := (0 : Int32)) own_d28_14 rfl rfl
  replace R := R.iloadN (pc' := 16) (v := (0 : Int32)) own_d28_15 rfl rfl
  replace R := R.ishl (pc' := 17) own_d28_16 rfl
  replace R := R.stk (S' := [(.int (0 : Int32)), (.ref vb), (.int (0 : Int32)), (.ref t)]) rfl
  replace R := R.aloadN (pc' := 18) (v := (.ref s)) own_d28_17 rfl rfl rfl
  replace R := R.getF (pc' := 21) (host := "") (Or.inl (own_w28 hw)) Via.refl e5 own_d28_18 rfl
  replace R := R.arraylength (pc' := 22) e7 own_d28_21 rfl
  obtain ⟨h1, K1, V1, R⟩ := R.copyB (pc' := 25) (W := 0) (nn := (7 : Int32)) (us := [(.int x0.toInt8.toInt32), (.int x1.toInt8.toInt32), (.int x2.toInt8.toInt32), (.int x3.toInt8.toInt32), (.int x4.toInt8.toInt32), (.int x5.toInt8.toInt32), (.int x6.toInt8.toInt32)]) (own_w167 hw) (own_w170 hw) (own_w168 hw) (own_w169 hw) e7 V_b rfl (by decide) (by decide) (by decide) (by decide) (by decide) rfl (by rw [hvl]; decide) hvb rfl own_d28_22 (by decide) rfl (by decide) rfl
  have V1p : Arv Z h1 vb kb .byte (16 : Int32) (vs.take 0 ++ [(.int x0.toInt8.toInt32), (.int x1.toInt8.toInt32), (.int x2.toInt8.toInt32), (.int x3.toInt8.toInt32), (.int x4.toInt8.toInt32), (.int x5.toInt8.toInt32), (.int x6.toInt8.toInt32)] ++ vs.drop 7) (.int 0) := V1
  replace R := R.goto (pc' := 43) own_d28_25 (by decide) rfl
  have hK := ((Keep.refl h [vb]).trans K1 (allS (Or.inl (List.mem_of_getElem? (i := 0) rfl)) all0))
  exact R.retV (Ds' := Ds) hret own_d28_43 (by decide) (by decide) (fun _ q => q) ⟨rfl, hK, V1p, rfl⟩
set_option maxRecDepth 65536 in
set_option maxHeartbeats 4000000 in
theorem rm_ps_0_7 (l : Launch) (Z : State) (a0 : Array Value) (hw : ∀ d ∈ tables_1, d.before a0 Z = true) (a s : Addr) (h : Heap) (n0 : Nat) (Ds : List Addr) (own_cs : CompactOn Z) {vb : Addr} {kb : ClassId} {vs : List Value} (hvl : vs.length = 16) (hvb : vb ∈ Ds) (V_b : Arv Z h vb kb .byte (16 : Int32) vs (.int 0)) (E_a : Exa Z h a "java/lang/StringBuilder") (F_value : Fld Z h a "java/lang/AbstractStringBuilder" "value" "[B" (.ref vb)) (F_coder : Fld Z h a "java/lang/AbstractStringBuilder" "coder" "B" (.int (0 : Int32))) {x0 x1 x2 x3 x4 x5 x6 : Int32} (S_s : IsStr Z h s [x0, x1, x2, x3, x4, x5, x6]) :
    Ctr l Z (⟨"java/lang/AbstractStringBuilder", "putStringAt", "(ILjava/lang/String;)V"⟩ : MethodName) jdk_68_method_73_code 3 none [] ({ frames := 2, cells := 0, slots := 0, locals := 95 } : Room) #[.ref a, .int (0 : Int32), .ref s] h n0 Ds (fun v h' Ds' => v = none ∧ Keep h h' [vb] ∧ Arv Z h' vb kb .byte (16 : Int32) (vs.take 0 ++ [(.int x0.toInt8.toInt32), (.int x1.toInt8.toInt32), (.int x2.toInt8.toInt32), (.int x3.toInt8.toInt32), (.int x4.toInt8.toInt32), (.int x5.toInt8.toInt32), (.int x6.toInt8.toInt32)] ++ vs.drop 7) (.int 0) ∧ Ds = Ds') := by
  refine ctr_of (Ls := #[.val (.ref a), .val (.int (0 : Int32)), .val (.ref s)]) (plainFor_of_name own_pn1) (fun m => by first | (simp [entryFrame, mkF, argsToLocals, Value.category]; done) | rfl) ?_
  intro C hl hret hnm R
  subst hl
  replace R := R.aloadN (pc' := 1) (v := (.ref a)) own_d26_0 rfl rfl rfl
  replace R := R.aloadN (pc' := 2) (v := (.ref s)) own_d26_1 rfl rfl rfl
  obtain ⟨_, _, _, ⟨rfl, rfl, rfl⟩, R⟩ := R.callV (pc' := 5) (y := (⟨"java/lang/AbstractStringBuilder", "inflateIfNeededFor", "(Ljava/lang/String;)V"⟩ : MethodName)) (z := (⟨"java/lang/AbstractStringBuilder", "inflateIfNeededFor", "(Ljava/lang/String;)V"⟩ : MethodName)) (argsL := [(.ref s)]) (rest := []) (W := 0) (own_w156 hw) (own_decl (own_w157 hw) (own_w160 hw)) (fun s' hZ' => notFace_of_selects (args := #[]) (mvT hZ' (own_w159 hw))) (own_w159 hw) (own_w157 hw) (own_w115 hw) (own_w160 hw) (by decide) E_a (rm_inf C.l Z a0 hw a s h n0 Ds own_cs E_a F_coder S_s) rfl (lenOf own_pd2 rfl) rfl rfl own_d26_2 (by decide) (by decide) (by decide) (by decide) rfl
  replace R := R.mono (ce' := 0) (sl' := 0) (by decide) (by decide)
  replace R := R.stk (S' := []) rfl
  replace R := R.aloadN (pc' := 6) (v := (.ref s)) own_d26_5 rfl rfl rfl
  replace R := R.aloadN (pc' := 7) (v := (.ref a)) own_d26_6 rfl rfl rfl
  replace R := R.getF (pc' := 10) (host := "") (Or.inl (own_w119 hw)) Via.refl F_value own_d26_7 rfl
  replace R := R.iloadN (pc' := 11) (v := (0 : Int32)) own_d26_10 rfl rfl
  replace R := R.aloadN (pc' := 12) (v := (.ref a)) own_d26_11 rfl rfl rfl
  replace R := R.getF (pc' := 15) (host := "") (Or.inl (own_w121 hw)) Via.refl F_coder own_d26_12 rfl
  obtain ⟨_, h1, _, ⟨rfl, K1, V1, rfl⟩, R⟩ := R.callV (pc' := 18) (y := (⟨"java/lang/String", "getBytes", "([BIB)V"⟩ : MethodName)) (z := (⟨"java/lang/String", "getBytes", "([BIB)V"⟩ : MethodName)) (argsL := [(.ref vb), (.int (0 : Int32)), (.int (0 : Int32))]) (rest := []) (W := 0) (own_w162 hw) (own_w163 hw) (fun s' hZ' => notFace_of_selects (args := #[]) (mvT hZ' (own_w165 hw))) (own_w165 hw) (own_w164 hw) (own_w2 hw) (own_w166 hw) (by decide) S_s.1 (rm_gb_0_7 C.l Z a0 hw s h n0 Ds own_cs hvl hvb V_b S_s) rfl (lenOf own_pd3 rfl) rfl rfl own_d26_15 (by decide) (by decide) (by decide) (by decide) rfl
  replace R := R.mono (ce' := 0) (sl' := 0) (by decide) (by decide)
  replace R := R.stk (S' := []) rfl
  have hK := ((Keep.refl h [vb]).trans K1 (allS (Or.inl (List.mem_of_getElem? (i := 0) rfl)) all0))
  exact R.retV (Ds' := Ds) hret own_d26_18 (by decide) (by decide) (fun _ q => q) ⟨rfl, hK, V1, rfl⟩
set_option maxRecDepth 65536 in
set_option maxHeartbeats 4000000 in
theorem rm_aa_0_7 (l : Launch) (Z : State) (a0 : Array Value) (hw : ∀ d ∈ tables_1, d.before a0 Z = true) (a s : Addr) (h : Heap) (n0 : Nat) (Ds : List Addr) (own_cs : CompactOn Z) {vb : Addr} {kb : ClassId} {vs : List Value} (hvl : vs.length = 16) (hvb : vb ∈ Ds) (V_b : Arv Z h vb kb .byte (16 : Int32) vs (.int 0)) (ha : a ∈ Ds) (nab : a ≠ vb) (E_a : Exa Z h a "java/lang/StringBuilder") (F_value : Fld Z h a "java/lang/AbstractStringBuilder" "value" "[B" (.ref vb)) (F_coder : Fld Z h a "java/lang/AbstractStringBuilder" "coder" "B" (.int (0 : Int32))) (F_count : Fld Z h a "java/lang/AbstractStringBuilder" "count" "I" (.int (0 : Int32))) {x0 x1 x2 x3 x4 x5 x6 : Int32} (S_s : IsStr Z h s [x0, x1, x2, x3, x4, x5, x6]) :
    Ctr l Z (⟨"java/lang/AbstractStringBuilder", "append", "(Ljava/lang/String;)Ljava/lang/AbstractStringBuilder;"⟩ : MethodName) jdk_68_method_22_code 3 (some (.object "java/lang/AbstractStringBuilder")) [] ({ frames := 3, cells := 0, slots := 0, locals := 109 } : Room) #[.ref a, .ref s] h n0 Ds (fun v h' Ds' => v = some (.ref a) ∧ Keep h h' [vb, a] ∧ Exa Z h' a "java/lang/StringBuilder" ∧ Fld Z h' a "java/lang/AbstractStringBuilder" "value" "[B" (.ref vb) ∧ Fld Z h' a "java/lang/AbstractStringBuilder" "coder" "B" (.int (0 : Int32)) ∧ Fld Z h' a "java/lang/AbstractStringBuilder" "count" "I" (.int (7 : Int32)) ∧ Arv Z h' vb kb .byte (16 : Int32) (vs.take 0 ++ [(.int x0.toInt8.toInt32), (.int x1.toInt8.toInt32), (.int x2.toInt8.toInt32), (.int x3.toInt8.toInt32), (.int x4.toInt8.toInt32), (.int x5.toInt8.toInt32), (.int x6.toInt8.toInt32)] ++ vs.drop 7) (.int 0) ∧ Ds = Ds') := by
  refine ctr_of (Ls := #[.val (.ref a), .val (.ref s), .unset]) (plainFor_of_name own_pn1) (fun m => by first | (simp [entryFrame, mkF, argsToLocals, Value.category]; done) | rfl) ?_
  intro C hl hret hnm R
  subst hl
  replace R := R.aloadN (pc' := 1) (v := (.ref s)) own_d22_0 rfl rfl rfl
  replace R := R.ifnonnullY (pc' := 9) own_d22_1 (by decide) rfl
  replace R := R.aloadN (pc' := 10) (v := (.ref s)) own_d22_9 rfl rfl rfl
  obtain ⟨_, _, _, ⟨rfl, rfl, rfl⟩, R⟩ := R.callV (pc' := 13) (y := (⟨"java/lang/String", "length", "()I"⟩ : MethodName)) (z := (⟨"java/lang/String", "length", "()I"⟩ : MethodName)) (argsL := []) (rest := []) (W := 0) (own_w134 hw) (own_w135 hw) (fun s' hZ' => notFace_of_selects (args := #[]) (mvT hZ' (own_w137 hw))) (own_w137 hw) (own_w136 hw) (own_w2 hw) (own_w138 hw) (by decide) S_s.1 (rm_length C.l Z a0 hw s h n0 Ds own_cs S_s) rfl (lenOf own_pd4 rfl) rfl rfl own_d22_10 (by decide) (by decide) (by decide) (by decide) rfl
  replace R := R.mono (ce' := 0) (sl' := 0) (by decide) (by decide)
  replace R := R.stk (S' := [(.int (7 : Int32))]) rfl
  replace R := R.istoreN (pc' := 14) (l' := #[.val (.ref a), .val (.ref s), .val (.int (7 : Int32))]) own_d22_13 rfl rfl
  replace R := R.aloadN (pc' := 15) (v := (.ref a)) own_d22_14 rfl rfl rfl
  replace R := R.aloadN (pc' := 16) (v := (.ref a)) own_d22_15 rfl rfl rfl
  replace R := R.getF (pc' := 19) (host := "") (Or.inl (own_w144 hw)) Via.refl F_count own_d22_16 rfl
  replace R := R.iloadN (pc' := 20) (v := (7 : Int32)) own_d22_19 rfl rfl
  replace R := R.iadd (pc' := 21) own_d22_20 rfl
  replace R := R.stk (S' := [(.int (7 : Int32)), (.ref a)]) rfl
  obtain ⟨_, _, _, ⟨rfl, rfl, rfl⟩, R⟩ := R.callV (pc' := 24) (y := (⟨"java/lang/AbstractStringBuilder", "ensureCapacityInternal", "(I)V"⟩ : MethodName)) (z := (⟨"java/lang/AbstractStringBuilder", "ensureCapacityInternal", "(I)V"⟩ : MethodName)) (argsL := [(.int (7 : Int32))]) (rest := []) (W := 0) (own_w146 hw) (own_decl (own_w147 hw) (own_w150 hw)) (fun s' hZ' => notFace_of_selects (args := #[]) (mvT hZ' (own_w149 hw))) (own_w149 hw) (own_w147 hw) (own_w115 hw) (own_w150 hw) (by decide) E_a (rm_ec7 C.l Z a0 hw a h n0 Ds hvl hvb V_b E_a F_value F_coder) rfl (lenOf own_pd1 rfl) rfl rfl own_d22_21 (by decide) (by decide) (by decide) (by decide) rfl
  replace R := R.mono (ce' := 0) (sl' := 0) (by decide) (by decide)
  replace R := R.stk (S' := []) rfl
  replace R := R.aloadN (pc' := 25) (v := (.ref a)) own_d22_24 rfl rfl rfl
  replace R := R.aloadN (pc' := 26) (v := (.ref a)) own_d22_25 rfl rfl rfl
  replace R := R.getF (pc' := 29) (host := "") (Or.inl (own_w144 hw)) Via.refl F_count own_d22_26 rfl
  replace R := R.aloadN (pc' := 30) (v := (.ref s)) own_d22_29 rfl rfl rfl
  obtain ⟨_, h1, _, ⟨rfl, K1, V1, rfl⟩, R⟩ := R.callV (pc' := 33) (y := (⟨"java/lang/AbstractStringBuilder", "putStringAt", "(ILjava/lang/String;)V"⟩ : MethodName)) (z := (⟨"java/lang/AbstractStringBuilder", "putStringAt", "(ILjava/lang/String;)V"⟩ : MethodName)) (argsL := [(.int (0 : Int32)), (.ref s)]) (rest := []) (W := 0) (own_w151 hw) (own_decl (own_w152 hw) (own_w155 hw)) (fun s' hZ' => notFace_of_selects (args := #[]) (mvT hZ' (own_w154 hw))) (own_w154 hw) (own_w152 hw) (own_w115 hw) (own_w155 hw) (by decide) E_a (rm_ps_0_7 C.l Z a0 hw a s h n0 Ds own_cs hvl hvb V_b E_a F_value F_coder S_s) rfl (lenOf own_pd5 rfl) rfl rfl own_d22_30 (by decide) (by decide) (by decide) (by decide) rfl
  replace R := R.mono (ce' := 0) (sl' := 0) (by decide) (by decide)
  replace R := R.stk (S' := []) rfl
  replace R := R.aloadN (pc' := 34) (v := (.ref a)) own_d22_33 rfl rfl rfl
  replace R := R.dup (pc' := 35) own_d22_34 rfl rfl
  have K2 := ((Keep.refl h [vb]).trans K1 (allS (Or.inl (List.mem_of_getElem? (i := 0) rfl)) all0))
  have F3 := F_count.keep K2 (ninS nab nin0)
  replace R := R.getF (pc' := 38) (host := "") (Or.inl (own_w144 hw)) Via.refl F3 own_d22_35 rfl
  replace R := R.iloadN (pc' := 39) (v := (7 : Int32)) own_d22_38 rfl rfl
  replace R := R.iadd (pc' := 40) own_d22_39 rfl
  replace R := R.stk (S' := [(.int (7 : Int32)), (.ref a)]) rfl
  have K4 := ((Keep.refl h [vb]).trans K1 (allS (Or.inl (List.mem_of_getElem? (i := 0) rfl)) all0))
  have F5 := E_a.keep K4
  have K6 := ((Keep.refl h [vb]).trans K1 (allS (Or.inl (List.mem_of_getElem? (i := 0) rfl)) all0))
  have F7 := F_value.keep K6 (ninS nab nin0)
  have K8 := ((Keep.refl h [vb]).trans K1 (allS (Or.inl (List.mem_of_getElem? (i := 0) rfl)) all0))
  have F9 := F_coder.keep K8 (ninS nab nin0)
  obtain ⟨h10, W10, R⟩ := R.putF (pc' := 43) (ty := .int) (host := "") (Or.inl (own_w144 hw)) Via.refl F3 F5 (Or.inl (own_w145 hw)) (own_w106 hw) (by decide) rfl rfl ha own_d22_40 rfl
  have F10 := F3.same W10
  have F11 := F7.other W10 (Or.inr (slot_ne (Or.inl (own_w120 hw)) (Or.inl (own_w145 hw)) (by decide) (t := (.array .byte)) (t' := .int) (by decide) (by decide)))
  have F12 := F9.other W10 (Or.inr (slot_ne (Or.inl (own_w122 hw)) (Or.inl (own_w145 hw)) (by decide) (t := .byte) (t' := .int) (by decide) (by decide)))
  replace R := R.aloadN (pc' := 44) (v := (.ref a)) own_d22_43 rfl rfl rfl
  have hK := (((Keep.refl h [vb, a]).trans K1 (allS (Or.inl (List.mem_of_getElem? (i := 0) rfl)) all0)).trans (Keep.of_wr W10) (allS (Or.inl (List.mem_of_getElem? (i := 1) rfl)) all0))
  have K13 := ((Keep.refl h1 [a]).trans (Keep.of_wr W10) (allS (Or.inl (List.mem_of_getElem? (i := 0) rfl)) all0))
  have F14 := F5.keep K13
  have K15 := ((Keep.refl h1 [a]).trans (Keep.of_wr W10) (allS (Or.inl (List.mem_of_getElem? (i := 0) rfl)) all0))
  have F16 := V1.keep K15 (ninS (Ne.symm nab) nin0)
  exact R.retA (Ds' := Ds) hret rfl rfl rfl own_d22_44 (by decide) (by decide) (fun _ q => q) ⟨rfl, hK, F14, F11, F12, F10, F16, rfl⟩
set_option maxRecDepth 65536 in
set_option maxHeartbeats 4000000 in
theorem rm_sa_0_7 (l : Launch) (Z : State) (a0 : Array Value) (hw : ∀ d ∈ tables_1, d.before a0 Z = true) (a s : Addr) (h : Heap) (n0 : Nat) (Ds : List Addr) (own_cs : CompactOn Z) {vb : Addr} {kb : ClassId} {vs : List Value} (hvl : vs.length = 16) (hvb : vb ∈ Ds) (V_b : Arv Z h vb kb .byte (16 : Int32) vs (.int 0)) (ha : a ∈ Ds) (nab : a ≠ vb) (E_a : Exa Z h a "java/lang/StringBuilder") (F_value : Fld Z h a "java/lang/AbstractStringBuilder" "value" "[B" (.ref vb)) (F_coder : Fld Z h a "java/lang/AbstractStringBuilder" "coder" "B" (.int (0 : Int32))) (F_count : Fld Z h a "java/lang/AbstractStringBuilder" "count" "I" (.int (0 : Int32))) {x0 x1 x2 x3 x4 x5 x6 : Int32} (S_s : IsStr Z h s [x0, x1, x2, x3, x4, x5, x6]) :
    Ctr l Z (⟨"java/lang/StringBuilder", "append", "(Ljava/lang/String;)Ljava/lang/StringBuilder;"⟩ : MethodName) jdk_67_method_7_code 2 (some (.object "java/lang/StringBuilder")) [] ({ frames := 4, cells := 0, slots := 0, locals := 123 } : Room) #[.ref a, .ref s] h n0 Ds (fun v h' Ds' => v = some (.ref a) ∧ Keep h h' [vb, a] ∧ Exa Z h' a "java/lang/StringBuilder" ∧ Fld Z h' a "java/lang/AbstractStringBuilder" "value" "[B" (.ref vb) ∧ Fld Z h' a "java/lang/AbstractStringBuilder" "coder" "B" (.int (0 : Int32)) ∧ Fld Z h' a "java/lang/AbstractStringBuilder" "count" "I" (.int (7 : Int32)) ∧ Arv Z h' vb kb .byte (16 : Int32) (vs.take 0 ++ [(.int x0.toInt8.toInt32), (.int x1.toInt8.toInt32), (.int x2.toInt8.toInt32), (.int x3.toInt8.toInt32), (.int x4.toInt8.toInt32), (.int x5.toInt8.toInt32), (.int x6.toInt8.toInt32)] ++ vs.drop 7) (.int 0) ∧ Ds = Ds') := by
  refine ctr_of (Ls := #[.val (.ref a), .val (.ref s)]) (plainFor_of_name own_pn2) (fun m => by first | (simp [entryFrame, mkF, argsToLocals, Value.category]; done) | rfl) ?_
  intro C hl hret hnm R
  subst hl
  replace R := R.aloadN (pc' := 1) (v := (.ref a)) own_d21_0 rfl rfl rfl
  replace R := R.aloadN (pc' := 2) (v := (.ref s)) own_d21_1 rfl rfl rfl
  obtain ⟨_, h1, _, ⟨rfl, K1, X1, F1_value, F1_coder, F1_count, V1, rfl⟩, R⟩ := R.callSup (pc' := 5) (y := (⟨"java/lang/AbstractStringBuilder", "append", "(Ljava/lang/String;)Ljava/lang/AbstractStringBuilder;"⟩ : MethodName)) (a := a) (argsL := [(.ref s)]) (rest := []) (W := 0) (by decide) (own_w129 hw) (own_same (own_w130 hw) (own_w149 hw) rfl (by decide)) (own_w131 hw) (own_w130 hw) (own_w115 hw) (own_w133 hw) E_a (rm_aa_0_7 C.l Z a0 hw a s h n0 Ds own_cs hvl hvb V_b ha nab E_a F_value F_coder F_count (x0 := x0) (x1 := x1) (x2 := x2) (x3 := x3) (x4 := x4) (x5 := x5) (x6 := x6) S_s) rfl (lenOf own_pd6 rfl) rfl rfl own_d21_2 (by decide) (by decide) (by decide) (by decide) rfl
  replace R := R.mono (ce' := 0) (sl' := 0) (by decide) (by decide)
  replace R := R.stk (S' := [(.ref a)]) rfl
  replace R := R.pop (pc' := 6) own_d21_5 rfl rfl
  replace R := R.aloadN (pc' := 7) (v := (.ref a)) own_d21_6 rfl rfl rfl
  have hK := ((Keep.refl h [vb, a]).trans K1 (allS (Or.inl (List.mem_of_getElem? (i := 0) rfl)) (allS (Or.inl (List.mem_of_getElem? (i := 1) rfl)) all0)))
  exact R.retA (Ds' := Ds) hret rfl rfl rfl own_d21_7 (by decide) (by decide) (fun _ q => q) ⟨rfl, hK, X1, F1_value, F1_coder, F1_count, V1, rfl⟩
set_option maxRecDepth 65536 in
set_option maxHeartbeats 4000000 in
theorem rm_ec9 (l : Launch) (Z : State) (a0 : Array Value) (hw : ∀ d ∈ tables_1, d.before a0 Z = true) (a : Addr) (h : Heap) (n0 : Nat) (Ds : List Addr) {vb : Addr} {kb : ClassId} {vs : List Value} (hvl : vs.length = 16) (hvb : vb ∈ Ds) (V_b : Arv Z h vb kb .byte (16 : Int32) vs (.int 0)) (E_a : Exa Z h a "java/lang/StringBuilder") (F_value : Fld Z h a "java/lang/AbstractStringBuilder" "value" "[B" (.ref vb)) (F_coder : Fld Z h a "java/lang/AbstractStringBuilder" "coder" "B" (.int (0 : Int32))) :
    Ctr l Z (⟨"java/lang/AbstractStringBuilder", "ensureCapacityInternal", "(I)V"⟩ : MethodName) jdk_68_method_9_code 3 none [] ({ frames := 0, cells := 0, slots := 0, locals := 0 } : Room) #[.ref a, .int (9 : Int32)] h n0 Ds (fun v h' Ds' => v = none ∧ h = h' ∧ Ds = Ds') := by
  refine ctr_of (Ls := #[.val (.ref a), .val (.int (9 : Int32)), .unset]) (plainFor_of_name own_pn1) (fun m => by first | (simp [entryFrame, mkF, argsToLocals, Value.category]; done) | rfl) ?_
  intro C hl hret hnm R
  subst hl
  replace R := R.aloadN (pc' := 1) (v := (.ref a)) own_d25_0 rfl rfl rfl
  replace R := R.getF (pc' := 4) (host := "") (Or.inl (own_w119 hw)) Via.refl F_value own_d25_1 rfl
  replace R := R.arraylength (pc' := 5) V_b own_d25_4 rfl
  replace R := R.aloadN (pc' := 6) (v := (.ref a)) own_d25_5 rfl rfl rfl
  replace R := R.getF (pc' := 9) (host := "") (Or.inl (own_w121 hw)) Via.refl F_coder own_d25_6 rfl
  replace R := R.ishr (pc' := 10) own_d25_9 rfl
  replace R := R.stk (S' := [(.int (16 : Int32))]) rfl
  replace R := R.istoreN (pc' := 11) (l' := #[.val (.ref a), .val (.int (9 : Int32)), .val (.int (16 : Int32))]) own_d25_10 rfl rfl
  replace R := R.iloadN (pc' := 12) (v := (9 : Int32)) own_d25_11 rfl rfl
  replace R := R.iloadN (pc' := 13) (v := (16 : Int32)) own_d25_12 rfl rfl
  replace R := R.isub (pc' := 14) own_d25_13 rfl
  replace R := R.stk (S' := [(.int (-7 : Int32))]) rfl
  replace R := R.ifY (pc' := 38) own_d25_14 (flt (by decide : ¬ ((0 : Int32) < (-7 : Int32)))).2.2.2 (by decide) rfl
  exact R.retV (Ds' := Ds) hret own_d25_38 (by decide) (by decide) (fun _ q => q) ⟨rfl, rfl, rfl⟩
set_option maxRecDepth 65536 in
set_option maxHeartbeats 4000000 in
theorem rm_gb_7_2 (l : Launch) (Z : State) (a0 : Array Value) (hw : ∀ d ∈ tables_1, d.before a0 Z = true) (s : Addr) (h : Heap) (n0 : Nat) (Ds : List Addr) (own_cs : CompactOn Z) {vb : Addr} {kb : ClassId} {vs : List Value} (hvl : vs.length = 16) (hvb : vb ∈ Ds) (V_b : Arv Z h vb kb .byte (16 : Int32) vs (.int 0)) {x0 x1 : Int32} (S_s : IsStr Z h s [x0, x1]) :
    Ctr l Z (⟨"java/lang/String", "getBytes", "([BIB)V"⟩ : MethodName) jdk_42_method_147_code 4 none [] ({ frames := 1, cells := 0, slots := 0, locals := 80 } : Room) #[.ref s, .ref vb, .int (7 : Int32), .int (0 : Int32)] h n0 Ds (fun v h' Ds' => v = none ∧ Keep h h' [vb] ∧ Arv Z h' vb kb .byte (16 : Int32) (vs.take 7 ++ [(.int x0.toInt8.toInt32), (.int x1.toInt8.toInt32)] ++ vs.drop 9) (.int 0) ∧ Ds = Ds') := by
  refine ctr_of (Ls := #[.val (.ref s), .val (.ref vb), .val (.int (7 : Int32)), .val (.int (0 : Int32))]) (plainFor_of_name own_pn0) (fun m => by first | (simp [entryFrame, mkF, argsToLocals, Value.category]; done) | rfl) ?_
  intro C hl hret hnm R
  subst hl
  obtain ⟨e1, e2, e3, e4, t, kt, e5, e6⟩ := S_s
  have e7 : Arv Z h t kt .byte (2 : Int32) [(.int x0.toInt8.toInt32), (.int x1.toInt8.toInt32)] (.int 0) := e6
  replace R := R.aloadN (pc' := 1) (v := (.ref s)) own_d28_0 rfl rfl rfl
  obtain ⟨_, _, _, ⟨rfl, rfl, rfl⟩, R⟩ := R.callV (pc' := 4) (y := (⟨"java/lang/String", "coder", "()B"⟩ : MethodName)) (z := (⟨"java/lang/String", "coder", "()B"⟩ : MethodName)) (argsL := []) (rest := []) (W := 0) (own_w139 hw) (own_w140 hw) (fun s' hZ' => notFace_of_selects (args := #[]) (mvT hZ' (own_w142 hw))) (own_w142 hw) (own_w141 hw) (own_w2 hw) (own_w143 hw) (by decide) e1 (rm_coder C.l Z a0 hw s h n0 Ds own_cs e2) rfl (lenOf own_pd0 rfl) rfl rfl own_d28_1 (by decide) (by decide) (by decide) (by decide) rfl
  replace R := R.mono (ce' := 0) (sl' := 0) (by decide) (by decide)
  replace R := R.stk (S' := [(.int (0 : Int32))]) rfl
  replace R := R.iloadN (pc' := 5) (v := (0 : Int32)) own_d28_4 rfl rfl
  replace R := R.icmpN (pc' := 8) own_d28_5 (teq (by decide : (0 : Int32) = (0 : Int32))).2 rfl
  replace R := R.aloadN (pc' := 9) (v := (.ref s)) own_d28_8 rfl rfl rfl
  replace R := R.getF (pc' := 12) (host := "") (Or.inl (own_w28 hw)) Via.refl e5 own_d28_9 rfl
  replace R := R.iconst (pc' := 13) (z := (0 : Int32)) own_d28_12 rfl rfl
  replace R := R.aloadN (pc' := 14) (v := (.ref vb)) own_d28_13 rfl rfl rfl
  replace R := R.iloadN (pc' := 15) (v := (7 : Int32)) own_d28_14 rfl rfl
  replace R := R.iloadN (pc' := 16) (v := (0 : Int32)) own_d28_15 rfl rfl
  replace R := R.ishl (pc' := 17) own_d28_16 rfl
  replace R := R.stk (S' := [(.int (7 : Int32)), (.ref vb), (.int (0 : Int32)), (.ref t)]) rfl
  replace R := R.aloadN (pc' := 18) (v := (.ref s)) own_d28_17 rfl rfl rfl
  replace R := R.getF (pc' := 21) (host := "") (Or.inl (own_w28 hw)) Via.refl e5 own_d28_18 rfl
  replace R := R.arraylength (pc' := 22) e7 own_d28_21 rfl
  obtain ⟨h1, K1, V1, R⟩ := R.copyB (pc' := 25) (W := 0) (nn := (2 : Int32)) (us := [(.int x0.toInt8.toInt32), (.int x1.toInt8.toInt32)]) (own_w167 hw) (own_w170 hw) (own_w168 hw) (own_w169 hw) e7 V_b rfl (by decide) (by decide) (by decide) (by decide) (by decide) rfl (by rw [hvl]; decide) hvb rfl own_d28_22 (by decide) rfl (by decide) rfl
  have V1p : Arv Z h1 vb kb .byte (16 : Int32) (vs.take 7 ++ [(.int x0.toInt8.toInt32), (.int x1.toInt8.toInt32)] ++ vs.drop 9) (.int 0) := V1
  replace R := R.goto (pc' := 43) own_d28_25 (by decide) rfl
  have hK := ((Keep.refl h [vb]).trans K1 (allS (Or.inl (List.mem_of_getElem? (i := 0) rfl)) all0))
  exact R.retV (Ds' := Ds) hret own_d28_43 (by decide) (by decide) (fun _ q => q) ⟨rfl, hK, V1p, rfl⟩
set_option maxRecDepth 65536 in
set_option maxHeartbeats 4000000 in
theorem rm_ps_7_2 (l : Launch) (Z : State) (a0 : Array Value) (hw : ∀ d ∈ tables_1, d.before a0 Z = true) (a s : Addr) (h : Heap) (n0 : Nat) (Ds : List Addr) (own_cs : CompactOn Z) {vb : Addr} {kb : ClassId} {vs : List Value} (hvl : vs.length = 16) (hvb : vb ∈ Ds) (V_b : Arv Z h vb kb .byte (16 : Int32) vs (.int 0)) (E_a : Exa Z h a "java/lang/StringBuilder") (F_value : Fld Z h a "java/lang/AbstractStringBuilder" "value" "[B" (.ref vb)) (F_coder : Fld Z h a "java/lang/AbstractStringBuilder" "coder" "B" (.int (0 : Int32))) {x0 x1 : Int32} (S_s : IsStr Z h s [x0, x1]) :
    Ctr l Z (⟨"java/lang/AbstractStringBuilder", "putStringAt", "(ILjava/lang/String;)V"⟩ : MethodName) jdk_68_method_73_code 3 none [] ({ frames := 2, cells := 0, slots := 0, locals := 95 } : Room) #[.ref a, .int (7 : Int32), .ref s] h n0 Ds (fun v h' Ds' => v = none ∧ Keep h h' [vb] ∧ Arv Z h' vb kb .byte (16 : Int32) (vs.take 7 ++ [(.int x0.toInt8.toInt32), (.int x1.toInt8.toInt32)] ++ vs.drop 9) (.int 0) ∧ Ds = Ds') := by
  refine ctr_of (Ls := #[.val (.ref a), .val (.int (7 : Int32)), .val (.ref s)]) (plainFor_of_name own_pn1) (fun m => by first | (simp [entryFrame, mkF, argsToLocals, Value.category]; done) | rfl) ?_
  intro C hl hret hnm R
  subst hl
  replace R := R.aloadN (pc' := 1) (v := (.ref a)) own_d26_0 rfl rfl rfl
  replace R := R.aloadN (pc' := 2) (v := (.ref s)) own_d26_1 rfl rfl rfl
  obtain ⟨_, _, _, ⟨rfl, rfl, rfl⟩, R⟩ := R.callV (pc' := 5) (y := (⟨"java/lang/AbstractStringBuilder", "inflateIfNeededFor", "(Ljava/lang/String;)V"⟩ : MethodName)) (z := (⟨"java/lang/AbstractStringBuilder", "inflateIfNeededFor", "(Ljava/lang/String;)V"⟩ : MethodName)) (argsL := [(.ref s)]) (rest := []) (W := 0) (own_w156 hw) (own_decl (own_w157 hw) (own_w160 hw)) (fun s' hZ' => notFace_of_selects (args := #[]) (mvT hZ' (own_w159 hw))) (own_w159 hw) (own_w157 hw) (own_w115 hw) (own_w160 hw) (by decide) E_a (rm_inf C.l Z a0 hw a s h n0 Ds own_cs E_a F_coder S_s) rfl (lenOf own_pd2 rfl) rfl rfl own_d26_2 (by decide) (by decide) (by decide) (by decide) rfl
  replace R := R.mono (ce' := 0) (sl' := 0) (by decide) (by decide)
  replace R := R.stk (S' := []) rfl
  replace R := R.aloadN (pc' := 6) (v := (.ref s)) own_d26_5 rfl rfl rfl
  replace R := R.aloadN (pc' := 7) (v := (.ref a)) own_d26_6 rfl rfl rfl
  replace R := R.getF (pc' := 10) (host := "") (Or.inl (own_w119 hw)) Via.refl F_value own_d26_7 rfl
  replace R := R.iloadN (pc' := 11) (v := (7 : Int32)) own_d26_10 rfl rfl
  replace R := R.aloadN (pc' := 12) (v := (.ref a)) own_d26_11 rfl rfl rfl
  replace R := R.getF (pc' := 15) (host := "") (Or.inl (own_w121 hw)) Via.refl F_coder own_d26_12 rfl
  obtain ⟨_, h1, _, ⟨rfl, K1, V1, rfl⟩, R⟩ := R.callV (pc' := 18) (y := (⟨"java/lang/String", "getBytes", "([BIB)V"⟩ : MethodName)) (z := (⟨"java/lang/String", "getBytes", "([BIB)V"⟩ : MethodName)) (argsL := [(.ref vb), (.int (7 : Int32)), (.int (0 : Int32))]) (rest := []) (W := 0) (own_w162 hw) (own_w163 hw) (fun s' hZ' => notFace_of_selects (args := #[]) (mvT hZ' (own_w165 hw))) (own_w165 hw) (own_w164 hw) (own_w2 hw) (own_w166 hw) (by decide) S_s.1 (rm_gb_7_2 C.l Z a0 hw s h n0 Ds own_cs hvl hvb V_b S_s) rfl (lenOf own_pd3 rfl) rfl rfl own_d26_15 (by decide) (by decide) (by decide) (by decide) rfl
  replace R := R.mono (ce' := 0) (sl' := 0) (by decide) (by decide)
  replace R := R.stk (S' := []) rfl
  have hK := ((Keep.refl h [vb]).trans K1 (allS (Or.inl (List.mem_of_getElem? (i := 0) rfl)) all0))
  exact R.retV (Ds' := Ds) hret own_d26_18 (by decide) (by decide) (fun _ q => q) ⟨rfl, hK, V1, rfl⟩
set_option maxRecDepth 65536 in
set_option maxHeartbeats 4000000 in
theorem rm_aa_7_2 (l : Launch) (Z : State) (a0 : Array Value) (hw : ∀ d ∈ tables_1, d.before a0 Z = true) (a s : Addr) (h : Heap) (n0 : Nat) (Ds : List Addr) (own_cs : CompactOn Z) {vb : Addr} {kb : ClassId} {vs : List Value} (hvl : vs.length = 16) (hvb : vb ∈ Ds) (V_b : Arv Z h vb kb .byte (16 : Int32) vs (.int 0)) (ha : a ∈ Ds) (nab : a ≠ vb) (E_a : Exa Z h a "java/lang/StringBuilder") (F_value : Fld Z h a "java/lang/AbstractStringBuilder" "value" "[B" (.ref vb)) (F_coder : Fld Z h a "java/lang/AbstractStringBuilder" "coder" "B" (.int (0 : Int32))) (F_count : Fld Z h a "java/lang/AbstractStringBuilder" "count" "I" (.int (7 : Int32))) {x0 x1 : Int32} (S_s : IsStr Z h s [x0, x1]) :
    Ctr l Z (⟨"java/lang/AbstractStringBuilder", "append", "(Ljava/lang/String;)Ljava/lang/AbstractStringBuilder;"⟩ : MethodName) jdk_68_method_22_code 3 (some (.object "java/lang/AbstractStringBuilder")) [] ({ frames := 3, cells := 0, slots := 0, locals := 109 } : Room) #[.ref a, .ref s] h n0 Ds (fun v h' Ds' => v = some (.ref a) ∧ Keep h h' [vb, a] ∧ Exa Z h' a "java/lang/StringBuilder" ∧ Fld Z h' a "java/lang/AbstractStringBuilder" "value" "[B" (.ref vb) ∧ Fld Z h' a "java/lang/AbstractStringBuilder" "coder" "B" (.int (0 : Int32)) ∧ Fld Z h' a "java/lang/AbstractStringBuilder" "count" "I" (.int (9 : Int32)) ∧ Arv Z h' vb kb .byte (16 : Int32) (vs.take 7 ++ [(.int x0.toInt8.toInt32), (.int x1.toInt8.toInt32)] ++ vs.drop 9) (.int 0) ∧ Ds = Ds') := by
  refine ctr_of (Ls := #[.val (.ref a), .val (.ref s), .unset]) (plainFor_of_name own_pn1) (fun m => by first | (simp [entryFrame, mkF, argsToLocals, Value.category]; done) | rfl) ?_
  intro C hl hret hnm R
  subst hl
  replace R := R.aloadN (pc' := 1) (v := (.ref s)) own_d22_0 rfl rfl rfl
  replace R := R.ifnonnullY (pc' := 9) own_d22_1 (by decide) rfl
  replace R := R.aloadN (pc' := 10) (v := (.ref s)) own_d22_9 rfl rfl rfl
  obtain ⟨_, _, _, ⟨rfl, rfl, rfl⟩, R⟩ := R.callV (pc' := 13) (y := (⟨"java/lang/String", "length", "()I"⟩ : MethodName)) (z := (⟨"java/lang/String", "length", "()I"⟩ : MethodName)) (argsL := []) (rest := []) (W := 0) (own_w134 hw) (own_w135 hw) (fun s' hZ' => notFace_of_selects (args := #[]) (mvT hZ' (own_w137 hw))) (own_w137 hw) (own_w136 hw) (own_w2 hw) (own_w138 hw) (by decide) S_s.1 (rm_length C.l Z a0 hw s h n0 Ds own_cs S_s) rfl (lenOf own_pd4 rfl) rfl rfl own_d22_10 (by decide) (by decide) (by decide) (by decide) rfl
  replace R := R.mono (ce' := 0) (sl' := 0) (by decide) (by decide)
  replace R := R.stk (S' := [(.int (2 : Int32))]) rfl
  replace R := R.istoreN (pc' := 14) (l' := #[.val (.ref a), .val (.ref s), .val (.int (2 : Int32))]) own_d22_13 rfl rfl
  replace R := R.aloadN (pc' := 15) (v := (.ref a)) own_d22_14 rfl rfl rfl
  replace R := R.aloadN (pc' := 16) (v := (.ref a)) own_d22_15 rfl rfl rfl
  replace R := R.getF (pc' := 19) (host := "") (Or.inl (own_w144 hw)) Via.refl F_count own_d22_16 rfl
  replace R := R.iloadN (pc' := 20) (v := (2 : Int32)) own_d22_19 rfl rfl
  replace R := R.iadd (pc' := 21) own_d22_20 rfl
  replace R := R.stk (S' := [(.int (9 : Int32)), (.ref a)]) rfl
  obtain ⟨_, _, _, ⟨rfl, rfl, rfl⟩, R⟩ := R.callV (pc' := 24) (y := (⟨"java/lang/AbstractStringBuilder", "ensureCapacityInternal", "(I)V"⟩ : MethodName)) (z := (⟨"java/lang/AbstractStringBuilder", "ensureCapacityInternal", "(I)V"⟩ : MethodName)) (argsL := [(.int (9 : Int32))]) (rest := []) (W := 0) (own_w146 hw) (own_decl (own_w147 hw) (own_w150 hw)) (fun s' hZ' => notFace_of_selects (args := #[]) (mvT hZ' (own_w149 hw))) (own_w149 hw) (own_w147 hw) (own_w115 hw) (own_w150 hw) (by decide) E_a (rm_ec9 C.l Z a0 hw a h n0 Ds hvl hvb V_b E_a F_value F_coder) rfl (lenOf own_pd1 rfl) rfl rfl own_d22_21 (by decide) (by decide) (by decide) (by decide) rfl
  replace R := R.mono (ce' := 0) (sl' := 0) (by decide) (by decide)
  replace R := R.stk (S' := []) rfl
  replace R := R.aloadN (pc' := 25) (v := (.ref a)) own_d22_24 rfl rfl rfl
  replace R := R.aloadN (pc' := 26) (v := (.ref a)) own_d22_25 rfl rfl rfl
  replace R := R.getF (pc' := 29) (host := "") (Or.inl (own_w144 hw)) Via.refl F_count own_d22_26 rfl
  replace R := R.aloadN (pc' := 30) (v := (.ref s)) own_d22_29 rfl rfl rfl
  obtain ⟨_, h1, _, ⟨rfl, K1, V1, rfl⟩, R⟩ := R.callV (pc' := 33) (y := (⟨"java/lang/AbstractStringBuilder", "putStringAt", "(ILjava/lang/String;)V"⟩ : MethodName)) (z := (⟨"java/lang/AbstractStringBuilder", "putStringAt", "(ILjava/lang/String;)V"⟩ : MethodName)) (argsL := [(.int (7 : Int32)), (.ref s)]) (rest := []) (W := 0) (own_w151 hw) (own_decl (own_w152 hw) (own_w155 hw)) (fun s' hZ' => notFace_of_selects (args := #[]) (mvT hZ' (own_w154 hw))) (own_w154 hw) (own_w152 hw) (own_w115 hw) (own_w155 hw) (by decide) E_a (rm_ps_7_2 C.l Z a0 hw a s h n0 Ds own_cs hvl hvb V_b E_a F_value F_coder S_s) rfl (lenOf own_pd5 rfl) rfl rfl own_d22_30 (by decide) (by decide) (by decide) (by decide) rfl
  replace R := R.mono (ce' := 0) (sl' := 0) (by decide) (by decide)
  replace R := R.stk (S' := []) rfl
  replace R := R.aloadN (pc' := 34) (v := (.ref a)) own_d22_33 rfl rfl rfl
  replace R := R.dup (pc' := 35) own_d22_34 rfl rfl
  have K2 := ((Keep.refl h [vb]).trans K1 (allS (Or.inl (List.mem_of_getElem? (i := 0) rfl)) all0))
  have F3 := F_count.keep K2 (ninS nab nin0)
  replace R := R.getF (pc' := 38) (host := "") (Or.inl (own_w144 hw)) Via.refl F3 own_d22_35 rfl
  replace R := R.iloadN (pc' := 39) (v := (2 : Int32)) own_d22_38 rfl rfl
  replace R := R.iadd (pc' := 40) own_d22_39 rfl
  replace R := R.stk (S' := [(.int (9 : Int32)), (.ref a)]) rfl
  have K4 := ((Keep.refl h [vb]).trans K1 (allS (Or.inl (List.mem_of_getElem? (i := 0) rfl)) all0))
  have F5 := E_a.keep K4
  have K6 := ((Keep.refl h [vb]).trans K1 (allS (Or.inl (List.mem_of_getElem? (i := 0) rfl)) all0))
  have F7 := F_value.keep K6 (ninS nab nin0)
  have K8 := ((Keep.refl h [vb]).trans K1 (allS (Or.inl (List.mem_of_getElem? (i := 0) rfl)) all0))
  have F9 := F_coder.keep K8 (ninS nab nin0)
  obtain ⟨h10, W10, R⟩ := R.putF (pc' := 43) (ty := .int) (host := "") (Or.inl (own_w144 hw)) Via.refl F3 F5 (Or.inl (own_w145 hw)) (own_w106 hw) (by decide) rfl rfl ha own_d22_40 rfl
  have F10 := F3.same W10
  have F11 := F7.other W10 (Or.inr (slot_ne (Or.inl (own_w120 hw)) (Or.inl (own_w145 hw)) (by decide) (t := (.array .byte)) (t' := .int) (by decide) (by decide)))
  have F12 := F9.other W10 (Or.inr (slot_ne (Or.inl (own_w122 hw)) (Or.inl (own_w145 hw)) (by decide) (t := .byte) (t' := .int) (by decide) (by decide)))
  replace R := R.aloadN (pc' := 44) (v := (.ref a)) own_d22_43 rfl rfl rfl
  have hK := (((Keep.refl h [vb, a]).trans K1 (allS (Or.inl (List.mem_of_getElem? (i := 0) rfl)) all0)).trans (Keep.of_wr W10) (allS (Or.inl (List.mem_of_getElem? (i := 1) rfl)) all0))
  have K13 := ((Keep.refl h1 [a]).trans (Keep.of_wr W10) (allS (Or.inl (List.mem_of_getElem? (i := 0) rfl)) all0))
  have F14 := F5.keep K13
  have K15 := ((Keep.refl h1 [a]).trans (Keep.of_wr W10) (allS (Or.inl (List.mem_of_getElem? (i := 0) rfl)) all0))
  have F16 := V1.keep K15 (ninS (Ne.symm nab) nin0)
  exact R.retA (Ds' := Ds) hret rfl rfl rfl own_d22_44 (by decide) (by decide) (fun _ q => q) ⟨rfl, hK, F14, F11, F12, F10, F16, rfl⟩
set_option maxRecDepth 65536 in
set_option maxHeartbeats 4000000 in
theorem rm_sa_7_2 (l : Launch) (Z : State) (a0 : Array Value) (hw : ∀ d ∈ tables_1, d.before a0 Z = true) (a s : Addr) (h : Heap) (n0 : Nat) (Ds : List Addr) (own_cs : CompactOn Z) {vb : Addr} {kb : ClassId} {vs : List Value} (hvl : vs.length = 16) (hvb : vb ∈ Ds) (V_b : Arv Z h vb kb .byte (16 : Int32) vs (.int 0)) (ha : a ∈ Ds) (nab : a ≠ vb) (E_a : Exa Z h a "java/lang/StringBuilder") (F_value : Fld Z h a "java/lang/AbstractStringBuilder" "value" "[B" (.ref vb)) (F_coder : Fld Z h a "java/lang/AbstractStringBuilder" "coder" "B" (.int (0 : Int32))) (F_count : Fld Z h a "java/lang/AbstractStringBuilder" "count" "I" (.int (7 : Int32))) {x0 x1 : Int32} (S_s : IsStr Z h s [x0, x1]) :
    Ctr l Z (⟨"java/lang/StringBuilder", "append", "(Ljava/lang/String;)Ljava/lang/StringBuilder;"⟩ : MethodName) jdk_67_method_7_code 2 (some (.object "java/lang/StringBuilder")) [] ({ frames := 4, cells := 0, slots := 0, locals := 123 } : Room) #[.ref a, .ref s] h n0 Ds (fun v h' Ds' => v = some (.ref a) ∧ Keep h h' [vb, a] ∧ Exa Z h' a "java/lang/StringBuilder" ∧ Fld Z h' a "java/lang/AbstractStringBuilder" "value" "[B" (.ref vb) ∧ Fld Z h' a "java/lang/AbstractStringBuilder" "coder" "B" (.int (0 : Int32)) ∧ Fld Z h' a "java/lang/AbstractStringBuilder" "count" "I" (.int (9 : Int32)) ∧ Arv Z h' vb kb .byte (16 : Int32) (vs.take 7 ++ [(.int x0.toInt8.toInt32), (.int x1.toInt8.toInt32)] ++ vs.drop 9) (.int 0) ∧ Ds = Ds') := by
  refine ctr_of (Ls := #[.val (.ref a), .val (.ref s)]) (plainFor_of_name own_pn2) (fun m => by first | (simp [entryFrame, mkF, argsToLocals, Value.category]; done) | rfl) ?_
  intro C hl hret hnm R
  subst hl
  replace R := R.aloadN (pc' := 1) (v := (.ref a)) own_d21_0 rfl rfl rfl
  replace R := R.aloadN (pc' := 2) (v := (.ref s)) own_d21_1 rfl rfl rfl
  obtain ⟨_, h1, _, ⟨rfl, K1, X1, F1_value, F1_coder, F1_count, V1, rfl⟩, R⟩ := R.callSup (pc' := 5) (y := (⟨"java/lang/AbstractStringBuilder", "append", "(Ljava/lang/String;)Ljava/lang/AbstractStringBuilder;"⟩ : MethodName)) (a := a) (argsL := [(.ref s)]) (rest := []) (W := 0) (by decide) (own_w129 hw) (own_same (own_w130 hw) (own_w149 hw) rfl (by decide)) (own_w131 hw) (own_w130 hw) (own_w115 hw) (own_w133 hw) E_a (rm_aa_7_2 C.l Z a0 hw a s h n0 Ds own_cs hvl hvb V_b ha nab E_a F_value F_coder F_count (x0 := x0) (x1 := x1) S_s) rfl (lenOf own_pd6 rfl) rfl rfl own_d21_2 (by decide) (by decide) (by decide) (by decide) rfl
  replace R := R.mono (ce' := 0) (sl' := 0) (by decide) (by decide)
  replace R := R.stk (S' := [(.ref a)]) rfl
  replace R := R.pop (pc' := 6) own_d21_5 rfl rfl
  replace R := R.aloadN (pc' := 7) (v := (.ref a)) own_d21_6 rfl rfl rfl
  have hK := ((Keep.refl h [vb, a]).trans K1 (allS (Or.inl (List.mem_of_getElem? (i := 0) rfl)) (allS (Or.inl (List.mem_of_getElem? (i := 1) rfl)) all0)))
  exact R.retA (Ds' := Ds) hret rfl rfl rfl own_d21_7 (by decide) (by decide) (fun _ q => q) ⟨rfl, hK, X1, F1_value, F1_coder, F1_count, V1, rfl⟩
set_option maxRecDepth 65536 in
set_option maxHeartbeats 4000000 in
theorem rm_ec10 (l : Launch) (Z : State) (a0 : Array Value) (hw : ∀ d ∈ tables_1, d.before a0 Z = true) (a : Addr) (h : Heap) (n0 : Nat) (Ds : List Addr) {vb : Addr} {kb : ClassId} {vs : List Value} (hvl : vs.length = 16) (hvb : vb ∈ Ds) (V_b : Arv Z h vb kb .byte (16 : Int32) vs (.int 0)) (E_a : Exa Z h a "java/lang/StringBuilder") (F_value : Fld Z h a "java/lang/AbstractStringBuilder" "value" "[B" (.ref vb)) (F_coder : Fld Z h a "java/lang/AbstractStringBuilder" "coder" "B" (.int (0 : Int32))) :
    Ctr l Z (⟨"java/lang/AbstractStringBuilder", "ensureCapacityInternal", "(I)V"⟩ : MethodName) jdk_68_method_9_code 3 none [] ({ frames := 0, cells := 0, slots := 0, locals := 0 } : Room) #[.ref a, .int (10 : Int32)] h n0 Ds (fun v h' Ds' => v = none ∧ h = h' ∧ Ds = Ds') := by
  refine ctr_of (Ls := #[.val (.ref a), .val (.int (10 : Int32)), .unset]) (plainFor_of_name own_pn1) (fun m => by first | (simp [entryFrame, mkF, argsToLocals, Value.category]; done) | rfl) ?_
  intro C hl hret hnm R
  subst hl
  replace R := R.aloadN (pc' := 1) (v := (.ref a)) own_d25_0 rfl rfl rfl
  replace R := R.getF (pc' := 4) (host := "") (Or.inl (own_w119 hw)) Via.refl F_value own_d25_1 rfl
  replace R := R.arraylength (pc' := 5) V_b own_d25_4 rfl
  replace R := R.aloadN (pc' := 6) (v := (.ref a)) own_d25_5 rfl rfl rfl
  replace R := R.getF (pc' := 9) (host := "") (Or.inl (own_w121 hw)) Via.refl F_coder own_d25_6 rfl
  replace R := R.ishr (pc' := 10) own_d25_9 rfl
  replace R := R.stk (S' := [(.int (16 : Int32))]) rfl
  replace R := R.istoreN (pc' := 11) (l' := #[.val (.ref a), .val (.int (10 : Int32)), .val (.int (16 : Int32))]) own_d25_10 rfl rfl
  replace R := R.iloadN (pc' := 12) (v := (10 : Int32)) own_d25_11 rfl rfl
  replace R := R.iloadN (pc' := 13) (v := (16 : Int32)) own_d25_12 rfl rfl
  replace R := R.isub (pc' := 14) own_d25_13 rfl
  replace R := R.stk (S' := [(.int (-6 : Int32))]) rfl
  replace R := R.ifY (pc' := 38) own_d25_14 (flt (by decide : ¬ ((0 : Int32) < (-6 : Int32)))).2.2.2 (by decide) rfl
  exact R.retV (Ds' := Ds) hret own_d25_38 (by decide) (by decide) (fun _ q => q) ⟨rfl, rfl, rfl⟩
set_option maxRecDepth 65536 in
set_option maxHeartbeats 4000000 in
theorem rm_gb_9_1 (l : Launch) (Z : State) (a0 : Array Value) (hw : ∀ d ∈ tables_1, d.before a0 Z = true) (s : Addr) (h : Heap) (n0 : Nat) (Ds : List Addr) (own_cs : CompactOn Z) {vb : Addr} {kb : ClassId} {vs : List Value} (hvl : vs.length = 16) (hvb : vb ∈ Ds) (V_b : Arv Z h vb kb .byte (16 : Int32) vs (.int 0)) {x0 : Int32} (S_s : IsStr Z h s [x0]) :
    Ctr l Z (⟨"java/lang/String", "getBytes", "([BIB)V"⟩ : MethodName) jdk_42_method_147_code 4 none [] ({ frames := 1, cells := 0, slots := 0, locals := 80 } : Room) #[.ref s, .ref vb, .int (9 : Int32), .int (0 : Int32)] h n0 Ds (fun v h' Ds' => v = none ∧ Keep h h' [vb] ∧ Arv Z h' vb kb .byte (16 : Int32) (vs.take 9 ++ [(.int x0.toInt8.toInt32)] ++ vs.drop 10) (.int 0) ∧ Ds = Ds') := by
  refine ctr_of (Ls := #[.val (.ref s), .val (.ref vb), .val (.int (9 : Int32)), .val (.int (0 : Int32))]) (plainFor_of_name own_pn0) (fun m => by first | (simp [entryFrame, mkF, argsToLocals, Value.category]; done) | rfl) ?_
  intro C hl hret hnm R
  subst hl
  obtain ⟨e1, e2, e3, e4, t, kt, e5, e6⟩ := S_s
  have e7 : Arv Z h t kt .byte (1 : Int32) [(.int x0.toInt8.toInt32)] (.int 0) := e6
  replace R := R.aloadN (pc' := 1) (v := (.ref s)) own_d28_0 rfl rfl rfl
  obtain ⟨_, _, _, ⟨rfl, rfl, rfl⟩, R⟩ := R.callV (pc' := 4) (y := (⟨"java/lang/String", "coder", "()B"⟩ : MethodName)) (z := (⟨"java/lang/String", "coder", "()B"⟩ : MethodName)) (argsL := []) (rest := []) (W := 0) (own_w139 hw) (own_w140 hw) (fun s' hZ' => notFace_of_selects (args := #[]) (mvT hZ' (own_w142 hw))) (own_w142 hw) (own_w141 hw) (own_w2 hw) (own_w143 hw) (by decide) e1 (rm_coder C.l Z a0 hw s h n0 Ds own_cs e2) rfl (lenOf own_pd0 rfl) rfl rfl own_d28_1 (by decide) (by decide) (by decide) (by decide) rfl
  replace R := R.mono (ce' := 0) (sl' := 0) (by decide) (by decide)
  replace R := R.stk (S' := [(.int (0 : Int32))]) rfl
  replace R := R.iloadN (pc' := 5) (v := (0 : Int32)) own_d28_4 rfl rfl
  replace R := R.icmpN (pc' := 8) own_d28_5 (teq (by decide : (0 : Int32) = (0 : Int32))).2 rfl
  replace R := R.aloadN (pc' := 9) (v := (.ref s)) own_d28_8 rfl rfl rfl
  replace R := R.getF (pc' := 12) (host := "") (Or.inl (own_w28 hw)) Via.refl e5 own_d28_9 rfl
  replace R := R.iconst (pc' := 13) (z := (0 : Int32)) own_d28_12 rfl rfl
  replace R := R.aloadN (pc' := 14) (v := (.ref vb)) own_d28_13 rfl rfl rfl
  replace R := R.iloadN (pc' := 15) (v := (9 : Int32)) own_d28_14 rfl rfl
  replace R := R.iloadN (pc' := 16) (v := (0 : Int32)) own_d28_15 rfl rfl
  replace R := R.ishl (pc' := 17) own_d28_16 rfl
  replace R := R.stk (S' := [(.int (9 : Int32)), (.ref vb), (.int (0 : Int32)), (.ref t)]) rfl
  replace R := R.aloadN (pc' := 18) (v := (.ref s)) own_d28_17 rfl rfl rfl
  replace R := R.getF (pc' := 21) (host := "") (Or.inl (own_w28 hw)) Via.refl e5 own_d28_18 rfl
  replace R := R.arraylength (pc' := 22) e7 own_d28_21 rfl
  obtain ⟨h1, K1, V1, R⟩ := R.copyB (pc' := 25) (W := 0) (nn := (1 : Int32)) (us := [(.int x0.toInt8.toInt32)]) (own_w167 hw) (own_w170 hw) (own_w168 hw) (own_w169 hw) e7 V_b rfl (by decide) (by decide) (by decide) (by decide) (by decide) rfl (by rw [hvl]; decide) hvb rfl own_d28_22 (by decide) rfl (by decide) rfl
  have V1p : Arv Z h1 vb kb .byte (16 : Int32) (vs.take 9 ++ [(.int x0.toInt8.toInt32)] ++ vs.drop 10) (.int 0) := V1
  replace R := R.goto (pc' := 43) own_d28_25 (by decide) rfl
  have hK := ((Keep.refl h [vb]).trans K1 (allS (Or.inl (List.mem_of_getElem? (i := 0) rfl)) all0))
  exact R.retV (Ds' := Ds) hret own_d28_43 (by decide) (by decide) (fun _ q => q) ⟨rfl, hK, V1p, rfl⟩
set_option maxRecDepth 65536 in
set_option maxHeartbeats 4000000 in
theorem rm_ps_9_1 (l : Launch) (Z : State) (a0 : Array Value) (hw : ∀ d ∈ tables_1, d.before a0 Z = true) (a s : Addr) (h : Heap) (n0 : Nat) (Ds : List Addr) (own_cs : CompactOn Z) {vb : Addr} {kb : ClassId} {vs : List Value} (hvl : vs.length = 16) (hvb : vb ∈ Ds) (V_b : Arv Z h vb kb .byte (16 : Int32) vs (.int 0)) (E_a : Exa Z h a "java/lang/StringBuilder") (F_value : Fld Z h a "java/lang/AbstractStringBuilder" "value" "[B" (.ref vb)) (F_coder : Fld Z h a "java/lang/AbstractStringBuilder" "coder" "B" (.int (0 : Int32))) {x0 : Int32} (S_s : IsStr Z h s [x0]) :
    Ctr l Z (⟨"java/lang/AbstractStringBuilder", "putStringAt", "(ILjava/lang/String;)V"⟩ : MethodName) jdk_68_method_73_code 3 none [] ({ frames := 2, cells := 0, slots := 0, locals := 95 } : Room) #[.ref a, .int (9 : Int32), .ref s] h n0 Ds (fun v h' Ds' => v = none ∧ Keep h h' [vb] ∧ Arv Z h' vb kb .byte (16 : Int32) (vs.take 9 ++ [(.int x0.toInt8.toInt32)] ++ vs.drop 10) (.int 0) ∧ Ds = Ds') := by
  refine ctr_of (Ls := #[.val (.ref a), .val (.int (9 : Int32)), .val (.ref s)]) (plainFor_of_name own_pn1) (fun m => by first | (simp [entryFrame, mkF, argsToLocals, Value.category]; done) | rfl) ?_
  intro C hl hret hnm R
  subst hl
  replace R := R.aloadN (pc' := 1) (v := (.ref a)) own_d26_0 rfl rfl rfl
  replace R := R.aloadN (pc' := 2) (v := (.ref s)) own_d26_1 rfl rfl rfl
  obtain ⟨_, _, _, ⟨rfl, rfl, rfl⟩, R⟩ := R.callV (pc' := 5) (y := (⟨"java/lang/AbstractStringBuilder", "inflateIfNeededFor", "(Ljava/lang/String;)V"⟩ : MethodName)) (z := (⟨"java/lang/AbstractStringBuilder", "inflateIfNeededFor", "(Ljava/lang/String;)V"⟩ : MethodName)) (argsL := [(.ref s)]) (rest := []) (W := 0) (own_w156 hw) (own_decl (own_w157 hw) (own_w160 hw)) (fun s' hZ' => notFace_of_selects (args := #[]) (mvT hZ' (own_w159 hw))) (own_w159 hw) (own_w157 hw) (own_w115 hw) (own_w160 hw) (by decide) E_a (rm_inf C.l Z a0 hw a s h n0 Ds own_cs E_a F_coder S_s) rfl (lenOf own_pd2 rfl) rfl rfl own_d26_2 (by decide) (by decide) (by decide) (by decide) rfl
  replace R := R.mono (ce' := 0) (sl' := 0) (by decide) (by decide)
  replace R := R.stk (S' := []) rfl
  replace R := R.aloadN (pc' := 6) (v := (.ref s)) own_d26_5 rfl rfl rfl
  replace R := R.aloadN (pc' := 7) (v := (.ref a)) own_d26_6 rfl rfl rfl
  replace R := R.getF (pc' := 10) (host := "") (Or.inl (own_w119 hw)) Via.refl F_value own_d26_7 rfl
  replace R := R.iloadN (pc' := 11) (v := (9 : Int32)) own_d26_10 rfl rfl
  replace R := R.aloadN (pc' := 12) (v := (.ref a)) own_d26_11 rfl rfl rfl
  replace R := R.getF (pc' := 15) (host := "") (Or.inl (own_w121 hw)) Via.refl F_coder own_d26_12 rfl
  obtain ⟨_, h1, _, ⟨rfl, K1, V1, rfl⟩, R⟩ := R.callV (pc' := 18) (y := (⟨"java/lang/String", "getBytes", "([BIB)V"⟩ : MethodName)) (z := (⟨"java/lang/String", "getBytes", "([BIB)V"⟩ : MethodName)) (argsL := [(.ref vb), (.int (9 : Int32)), (.int (0 : Int32))]) (rest := []) (W := 0) (own_w162 hw) (own_w163 hw) (fun s' hZ' => notFace_of_selects (args := #[]) (mvT hZ' (own_w165 hw))) (own_w165 hw) (own_w164 hw) (own_w2 hw) (own_w166 hw) (by decide) S_s.1 (rm_gb_9_1 C.l Z a0 hw s h n0 Ds own_cs hvl hvb V_b S_s) rfl (lenOf own_pd3 rfl) rfl rfl own_d26_15 (by decide) (by decide) (by decide) (by decide) rfl
  replace R := R.mono (ce' := 0) (sl' := 0) (by decide) (by decide)
  replace R := R.stk (S' := []) rfl
  have hK := ((Keep.refl h [vb]).trans K1 (allS (Or.inl (List.mem_of_getElem? (i := 0) rfl)) all0))
  exact R.retV (Ds' := Ds) hret own_d26_18 (by decide) (by decide) (fun _ q => q) ⟨rfl, hK, V1, rfl⟩
set_option maxRecDepth 65536 in
set_option maxHeartbeats 4000000 in
theorem rm_aa_9_1 (l : Launch) (Z : State) (a0 : Array Value) (hw : ∀ d ∈ tables_1, d.before a0 Z = true) (a s : Addr) (h : Heap) (n0 : Nat) (Ds : List Addr) (own_cs : CompactOn Z) {vb : Addr} {kb : ClassId} {vs : List Value} (hvl : vs.length = 16) (hvb : vb ∈ Ds) (V_b : Arv Z h vb kb .byte (16 : Int32) vs (.int 0)) (ha : a ∈ Ds) (nab : a ≠ vb) (E_a : Exa Z h a "java/lang/StringBuilder") (F_value : Fld Z h a "java/lang/AbstractStringBuilder" "value" "[B" (.ref vb)) (F_coder : Fld Z h a "java/lang/AbstractStringBuilder" "coder" "B" (.int (0 : Int32))) (F_count : Fld Z h a "java/lang/AbstractStringBuilder" "count" "I" (.int (9 : Int32))) {x0 : Int32} (S_s : IsStr Z h s [x0]) :
    Ctr l Z (⟨"java/lang/AbstractStringBuilder", "append", "(Ljava/lang/String;)Ljava/lang/AbstractStringBuilder;"⟩ : MethodName) jdk_68_method_22_code 3 (some (.object "java/lang/AbstractStringBuilder")) [] ({ frames := 3, cells := 0, slots := 0, locals := 109 } : Room) #[.ref a, .ref s] h n0 Ds (fun v h' Ds' => v = some (.ref a) ∧ Keep h h' [vb, a] ∧ Exa Z h' a "java/lang/StringBuilder" ∧ Fld Z h' a "java/lang/AbstractStringBuilder" "value" "[B" (.ref vb) ∧ Fld Z h' a "java/lang/AbstractStringBuilder" "coder" "B" (.int (0 : Int32)) ∧ Fld Z h' a "java/lang/AbstractStringBuilder" "count" "I" (.int (10 : Int32)) ∧ Arv Z h' vb kb .byte (16 : Int32) (vs.take 9 ++ [(.int x0.toInt8.toInt32)] ++ vs.drop 10) (.int 0) ∧ Ds = Ds') := by
  refine ctr_of (Ls := #[.val (.ref a), .val (.ref s), .unset]) (plainFor_of_name own_pn1) (fun m => by first | (simp [entryFrame, mkF, argsToLocals, Value.category]; done) | rfl) ?_
  intro C hl hret hnm R
  subst hl
  replace R := R.aloadN (pc' := 1) (v := (.ref s)) own_d22_0 rfl rfl rfl
  replace R := R.ifnonnullY (pc' := 9) own_d22_1 (by decide) rfl
  replace R := R.aloadN (pc' := 10) (v := (.ref s)) own_d22_9 rfl rfl rfl
  obtain ⟨_, _, _, ⟨rfl, rfl, rfl⟩, R⟩ := R.callV (pc' := 13) (y := (⟨"java/lang/String", "length", "()I"⟩ : MethodName)) (z := (⟨"java/lang/String", "length", "()I"⟩ : MethodName)) (argsL := []) (rest := []) (W := 0) (own_w134 hw) (own_w135 hw) (fun s' hZ' => notFace_of_selects (args := #[]) (mvT hZ' (own_w137 hw))) (own_w137 hw) (own_w136 hw) (own_w2 hw) (own_w138 hw) (by decide) S_s.1 (rm_length C.l Z a0 hw s h n0 Ds own_cs S_s) rfl (lenOf own_pd4 rfl) rfl rfl own_d22_10 (by decide) (by decide) (by decide) (by decide) rfl
  replace R := R.mono (ce' := 0) (sl' := 0) (by decide) (by decide)
  replace R := R.stk (S' := [(.int (1 : Int32))]) rfl
  replace R := R.istoreN (pc' := 14) (l' := #[.val (.ref a), .val (.ref s), .val (.int (1 : Int32))]) own_d22_13 rfl rfl
  replace R := R.aloadN (pc' := 15) (v := (.ref a)) own_d22_14 rfl rfl rfl
  replace R := R.aloadN (pc' := 16) (v := (.ref a)) own_d22_15 rfl rfl rfl
  replace R := R.getF (pc' := 19) (host := "") (Or.inl (own_w144 hw)) Via.refl F_count own_d22_16 rfl
  replace R := R.iloadN (pc' := 20) (v := (1 : Int32)) own_d22_19 rfl rfl
  replace R := R.iadd (pc' := 21) own_d22_20 rfl
  replace R := R.stk (S' := [(.int (10 : Int32)), (.ref a)]) rfl
  obtain ⟨_, _, _, ⟨rfl, rfl, rfl⟩, R⟩ := R.callV (pc' := 24) (y := (⟨"java/lang/AbstractStringBuilder", "ensureCapacityInternal", "(I)V"⟩ : MethodName)) (z := (⟨"java/lang/AbstractStringBuilder", "ensureCapacityInternal", "(I)V"⟩ : MethodName)) (argsL := [(.int (10 : Int32))]) (rest := []) (W := 0) (own_w146 hw) (own_decl (own_w147 hw) (own_w150 hw)) (fun s' hZ' => notFace_of_selects (args := #[]) (mvT hZ' (own_w149 hw))) (own_w149 hw) (own_w147 hw) (own_w115 hw) (own_w150 hw) (by decide) E_a (rm_ec10 C.l Z a0 hw a h n0 Ds hvl hvb V_b E_a F_value F_coder) rfl (lenOf own_pd1 rfl) rfl rfl own_d22_21 (by decide) (by decide) (by decide) (by decide) rfl
  replace R := R.mono (ce' := 0) (sl' := 0) (by decide) (by decide)
  replace R := R.stk (S' := []) rfl
  replace R := R.aloadN (pc' := 25) (v := (.ref a)) own_d22_24 rfl rfl rfl
  replace R := R.aloadN (pc' := 26) (v := (.ref a)) own_d22_25 rfl rfl rfl
  replace R := R.getF (pc' := 29) (host := "") (Or.inl (own_w144 hw)) Via.refl F_count own_d22_26 rfl
  replace R := R.aloadN (pc' := 30) (v := (.ref s)) own_d22_29 rfl rfl rfl
  obtain ⟨_, h1, _, ⟨rfl, K1, V1, rfl⟩, R⟩ := R.callV (pc' := 33) (y := (⟨"java/lang/AbstractStringBuilder", "putStringAt", "(ILjava/lang/String;)V"⟩ : MethodName)) (z := (⟨"java/lang/AbstractStringBuilder", "putStringAt", "(ILjava/lang/String;)V"⟩ : MethodName)) (argsL := [(.int (9 : Int32)), (.ref s)]) (rest := []) (W := 0) (own_w151 hw) (own_decl (own_w152 hw) (own_w155 hw)) (fun s' hZ' => notFace_of_selects (args := #[]) (mvT hZ' (own_w154 hw))) (own_w154 hw) (own_w152 hw) (own_w115 hw) (own_w155 hw) (by decide) E_a (rm_ps_9_1 C.l Z a0 hw a s h n0 Ds own_cs hvl hvb V_b E_a F_value F_coder S_s) rfl (lenOf own_pd5 rfl) rfl rfl own_d22_30 (by decide) (by decide) (by decide) (by decide) rfl
  replace R := R.mono (ce' := 0) (sl' := 0) (by decide) (by decide)
  replace R := R.stk (S' := []) rfl
  replace R := R.aloadN (pc' := 34) (v := (.ref a)) own_d22_33 rfl rfl rfl
  replace R := R.dup (pc' := 35) own_d22_34 rfl rfl
  have K2 := ((Keep.refl h [vb]).trans K1 (allS (Or.inl (List.mem_of_getElem? (i := 0) rfl)) all0))
  have F3 := F_count.keep K2 (ninS nab nin0)
  replace R := R.getF (pc' := 38) (host := "") (Or.inl (own_w144 hw)) Via.refl F3 own_d22_35 rfl
  replace R := R.iloadN (pc' := 39) (v := (1 : Int32)) own_d22_38 rfl rfl
  replace R := R.iadd (pc' := 40) own_d22_39 rfl
  replace R := R.stk (S' := [(.int (10 : Int32)), (.ref a)]) rfl
  have K4 := ((Keep.refl h [vb]).trans K1 (allS (Or.inl (List.mem_of_getElem? (i := 0) rfl)) all0))
  have F5 := E_a.keep K4
  have K6 := ((Keep.refl h [vb]).trans K1 (allS (Or.inl (List.mem_of_getElem? (i := 0) rfl)) all0))
  have F7 := F_value.keep K6 (ninS nab nin0)
  have K8 := ((Keep.refl h [vb]).trans K1 (allS (Or.inl (List.mem_of_getElem? (i := 0) rfl)) all0))
  have F9 := F_coder.keep K8 (ninS nab nin0)
  obtain ⟨h10, W10, R⟩ := R.putF (pc' := 43) (ty := .int) (host := "") (Or.inl (own_w144 hw)) Via.refl F3 F5 (Or.inl (own_w145 hw)) (own_w106 hw) (by decide) rfl rfl ha own_d22_40 rfl
  have F10 := F3.same W10
  have F11 := F7.other W10 (Or.inr (slot_ne (Or.inl (own_w120 hw)) (Or.inl (own_w145 hw)) (by decide) (t := (.array .byte)) (t' := .int) (by decide) (by decide)))
  have F12 := F9.other W10 (Or.inr (slot_ne (Or.inl (own_w122 hw)) (Or.inl (own_w145 hw)) (by decide) (t := .byte) (t' := .int) (by decide) (by decide)))
  replace R := R.aloadN (pc' := 44) (v := (.ref a)) own_d22_43 rfl rfl rfl
  have hK := (((Keep.refl h [vb, a]).trans K1 (allS (Or.inl (List.mem_of_getElem? (i := 0) rfl)) all0)).trans (Keep.of_wr W10) (allS (Or.inl (List.mem_of_getElem? (i := 1) rfl)) all0))
  have K13 := ((Keep.refl h1 [a]).trans (Keep.of_wr W10) (allS (Or.inl (List.mem_of_getElem? (i := 0) rfl)) all0))
  have F14 := F5.keep K13
  have K15 := ((Keep.refl h1 [a]).trans (Keep.of_wr W10) (allS (Or.inl (List.mem_of_getElem? (i := 0) rfl)) all0))
  have F16 := V1.keep K15 (ninS (Ne.symm nab) nin0)
  exact R.retA (Ds' := Ds) hret rfl rfl rfl own_d22_44 (by decide) (by decide) (fun _ q => q) ⟨rfl, hK, F14, F11, F12, F10, F16, rfl⟩
set_option maxRecDepth 65536 in
set_option maxHeartbeats 4000000 in
theorem rm_sa_9_1 (l : Launch) (Z : State) (a0 : Array Value) (hw : ∀ d ∈ tables_1, d.before a0 Z = true) (a s : Addr) (h : Heap) (n0 : Nat) (Ds : List Addr) (own_cs : CompactOn Z) {vb : Addr} {kb : ClassId} {vs : List Value} (hvl : vs.length = 16) (hvb : vb ∈ Ds) (V_b : Arv Z h vb kb .byte (16 : Int32) vs (.int 0)) (ha : a ∈ Ds) (nab : a ≠ vb) (E_a : Exa Z h a "java/lang/StringBuilder") (F_value : Fld Z h a "java/lang/AbstractStringBuilder" "value" "[B" (.ref vb)) (F_coder : Fld Z h a "java/lang/AbstractStringBuilder" "coder" "B" (.int (0 : Int32))) (F_count : Fld Z h a "java/lang/AbstractStringBuilder" "count" "I" (.int (9 : Int32))) {x0 : Int32} (S_s : IsStr Z h s [x0]) :
    Ctr l Z (⟨"java/lang/StringBuilder", "append", "(Ljava/lang/String;)Ljava/lang/StringBuilder;"⟩ : MethodName) jdk_67_method_7_code 2 (some (.object "java/lang/StringBuilder")) [] ({ frames := 4, cells := 0, slots := 0, locals := 123 } : Room) #[.ref a, .ref s] h n0 Ds (fun v h' Ds' => v = some (.ref a) ∧ Keep h h' [vb, a] ∧ Exa Z h' a "java/lang/StringBuilder" ∧ Fld Z h' a "java/lang/AbstractStringBuilder" "value" "[B" (.ref vb) ∧ Fld Z h' a "java/lang/AbstractStringBuilder" "coder" "B" (.int (0 : Int32)) ∧ Fld Z h' a "java/lang/AbstractStringBuilder" "count" "I" (.int (10 : Int32)) ∧ Arv Z h' vb kb .byte (16 : Int32) (vs.take 9 ++ [(.int x0.toInt8.toInt32)] ++ vs.drop 10) (.int 0) ∧ Ds = Ds') := by
  refine ctr_of (Ls := #[.val (.ref a), .val (.ref s)]) (plainFor_of_name own_pn2) (fun m => by first | (simp [entryFrame, mkF, argsToLocals, Value.category]; done) | rfl) ?_
  intro C hl hret hnm R
  subst hl
  replace R := R.aloadN (pc' := 1) (v := (.ref a)) own_d21_0 rfl rfl rfl
  replace R := R.aloadN (pc' := 2) (v := (.ref s)) own_d21_1 rfl rfl rfl
  obtain ⟨_, h1, _, ⟨rfl, K1, X1, F1_value, F1_coder, F1_count, V1, rfl⟩, R⟩ := R.callSup (pc' := 5) (y := (⟨"java/lang/AbstractStringBuilder", "append", "(Ljava/lang/String;)Ljava/lang/AbstractStringBuilder;"⟩ : MethodName)) (a := a) (argsL := [(.ref s)]) (rest := []) (W := 0) (by decide) (own_w129 hw) (own_same (own_w130 hw) (own_w149 hw) rfl (by decide)) (own_w131 hw) (own_w130 hw) (own_w115 hw) (own_w133 hw) E_a (rm_aa_9_1 C.l Z a0 hw a s h n0 Ds own_cs hvl hvb V_b ha nab E_a F_value F_coder F_count (x0 := x0) S_s) rfl (lenOf own_pd6 rfl) rfl rfl own_d21_2 (by decide) (by decide) (by decide) (by decide) rfl
  replace R := R.mono (ce' := 0) (sl' := 0) (by decide) (by decide)
  replace R := R.stk (S' := [(.ref a)]) rfl
  replace R := R.pop (pc' := 6) own_d21_5 rfl rfl
  replace R := R.aloadN (pc' := 7) (v := (.ref a)) own_d21_6 rfl rfl rfl
  have hK := ((Keep.refl h [vb, a]).trans K1 (allS (Or.inl (List.mem_of_getElem? (i := 0) rfl)) (allS (Or.inl (List.mem_of_getElem? (i := 1) rfl)) all0)))
  exact R.retA (Ds' := Ds) hret rfl rfl rfl own_d21_7 (by decide) (by decide) (fun _ q => q) ⟨rfl, hK, X1, F1_value, F1_coder, F1_count, V1, rfl⟩
set_option maxRecDepth 65536 in
set_option maxHeartbeats 4000000 in
theorem rm_ec12 (l : Launch) (Z : State) (a0 : Array Value) (hw : ∀ d ∈ tables_1, d.before a0 Z = true) (a : Addr) (h : Heap) (n0 : Nat) (Ds : List Addr) {vb : Addr} {kb : ClassId} {vs : List Value} (hvl : vs.length = 16) (hvb : vb ∈ Ds) (V_b : Arv Z h vb kb .byte (16 : Int32) vs (.int 0)) (E_a : Exa Z h a "java/lang/StringBuilder") (F_value : Fld Z h a "java/lang/AbstractStringBuilder" "value" "[B" (.ref vb)) (F_coder : Fld Z h a "java/lang/AbstractStringBuilder" "coder" "B" (.int (0 : Int32))) :
    Ctr l Z (⟨"java/lang/AbstractStringBuilder", "ensureCapacityInternal", "(I)V"⟩ : MethodName) jdk_68_method_9_code 3 none [] ({ frames := 0, cells := 0, slots := 0, locals := 0 } : Room) #[.ref a, .int (12 : Int32)] h n0 Ds (fun v h' Ds' => v = none ∧ h = h' ∧ Ds = Ds') := by
  refine ctr_of (Ls := #[.val (.ref a), .val (.int (12 : Int32)), .unset]) (plainFor_of_name own_pn1) (fun m => by first | (simp [entryFrame, mkF, argsToLocals, Value.category]; done) | rfl) ?_
  intro C hl hret hnm R
  subst hl
  replace R := R.aloadN (pc' := 1) (v := (.ref a)) own_d25_0 rfl rfl rfl
  replace R := R.getF (pc' := 4) (host := "") (Or.inl (own_w119 hw)) Via.refl F_value own_d25_1 rfl
  replace R := R.arraylength (pc' := 5) V_b own_d25_4 rfl
  replace R := R.aloadN (pc' := 6) (v := (.ref a)) own_d25_5 rfl rfl rfl
  replace R := R.getF (pc' := 9) (host := "") (Or.inl (own_w121 hw)) Via.refl F_coder own_d25_6 rfl
  replace R := R.ishr (pc' := 10) own_d25_9 rfl
  replace R := R.stk (S' := [(.int (16 : Int32))]) rfl
  replace R := R.istoreN (pc' := 11) (l' := #[.val (.ref a), .val (.int (12 : Int32)), .val (.int (16 : Int32))]) own_d25_10 rfl rfl
  replace R := R.iloadN (pc' := 12) (v := (12 : Int32)) own_d25_11 rfl rfl
  replace R := R.iloadN (pc' := 13) (v := (16 : Int32)) own_d25_12 rfl rfl
  replace R := R.isub (pc' := 14) own_d25_13 rfl
  replace R := R.stk (S' := [(.int (-4 : Int32))]) rfl
  replace R := R.ifY (pc' := 38) own_d25_14 (flt (by decide : ¬ ((0 : Int32) < (-4 : Int32)))).2.2.2 (by decide) rfl
  exact R.retV (Ds' := Ds) hret own_d25_38 (by decide) (by decide) (fun _ q => q) ⟨rfl, rfl, rfl⟩
set_option maxRecDepth 65536 in
set_option maxHeartbeats 4000000 in
theorem rm_gb_10_2 (l : Launch) (Z : State) (a0 : Array Value) (hw : ∀ d ∈ tables_1, d.before a0 Z = true) (s : Addr) (h : Heap) (n0 : Nat) (Ds : List Addr) (own_cs : CompactOn Z) {vb : Addr} {kb : ClassId} {vs : List Value} (hvl : vs.length = 16) (hvb : vb ∈ Ds) (V_b : Arv Z h vb kb .byte (16 : Int32) vs (.int 0)) {x0 x1 : Int32} (S_s : IsStr Z h s [x0, x1]) :
    Ctr l Z (⟨"java/lang/String", "getBytes", "([BIB)V"⟩ : MethodName) jdk_42_method_147_code 4 none [] ({ frames := 1, cells := 0, slots := 0, locals := 80 } : Room) #[.ref s, .ref vb, .int (10 : Int32), .int (0 : Int32)] h n0 Ds (fun v h' Ds' => v = none ∧ Keep h h' [vb] ∧ Arv Z h' vb kb .byte (16 : Int32) (vs.take 10 ++ [(.int x0.toInt8.toInt32), (.int x1.toInt8.toInt32)] ++ vs.drop 12) (.int 0) ∧ Ds = Ds') := by
  refine ctr_of (Ls := #[.val (.ref s), .val (.ref vb), .val (.int (10 : Int32)), .val (.int (0 : Int32))]) (plainFor_of_name own_pn0) (fun m => by first | (simp [entryFrame, mkF, argsToLocals, Value.category]; done) | rfl) ?_
  intro C hl hret hnm R
  subst hl
  obtain ⟨e1, e2, e3, e4, t, kt, e5, e6⟩ := S_s
  have e7 : Arv Z h t kt .byte (2 : Int32) [(.int x0.toInt8.toInt32), (.int x1.toInt8.toInt32)] (.int 0) := e6
  replace R := R.aloadN (pc' := 1) (v := (.ref s)) own_d28_0 rfl rfl rfl
  obtain ⟨_, _, _, ⟨rfl, rfl, rfl⟩, R⟩ := R.callV (pc' := 4) (y := (⟨"java/lang/String", "coder", "()B"⟩ : MethodName)) (z := (⟨"java/lang/String", "coder", "()B"⟩ : MethodName)) (argsL := []) (rest := []) (W := 0) (own_w139 hw) (own_w140 hw) (fun s' hZ' => notFace_of_selects (args := #[]) (mvT hZ' (own_w142 hw))) (own_w142 hw) (own_w141 hw) (own_w2 hw) (own_w143 hw) (by decide) e1 (rm_coder C.l Z a0 hw s h n0 Ds own_cs e2) rfl (lenOf own_pd0 rfl) rfl rfl own_d28_1 (by decide) (by decide) (by decide) (by decide) rfl
  replace R := R.mono (ce' := 0) (sl' := 0) (by decide) (by decide)
  replace R := R.stk (S' := [(.int (0 : Int32))]) rfl
  replace R := R.iloadN (pc' := 5) (v := (0 : Int32)) own_d28_4 rfl rfl
  replace R := R.icmpN (pc' := 8) own_d28_5 (teq (by decide : (0 : Int32) = (0 : Int32))).2 rfl
  replace R := R.aloadN (pc' := 9) (v := (.ref s)) own_d28_8 rfl rfl rfl
  replace R := R.getF (pc' := 12) (host := "") (Or.inl (own_w28 hw)) Via.refl e5 own_d28_9 rfl
  replace R := R.iconst (pc' := 13) (z := (0 : Int32)) own_d28_12 rfl rfl
  replace R := R.aloadN (pc' := 14) (v := (.ref vb)) own_d28_13 rfl rfl rfl
  replace R := R.iloadN (pc' := 15) (v := (10 : Int32)) own_d28_14 rfl rfl
  replace R := R.iloadN (pc' := 16) (v := (0 : Int32)) own_d28_15 rfl rfl
  replace R := R.ishl (pc' := 17) own_d28_16 rfl
  replace R := R.stk (S' := [(.int (10 : Int32)), (.ref vb), (.int (0 : Int32)), (.ref t)]) rfl
  replace R := R.aloadN (pc' := 18) (v := (.ref s)) own_d28_17 rfl rfl rfl
  replace R := R.getF (pc' := 21) (host := "") (Or.inl (own_w28 hw)) Via.refl e5 own_d28_18 rfl
  replace R := R.arraylength (pc' := 22) e7 own_d28_21 rfl
  obtain ⟨h1, K1, V1, R⟩ := R.copyB (pc' := 25) (W := 0) (nn := (2 : Int32)) (us := [(.int x0.toInt8.toInt32), (.int x1.toInt8.toInt32)]) (own_w167 hw) (own_w170 hw) (own_w168 hw) (own_w169 hw) e7 V_b rfl (by decide) (by decide) (by decide) (by decide) (by decide) rfl (by rw [hvl]; decide) hvb rfl own_d28_22 (by decide) rfl (by decide) rfl
  have V1p : Arv Z h1 vb kb .byte (16 : Int32) (vs.take 10 ++ [(.int x0.toInt8.toInt32), (.int x1.toInt8.toInt32)] ++ vs.drop 12) (.int 0) := V1
  replace R := R.goto (pc' := 43) own_d28_25 (by decide) rfl
  have hK := ((Keep.refl h [vb]).trans K1 (allS (Or.inl (List.mem_of_getElem? (i := 0) rfl)) all0))
  exact R.retV (Ds' := Ds) hret own_d28_43 (by decide) (by decide) (fun _ q => q) ⟨rfl, hK, V1p, rfl⟩
set_option maxRecDepth 65536 in
set_option maxHeartbeats 4000000 in
theorem rm_ps_10_2 (l : Launch) (Z : State) (a0 : Array Value) (hw : ∀ d ∈ tables_1, d.before a0 Z = true) (a s : Addr) (h : Heap) (n0 : Nat) (Ds : List Addr) (own_cs : CompactOn Z) {vb : Addr} {kb : ClassId} {vs : List Value} (hvl : vs.length = 16) (hvb : vb ∈ Ds) (V_b : Arv Z h vb kb .byte (16 : Int32) vs (.int 0)) (E_a : Exa Z h a "java/lang/StringBuilder") (F_value : Fld Z h a "java/lang/AbstractStringBuilder" "value" "[B" (.ref vb)) (F_coder : Fld Z h a "java/lang/AbstractStringBuilder" "coder" "B" (.int (0 : Int32))) {x0 x1 : Int32} (S_s : IsStr Z h s [x0, x1]) :
    Ctr l Z (⟨"java/lang/AbstractStringBuilder", "putStringAt", "(ILjava/lang/String;)V"⟩ : MethodName) jdk_68_method_73_code 3 none [] ({ frames := 2, cells := 0, slots := 0, locals := 95 } : Room) #[.ref a, .int (10 : Int32), .ref s] h n0 Ds (fun v h' Ds' => v = none ∧ Keep h h' [vb] ∧ Arv Z h' vb kb .byte (16 : Int32) (vs.take 10 ++ [(.int x0.toInt8.toInt32), (.int x1.toInt8.toInt32)] ++ vs.drop 12) (.int 0) ∧ Ds = Ds') := by
  refine ctr_of (Ls := #[.val (.ref a), .val (.int (10 : Int32)), .val (.ref s)]) (plainFor_of_name own_pn1) (fun m => by first | (simp [entryFrame, mkF, argsToLocals, Value.category]; done) | rfl) ?_
  intro C hl hret hnm R
  subst hl
  replace R := R.aloadN (pc' := 1) (v := (.ref a)) own_d26_0 rfl rfl rfl
  replace R := R.aloadN (pc' := 2) (v := (.ref s)) own_d26_1 rfl rfl rfl
  obtain ⟨_, _, _, ⟨rfl, rfl, rfl⟩, R⟩ := R.callV (pc' := 5) (y := (⟨"java/lang/AbstractStringBuilder", "inflateIfNeededFor", "(Ljava/lang/String;)V"⟩ : MethodName)) (z := (⟨"java/lang/AbstractStringBuilder", "inflateIfNeededFor", "(Ljava/lang/String;)V"⟩ : MethodName)) (argsL := [(.ref s)]) (rest := []) (W := 0) (own_w156 hw) (own_decl (own_w157 hw) (own_w160 hw)) (fun s' hZ' => notFace_of_selects (args := #[]) (mvT hZ' (own_w159 hw))) (own_w159 hw) (own_w157 hw) (own_w115 hw) (own_w160 hw) (by decide) E_a (rm_inf C.l Z a0 hw a s h n0 Ds own_cs E_a F_coder S_s) rfl (lenOf own_pd2 rfl) rfl rfl own_d26_2 (by decide) (by decide) (by decide) (by decide) rfl
  replace R := R.mono (ce' := 0) (sl' := 0) (by decide) (by decide)
  replace R := R.stk (S' := []) rfl
  replace R := R.aloadN (pc' := 6) (v := (.ref s)) own_d26_5 rfl rfl rfl
  replace R := R.aloadN (pc' := 7) (v := (.ref a)) own_d26_6 rfl rfl rfl
  replace R := R.getF (pc' := 10) (host := "") (Or.inl (own_w119 hw)) Via.refl F_value own_d26_7 rfl
  replace R := R.iloadN (pc' := 11) (v := (10 : Int32)) own_d26_10 rfl rfl
  replace R := R.aloadN (pc' := 12) (v := (.ref a)) own_d26_11 rfl rfl rfl
  replace R := R.getF (pc' := 15) (host := "") (Or.inl (own_w121 hw)) Via.refl F_coder own_d26_12 rfl
  obtain ⟨_, h1, _, ⟨rfl, K1, V1, rfl⟩, R⟩ := R.callV (pc' := 18) (y := (⟨"java/lang/String", "getBytes", "([BIB)V"⟩ : MethodName)) (z := (⟨"java/lang/String", "getBytes", "([BIB)V"⟩ : MethodName)) (argsL := [(.ref vb), (.int (10 : Int32)), (.int (0 : Int32))]) (rest := []) (W := 0) (own_w162 hw) (own_w163 hw) (fun s' hZ' => notFace_of_selects (args := #[]) (mvT hZ' (own_w165 hw))) (own_w165 hw) (own_w164 hw) (own_w2 hw) (own_w166 hw) (by decide) S_s.1 (rm_gb_10_2 C.l Z a0 hw s h n0 Ds own_cs hvl hvb V_b S_s) rfl (lenOf own_pd3 rfl) rfl rfl own_d26_15 (by decide) (by decide) (by decide) (by decide) rfl
  replace R := R.mono (ce' := 0) (sl' := 0) (by decide) (by decide)
  replace R := R.stk (S' := []) rfl
  have hK := ((Keep.refl h [vb]).trans K1 (allS (Or.inl (List.mem_of_getElem? (i := 0) rfl)) all0))
  exact R.retV (Ds' := Ds) hret own_d26_18 (by decide) (by decide) (fun _ q => q) ⟨rfl, hK, V1, rfl⟩
set_option maxRecDepth 65536 in
set_option maxHeartbeats 4000000 in
theorem rm_aa_10_2 (l : Launch) (Z : State) (a0 : Array Value) (hw : ∀ d ∈ tables_1, d.before a0 Z = true) (a s : Addr) (h : Heap) (n0 : Nat) (Ds : List Addr) (own_cs : CompactOn Z) {vb : Addr} {kb : ClassId} {vs : List Value} (hvl : vs.length = 16) (hvb : vb ∈ Ds) (V_b : Arv Z h vb kb .byte (16 : Int32) vs (.int 0)) (ha : a ∈ Ds) (nab : a ≠ vb) (E_a : Exa Z h a "java/lang/StringBuilder") (F_value : Fld Z h a "java/lang/AbstractStringBuilder" "value" "[B" (.ref vb)) (F_coder : Fld Z h a "java/lang/AbstractStringBuilder" "coder" "B" (.int (0 : Int32))) (F_count : Fld Z h a "java/lang/AbstractStringBuilder" "count" "I" (.int (10 : Int32))) {x0 x1 : Int32} (S_s : IsStr Z h s [x0, x1]) :
    Ctr l Z (⟨"java/lang/AbstractStringBuilder", "append", "(Ljava/lang/String;)Ljava/lang/AbstractStringBuilder;"⟩ : MethodName) jdk_68_method_22_code 3 (some (.object "java/lang/AbstractStringBuilder")) [] ({ frames := 3, cells := 0, slots := 0, locals := 109 } : Room) #[.ref a, .ref s] h n0 Ds (fun v h' Ds' => v = some (.ref a) ∧ Keep h h' [vb, a] ∧ Exa Z h' a "java/lang/StringBuilder" ∧ Fld Z h' a "java/lang/AbstractStringBuilder" "value" "[B" (.ref vb) ∧ Fld Z h' a "java/lang/AbstractStringBuilder" "coder" "B" (.int (0 : Int32)) ∧ Fld Z h' a "java/lang/AbstractStringBuilder" "count" "I" (.int (12 : Int32)) ∧ Arv Z h' vb kb .byte (16 : Int32) (vs.take 10 ++ [(.int x0.toInt8.toInt32), (.int x1.toInt8.toInt32)] ++ vs.drop 12) (.int 0) ∧ Ds = Ds') := by
  refine ctr_of (Ls := #[.val (.ref a), .val (.ref s), .unset]) (plainFor_of_name own_pn1) (fun m => by first | (simp [entryFrame, mkF, argsToLocals, Value.category]; done) | rfl) ?_
  intro C hl hret hnm R
  subst hl
  replace R := R.aloadN (pc' := 1) (v := (.ref s)) own_d22_0 rfl rfl rfl
  replace R := R.ifnonnullY (pc' := 9) own_d22_1 (by decide) rfl
  replace R := R.aloadN (pc' := 10) (v := (.ref s)) own_d22_9 rfl rfl rfl
  obtain ⟨_, _, _, ⟨rfl, rfl, rfl⟩, R⟩ := R.callV (pc' := 13) (y := (⟨"java/lang/String", "length", "()I"⟩ : MethodName)) (z := (⟨"java/lang/String", "length", "()I"⟩ : MethodName)) (argsL := []) (rest := []) (W := 0) (own_w134 hw) (own_w135 hw) (fun s' hZ' => notFace_of_selects (args := #[]) (mvT hZ' (own_w137 hw))) (own_w137 hw) (own_w136 hw) (own_w2 hw) (own_w138 hw) (by decide) S_s.1 (rm_length C.l Z a0 hw s h n0 Ds own_cs S_s) rfl (lenOf own_pd4 rfl) rfl rfl own_d22_10 (by decide) (by decide) (by decide) (by decide) rfl
  replace R := R.mono (ce' := 0) (sl' := 0) (by decide) (by decide)
  replace R := R.stk (S' := [(.int (2 : Int32))]) rfl
  replace R := R.istoreN (pc' := 14) (l' := #[.val (.ref a), .val (.ref s), .val (.int (2 : Int32))]) own_d22_13 rfl rfl
  replace R := R.aloadN (pc' := 15) (v := (.ref a)) own_d22_14 rfl rfl rfl
  replace R := R.aloadN (pc' := 16) (v := (.ref a)) own_d22_15 rfl rfl rfl
  replace R := R.getF (pc' := 19) (host := "") (Or.inl (own_w144 hw)) Via.refl F_count own_d22_16 rfl
  replace R := R.iloadN (pc' := 20) (v := (2 : Int32)) own_d22_19 rfl rfl
  replace R := R.iadd (pc' := 21) own_d22_20 rfl
  replace R := R.stk (S' := [(.int (12 : Int32)), (.ref a)]) rfl
  obtain ⟨_, _, _, ⟨rfl, rfl, rfl⟩, R⟩ := R.callV (pc' := 24) (y := (⟨"java/lang/AbstractStringBuilder", "ensureCapacityInternal", "(I)V"⟩ : MethodName)) (z := (⟨"java/lang/AbstractStringBuilder", "ensureCapacityInternal", "(I)V"⟩ : MethodName)) (argsL := [(.int (12 : Int32))]) (rest := []) (W := 0) (own_w146 hw) (own_decl (own_w147 hw) (own_w150 hw)) (fun s' hZ' => notFace_of_selects (args := #[]) (mvT hZ' (own_w149 hw))) (own_w149 hw) (own_w147 hw) (own_w115 hw) (own_w150 hw) (by decide) E_a (rm_ec12 C.l Z a0 hw a h n0 Ds hvl hvb V_b E_a F_value F_coder) rfl (lenOf own_pd1 rfl) rfl rfl own_d22_21 (by decide) (by decide) (by decide) (by decide) rfl
  replace R := R.mono (ce' := 0) (sl' := 0) (by decide) (by decide)
  replace R := R.stk (S' := []) rfl
  replace R := R.aloadN (pc' := 25) (v := (.ref a)) own_d22_24 rfl rfl rfl
  replace R := R.aloadN (pc' := 26) (v := (.ref a)) own_d22_25 rfl rfl rfl
  replace R := R.getF (pc' := 29) (host := "") (Or.inl (own_w144 hw)) Via.refl F_count own_d22_26 rfl
  replace R := R.aloadN (pc' := 30) (v := (.ref s)) own_d22_29 rfl rfl rfl
  obtain ⟨_, h1, _, ⟨rfl, K1, V1, rfl⟩, R⟩ := R.callV (pc' := 33) (y := (⟨"java/lang/AbstractStringBuilder", "putStringAt", "(ILjava/lang/String;)V"⟩ : MethodName)) (z := (⟨"java/lang/AbstractStringBuilder", "putStringAt", "(ILjava/lang/String;)V"⟩ : MethodName)) (argsL := [(.int (10 : Int32)), (.ref s)]) (rest := []) (W := 0) (own_w151 hw) (own_decl (own_w152 hw) (own_w155 hw)) (fun s' hZ' => notFace_of_selects (args := #[]) (mvT hZ' (own_w154 hw))) (own_w154 hw) (own_w152 hw) (own_w115 hw) (own_w155 hw) (by decide) E_a (rm_ps_10_2 C.l Z a0 hw a s h n0 Ds own_cs hvl hvb V_b E_a F_value F_coder S_s) rfl (lenOf own_pd5 rfl) rfl rfl own_d22_30 (by decide) (by decide) (by decide) (by decide) rfl
  replace R := R.mono (ce' := 0) (sl' := 0) (by decide) (by decide)
  replace R := R.stk (S' := []) rfl
  replace R := R.aloadN (pc' := 34) (v := (.ref a)) own_d22_33 rfl rfl rfl
  replace R := R.dup (pc' := 35) own_d22_34 rfl rfl
  have K2 := ((Keep.refl h [vb]).trans K1 (allS (Or.inl (List.mem_of_getElem? (i := 0) rfl)) all0))
  have F3 := F_count.keep K2 (ninS nab nin0)
  replace R := R.getF (pc' := 38) (host := "") (Or.inl (own_w144 hw)) Via.refl F3 own_d22_35 rfl
  replace R := R.iloadN (pc' := 39) (v := (2 : Int32)) own_d22_38 rfl rfl
  replace R := R.iadd (pc' := 40) own_d22_39 rfl
  replace R := R.stk (S' := [(.int (12 : Int32)), (.ref a)]) rfl
  have K4 := ((Keep.refl h [vb]).trans K1 (allS (Or.inl (List.mem_of_getElem? (i := 0) rfl)) all0))
  have F5 := E_a.keep K4
  have K6 := ((Keep.refl h [vb]).trans K1 (allS (Or.inl (List.mem_of_getElem? (i := 0) rfl)) all0))
  have F7 := F_value.keep K6 (ninS nab nin0)
  have K8 := ((Keep.refl h [vb]).trans K1 (allS (Or.inl (List.mem_of_getElem? (i := 0) rfl)) all0))
  have F9 := F_coder.keep K8 (ninS nab nin0)
  obtain ⟨h10, W10, R⟩ := R.putF (pc' := 43) (ty := .int) (host := "") (Or.inl (own_w144 hw)) Via.refl F3 F5 (Or.inl (own_w145 hw)) (own_w106 hw) (by decide) rfl rfl ha own_d22_40 rfl
  have F10 := F3.same W10
  have F11 := F7.other W10 (Or.inr (slot_ne (Or.inl (own_w120 hw)) (Or.inl (own_w145 hw)) (by decide) (t := (.array .byte)) (t' := .int) (by decide) (by decide)))
  have F12 := F9.other W10 (Or.inr (slot_ne (Or.inl (own_w122 hw)) (Or.inl (own_w145 hw)) (by decide) (t := .byte) (t' := .int) (by decide) (by decide)))
  replace R := R.aloadN (pc' := 44) (v := (.ref a)) own_d22_43 rfl rfl rfl
  have hK := (((Keep.refl h [vb, a]).trans K1 (allS (Or.inl (List.mem_of_getElem? (i := 0) rfl)) all0)).trans (Keep.of_wr W10) (allS (Or.inl (List.mem_of_getElem? (i := 1) rfl)) all0))
  have K13 := ((Keep.refl h1 [a]).trans (Keep.of_wr W10) (allS (Or.inl (List.mem_of_getElem? (i := 0) rfl)) all0))
  have F14 := F5.keep K13
  have K15 := ((Keep.refl h1 [a]).trans (Keep.of_wr W10) (allS (Or.inl (List.mem_of_getElem? (i := 0) rfl)) all0))
  have F16 := V1.keep K15 (ninS (Ne.symm nab) nin0)
  exact R.retA (Ds' := Ds) hret rfl rfl rfl own_d22_44 (by decide) (by decide) (fun _ q => q) ⟨rfl, hK, F14, F11, F12, F10, F16, rfl⟩
set_option maxRecDepth 65536 in
set_option maxHeartbeats 4000000 in
theorem rm_sa_10_2 (l : Launch) (Z : State) (a0 : Array Value) (hw : ∀ d ∈ tables_1, d.before a0 Z = true) (a s : Addr) (h : Heap) (n0 : Nat) (Ds : List Addr) (own_cs : CompactOn Z) {vb : Addr} {kb : ClassId} {vs : List Value} (hvl : vs.length = 16) (hvb : vb ∈ Ds) (V_b : Arv Z h vb kb .byte (16 : Int32) vs (.int 0)) (ha : a ∈ Ds) (nab : a ≠ vb) (E_a : Exa Z h a "java/lang/StringBuilder") (F_value : Fld Z h a "java/lang/AbstractStringBuilder" "value" "[B" (.ref vb)) (F_coder : Fld Z h a "java/lang/AbstractStringBuilder" "coder" "B" (.int (0 : Int32))) (F_count : Fld Z h a "java/lang/AbstractStringBuilder" "count" "I" (.int (10 : Int32))) {x0 x1 : Int32} (S_s : IsStr Z h s [x0, x1]) :
    Ctr l Z (⟨"java/lang/StringBuilder", "append", "(Ljava/lang/String;)Ljava/lang/StringBuilder;"⟩ : MethodName) jdk_67_method_7_code 2 (some (.object "java/lang/StringBuilder")) [] ({ frames := 4, cells := 0, slots := 0, locals := 123 } : Room) #[.ref a, .ref s] h n0 Ds (fun v h' Ds' => v = some (.ref a) ∧ Keep h h' [vb, a] ∧ Exa Z h' a "java/lang/StringBuilder" ∧ Fld Z h' a "java/lang/AbstractStringBuilder" "value" "[B" (.ref vb) ∧ Fld Z h' a "java/lang/AbstractStringBuilder" "coder" "B" (.int (0 : Int32)) ∧ Fld Z h' a "java/lang/AbstractStringBuilder" "count" "I" (.int (12 : Int32)) ∧ Arv Z h' vb kb .byte (16 : Int32) (vs.take 10 ++ [(.int x0.toInt8.toInt32), (.int x1.toInt8.toInt32)] ++ vs.drop 12) (.int 0) ∧ Ds = Ds') := by
  refine ctr_of (Ls := #[.val (.ref a), .val (.ref s)]) (plainFor_of_name own_pn2) (fun m => by first | (simp [entryFrame, mkF, argsToLocals, Value.category]; done) | rfl) ?_
  intro C hl hret hnm R
  subst hl
  replace R := R.aloadN (pc' := 1) (v := (.ref a)) own_d21_0 rfl rfl rfl
  replace R := R.aloadN (pc' := 2) (v := (.ref s)) own_d21_1 rfl rfl rfl
  obtain ⟨_, h1, _, ⟨rfl, K1, X1, F1_value, F1_coder, F1_count, V1, rfl⟩, R⟩ := R.callSup (pc' := 5) (y := (⟨"java/lang/AbstractStringBuilder", "append", "(Ljava/lang/String;)Ljava/lang/AbstractStringBuilder;"⟩ : MethodName)) (a := a) (argsL := [(.ref s)]) (rest := []) (W := 0) (by decide) (own_w129 hw) (own_same (own_w130 hw) (own_w149 hw) rfl (by decide)) (own_w131 hw) (own_w130 hw) (own_w115 hw) (own_w133 hw) E_a (rm_aa_10_2 C.l Z a0 hw a s h n0 Ds own_cs hvl hvb V_b ha nab E_a F_value F_coder F_count (x0 := x0) (x1 := x1) S_s) rfl (lenOf own_pd6 rfl) rfl rfl own_d21_2 (by decide) (by decide) (by decide) (by decide) rfl
  replace R := R.mono (ce' := 0) (sl' := 0) (by decide) (by decide)
  replace R := R.stk (S' := [(.ref a)]) rfl
  replace R := R.pop (pc' := 6) own_d21_5 rfl rfl
  replace R := R.aloadN (pc' := 7) (v := (.ref a)) own_d21_6 rfl rfl rfl
  have hK := ((Keep.refl h [vb, a]).trans K1 (allS (Or.inl (List.mem_of_getElem? (i := 0) rfl)) (allS (Or.inl (List.mem_of_getElem? (i := 1) rfl)) all0)))
  exact R.retA (Ds' := Ds) hret rfl rfl rfl own_d21_7 (by decide) (by decide) (fun _ q => q) ⟨rfl, hK, X1, F1_value, F1_coder, F1_count, V1, rfl⟩
set_option maxRecDepth 65536 in
set_option maxHeartbeats 4000000 in
theorem rm_min (l : Launch) (Z : State) (a0 : Array Value) (hw : ∀ d ∈ tables_1, d.before a0 Z = true) (h : Heap) (n0 : Nat) (Ds : List Addr) :
    Ctr l Z (⟨"java/lang/Math", "min", "(II)I"⟩ : MethodName) jdk_29_method_69_code 2 (some .int) [] ({ frames := 0, cells := 0, slots := 0, locals := 0 } : Room) #[.int (16 : Int32), .int (12 : Int32)] h n0 Ds (fun v h' Ds' => v = some (.int (12 : Int32)) ∧ h = h' ∧ Ds = Ds') := by
  refine ctr_of (Ls := #[.val (.int (16 : Int32)), .val (.int (12 : Int32))]) (Jvm.Free.JP.mathPlain rfl (by decide +kernel)) (fun m => by first | (simp [entryFrame, mkF, argsToLocals, Value.category]; done) | rfl) ?_
  intro C hl hret hnm R
  subst hl
  replace R := R.iloadN (pc' := 1) (v := (16 : Int32)) own_d39_0 rfl rfl
  replace R := R.iloadN (pc' := 2) (v := (12 : Int32)) own_d39_1 rfl rfl
  replace R := R.icmpY (pc' := 9) own_d39_2 (tlt (by decide : (12 : Int32) < (16 : Int32))).2.2.1 (by decide) rfl
  replace R := R.iloadN (pc' := 10) (v := (12 : Int32)) own_d39_9 rfl rfl
  exact R.retI (Ds' := Ds) hret own_d39_10 (by decide) (by decide) (fun _ q => q) ⟨rfl, rfl, rfl⟩
set_option maxRecDepth 65536 in
set_option maxHeartbeats 4000000 in
theorem rm_chl (l : Launch) (Z : State) (a0 : Array Value) (hw : ∀ d ∈ tables_1, d.before a0 Z = true) (h : Heap) (n0 : Nat) (Ds : List Addr) :
    Ctr l Z (⟨"java/util/Arrays", "checkLength", "(II)V"⟩ : MethodName) jdk_65_method_131_code 2 none [] ({ frames := 0, cells := 0, slots := 0, locals := 0 } : Room) #[.int (0 : Int32), .int (12 : Int32)] h n0 Ds (fun v h' Ds' => v = none ∧ h = h' ∧ Ds = Ds') := by
  refine ctr_of (Ls := #[.val (.int (0 : Int32)), .val (.int (12 : Int32))]) (plainFor_of_name own_pn3) (fun m => by first | (simp [entryFrame, mkF, argsToLocals, Value.category]; done) | rfl) ?_
  intro C hl hret hnm R
  subst hl
  replace R := R.iloadN (pc' := 1) (v := (12 : Int32)) own_d38_0 rfl rfl
  replace R := R.iloadN (pc' := 2) (v := (0 : Int32)) own_d38_1 rfl rfl
  replace R := R.icmpY (pc' := 37) own_d38_2 (flt (by decide : ¬ ((12 : Int32) < (0 : Int32)))).2.1 (by decide) rfl
  exact R.retV (Ds' := Ds) hret own_d38_37 (by decide) (by decide) (fun _ q => q) ⟨rfl, rfl, rfl⟩
set_option maxRecDepth 65536 in
set_option maxHeartbeats 4000000 in
theorem rm_crb (l : Launch) (Z : State) (a0 : Array Value) (hw : ∀ d ∈ tables_1, d.before a0 Z = true) (h : Heap) (n0 : Nat) (Ds : List Addr) {x0 x1 x2 x3 x4 x5 x6 x7 x8 x9 x10 x11 : Int32} {u12 u13 u14 u15 : Value} {vb : Addr} {kb : ClassId} (V_b : Arv Z h vb kb .byte (16 : Int32) [(.int x0.toInt8.toInt32), (.int x1.toInt8.toInt32), (.int x2.toInt8.toInt32), (.int x3.toInt8.toInt32), (.int x4.toInt8.toInt32), (.int x5.toInt8.toInt32), (.int x6.toInt8.toInt32), (.int x7.toInt8.toInt32), (.int x8.toInt8.toInt32), (.int x9.toInt8.toInt32), (.int x10.toInt8.toInt32), (.int x11.toInt8.toInt32), u12, u13, u14, u15] (.int 0)) :
    Ctr l Z (⟨"java/util/Arrays", "copyOfRangeByte", "([BII)[B"⟩ : MethodName) jdk_65_method_133_code 5 (some (.array .byte)) [] ({ frames := 1, cells := 1, slots := 12, locals := 80 } : Room) #[.ref vb, .int (0 : Int32), .int (12 : Int32)] h n0 Ds (fun v h' Ds' => ∃ (r : Addr) (kr : ClassId), v = some (.ref r) ∧ Keep h h' [] ∧ Arv Z h' r kr .byte (12 : Int32) [(.int x0.toInt8.toInt32), (.int x1.toInt8.toInt32), (.int x2.toInt8.toInt32), (.int x3.toInt8.toInt32), (.int x4.toInt8.toInt32), (.int x5.toInt8.toInt32), (.int x6.toInt8.toInt32), (.int x7.toInt8.toInt32), (.int x8.toInt8.toInt32), (.int x9.toInt8.toInt32), (.int x10.toInt8.toInt32), (.int x11.toInt8.toInt32)] (.int 0) ∧ Ds = Ds') := by
  refine ctr_of (Ls := #[.val (.ref vb), .val (.int (0 : Int32)), .val (.int (12 : Int32)), .unset, .unset]) (plainFor_of_name own_pn3) (fun m => by first | (simp [entryFrame, mkF, argsToLocals, Value.category]; done) | rfl) ?_
  intro C hl hret hnm R
  subst hl
  have hvl : vb < h.size := V_b.lt
  replace R := R.iloadN (pc' := 1) (v := (0 : Int32)) own_d37_0 rfl rfl
  replace R := R.iloadN (pc' := 2) (v := (12 : Int32)) own_d37_1 rfl rfl
  obtain ⟨_, _, _, ⟨rfl, rfl, rfl⟩, R⟩ := R.callS (pc' := 5) (argsL := [(.int (0 : Int32)), (.int (12 : Int32))]) (rest := []) (W := 0) (own_w209 hw) (own_w210 hw) (own_w204 hw) (own_w211 hw) (by decide) (rm_chl C.l Z a0 hw h n0 Ds) rfl (lenOf own_pd7 rfl) rfl rfl own_d37_2 (by decide) (by decide) (by decide) (by decide) rfl
  replace R := R.mono (ce' := 0) (sl' := 0) (by decide) (by decide)
  replace R := R.stk (S' := []) rfl
  replace R := R.iloadN (pc' := 6) (v := (12 : Int32)) own_d37_5 rfl rfl
  replace R := R.iloadN (pc' := 7) (v := (0 : Int32)) own_d37_6 rfl rfl
  replace R := R.isub (pc' := 8) own_d37_7 rfl
  replace R := R.stk (S' := [(.int (12 : Int32))]) rfl
  replace R := R.istoreN (pc' := 9) (l' := #[.val (.ref vb), .val (.int (0 : Int32)), .val (.int (12 : Int32)), .val (.int (12 : Int32)), .unset]) own_d37_8 rfl rfl
  replace R := R.iloadN (pc' := 10) (v := (12 : Int32)) own_d37_9 rfl rfl
  obtain ⟨h1, b1, k1, g1, E1, V1, R⟩ := R.newP (pc' := 12) (aty := .byte) (cap := 12) (own_w19 hw) own_d37_10 (by decide) (by decide) (by decide) (by decide) (by decide) rfl
  have V1p : Arv Z h1 b1 k1 .byte (12 : Int32) [(.int (0 : Int32)), (.int (0 : Int32)), (.int (0 : Int32)), (.int (0 : Int32)), (.int (0 : Int32)), (.int (0 : Int32)), (.int (0 : Int32)), (.int (0 : Int32)), (.int (0 : Int32)), (.int (0 : Int32)), (.int (0 : Int32)), (.int (0 : Int32))] (.int (0 : Int32)) := V1.pad (pad_rep [] (.int (0 : Int32)) 12)
  replace R := R.astore (pc' := 14) (l' := #[.val (.ref vb), .val (.int (0 : Int32)), .val (.int (12 : Int32)), .val (.int (12 : Int32)), .val (.ref b1)]) own_d37_12 rfl rfl rfl
  replace R := R.aloadN (pc' := 15) (v := (.ref vb)) own_d37_14 rfl rfl rfl
  replace R := R.iloadN (pc' := 16) (v := (0 : Int32)) own_d37_15 rfl rfl
  replace R := R.aload (pc' := 18) (v := (.ref b1)) own_d37_16 rfl rfl rfl
  replace R := R.iconst (pc' := 19) (z := (0 : Int32)) own_d37_18 rfl rfl
  replace R := R.aloadN (pc' := 20) (v := (.ref vb)) own_d37_19 rfl rfl rfl
  have K2 := ((Keep.refl h []).trans ((Keep.refl h []).ext E1) all0)
  have F3 := V_b.keep K2 nin0
  replace R := R.arraylength (pc' := 21) F3 own_d37_20 rfl
  replace R := R.iloadN (pc' := 22) (v := (0 : Int32)) own_d37_21 rfl rfl
  replace R := R.isub (pc' := 23) own_d37_22 rfl
  replace R := R.stk (S' := [(.int (16 : Int32)), (.int (0 : Int32)), (.ref b1), (.int (0 : Int32)), (.ref vb)]) rfl
  replace R := R.iloadN (pc' := 24) (v := (12 : Int32)) own_d37_23 rfl rfl
  obtain ⟨_, _, _, ⟨rfl, rfl, rfl⟩, R⟩ := R.callS (pc' := 27) (argsL := [(.int (16 : Int32)), (.int (12 : Int32))]) (rest := [(.int (0 : Int32)), (.ref b1), (.int (0 : Int32)), (.ref vb)]) (W := 4) (own_w212 hw) (own_w213 hw) (own_w214 hw) (own_w215 hw) (by decide) (rm_min C.l Z a0 hw h1 n0 (b1 :: Ds)) rfl (lenOf own_pd8 rfl) rfl rfl own_d37_24 (by decide) (by decide) (by decide) (by decide) rfl
  replace R := R.mono (ce' := 1) (sl' := 12) (by decide) (by decide)
  replace R := R.stk (S' := [(.int (12 : Int32)), (.int (0 : Int32)), (.ref b1), (.int (0 : Int32)), (.ref vb)]) rfl
  have nvb : vb ≠ b1 := fun e => by rw [e, g1] at hvl; exact Nat.lt_irrefl _ hvl
  obtain ⟨h4, K4, V4, R⟩ := R.copyB (pc' := 30) (W := 0) (nn := (12 : Int32)) (us := [(.int x0.toInt8.toInt32), (.int x1.toInt8.toInt32), (.int x2.toInt8.toInt32), (.int x3.toInt8.toInt32), (.int x4.toInt8.toInt32), (.int x5.toInt8.toInt32), (.int x6.toInt8.toInt32), (.int x7.toInt8.toInt32), (.int x8.toInt8.toInt32), (.int x9.toInt8.toInt32), (.int x10.toInt8.toInt32), (.int x11.toInt8.toInt32)]) (own_w216 hw) (own_w170 hw) (own_w168 hw) (own_w169 hw) F3 V1p rfl (by decide) (by decide) (by decide) (by decide) (by decide) rfl (Nat.le_of_ble_eq_true rfl) (List.mem_of_getElem? (i := 0) rfl) rfl own_d37_27 (by decide) rfl (by decide) rfl
  have V4p : Arv Z h4 b1 k1 .byte (12 : Int32) [(.int x0.toInt8.toInt32), (.int x1.toInt8.toInt32), (.int x2.toInt8.toInt32), (.int x3.toInt8.toInt32), (.int x4.toInt8.toInt32), (.int x5.toInt8.toInt32), (.int x6.toInt8.toInt32), (.int x7.toInt8.toInt32), (.int x8.toInt8.toInt32), (.int x9.toInt8.toInt32), (.int x10.toInt8.toInt32), (.int x11.toInt8.toInt32)] (.int (0 : Int32)) := V4
  replace R := R.aload (pc' := 32) (v := (.ref b1)) own_d37_30 rfl rfl rfl
  have hK := (((Keep.refl h []).trans ((Keep.refl h []).ext E1) all0).trans K4 (allS (Or.inr (by rw [g1]; exact (Nat.le_refl _))) all0))
  exact R.retA (Ds' := Ds) hret rfl rfl rfl own_d37_32 (by decide) (by decide) (fun _ q => (fun q => (List.mem_cons_of_mem _ q)) q) ⟨b1, _, rfl, hK, V4p, rfl⟩
set_option maxRecDepth 65536 in
set_option maxHeartbeats 4000000 in
theorem rm_cr (l : Launch) (Z : State) (a0 : Array Value) (hw : ∀ d ∈ tables_1, d.before a0 Z = true) (h : Heap) (n0 : Nat) (Ds : List Addr) {x0 x1 x2 x3 x4 x5 x6 x7 x8 x9 x10 x11 : Int32} {u12 u13 u14 u15 : Value} {vb : Addr} {kb : ClassId} (V_b : Arv Z h vb kb .byte (16 : Int32) [(.int x0.toInt8.toInt32), (.int x1.toInt8.toInt32), (.int x2.toInt8.toInt32), (.int x3.toInt8.toInt32), (.int x4.toInt8.toInt32), (.int x5.toInt8.toInt32), (.int x6.toInt8.toInt32), (.int x7.toInt8.toInt32), (.int x8.toInt8.toInt32), (.int x9.toInt8.toInt32), (.int x10.toInt8.toInt32), (.int x11.toInt8.toInt32), u12, u13, u14, u15] (.int 0)) :
    Ctr l Z (⟨"java/util/Arrays", "copyOfRange", "([BII)[B"⟩ : MethodName) jdk_65_method_132_code 3 (some (.array .byte)) [] ({ frames := 2, cells := 1, slots := 12, locals := 96 } : Room) #[.ref vb, .int (0 : Int32), .int (12 : Int32)] h n0 Ds (fun v h' Ds' => ∃ (r : Addr) (kr : ClassId), v = some (.ref r) ∧ Keep h h' [] ∧ Arv Z h' r kr .byte (12 : Int32) [(.int x0.toInt8.toInt32), (.int x1.toInt8.toInt32), (.int x2.toInt8.toInt32), (.int x3.toInt8.toInt32), (.int x4.toInt8.toInt32), (.int x5.toInt8.toInt32), (.int x6.toInt8.toInt32), (.int x7.toInt8.toInt32), (.int x8.toInt8.toInt32), (.int x9.toInt8.toInt32), (.int x10.toInt8.toInt32), (.int x11.toInt8.toInt32)] (.int 0) ∧ Ds = Ds') := by
  refine ctr_of (Ls := #[.val (.ref vb), .val (.int (0 : Int32)), .val (.int (12 : Int32))]) (plainFor_of_name own_pn3) (fun m => by first | (simp [entryFrame, mkF, argsToLocals, Value.category]; done) | rfl) ?_
  intro C hl hret hnm R
  subst hl
  have hvl : vb < h.size := V_b.lt
  replace R := R.iloadN (pc' := 1) (v := (0 : Int32)) own_d36_0 rfl rfl
  replace R := R.ifN (pc' := 4) own_d36_1 (teq (by decide : (0 : Int32) = (0 : Int32))).2 rfl
  replace R := R.iloadN (pc' := 5) (v := (12 : Int32)) own_d36_4 rfl rfl
  replace R := R.aloadN (pc' := 6) (v := (.ref vb)) own_d36_5 rfl rfl rfl
  replace R := R.arraylength (pc' := 7) V_b own_d36_6 rfl
  replace R := R.icmpN (pc' := 10) own_d36_7 (feq (by decide : ¬ ((12 : Int32) = (16 : Int32)))).1 rfl
  replace R := R.aloadN (pc' := 11) (v := (.ref vb)) own_d36_10 rfl rfl rfl
  replace R := R.iloadN (pc' := 12) (v := (0 : Int32)) own_d36_11 rfl rfl
  replace R := R.iloadN (pc' := 13) (v := (12 : Int32)) own_d36_12 rfl rfl
  obtain ⟨_, h1, _, ⟨r1, k1, rfl, K1, V1, rfl⟩, R⟩ := R.callS (pc' := 16) (argsL := [(.ref vb), (.int (0 : Int32)), (.int (12 : Int32))]) (rest := []) (W := 0) (own_w206 hw) (own_w207 hw) (own_w204 hw) (own_w208 hw) (by decide) (rm_crb C.l Z a0 hw h n0 Ds V_b) rfl (lenOf own_pd9 rfl) rfl rfl own_d36_13 (by decide) (by decide) (by decide) (by decide) rfl
  replace R := R.mono (ce' := 1) (sl' := 12) (by decide) (by decide)
  replace R := R.stk (S' := [(.ref r1)]) rfl
  have hK := ((Keep.refl h []).trans K1 all0)
  exact R.retA (Ds' := Ds) hret rfl rfl rfl own_d36_16 (by decide) (by decide) (fun _ q => q) ⟨r1, _, rfl, hK, V1, rfl⟩
set_option maxRecDepth 65536 in
set_option maxHeartbeats 4000000 in
theorem rm_gv (l : Launch) (Z : State) (a0 : Array Value) (hw : ∀ d ∈ tables_1, d.before a0 Z = true) (s : Addr) (h : Heap) (n0 : Nat) (Ds : List Addr) (own_cs : CompactOn Z) {vb : Addr} (E_s : Exa Z h s "java/lang/StringBuilder") (F_value : Fld Z h s "java/lang/AbstractStringBuilder" "value" "[B" (.ref vb)) (F_coder : Fld Z h s "java/lang/AbstractStringBuilder" "coder" "B" (.int (0 : Int32))) (F_count : Fld Z h s "java/lang/AbstractStringBuilder" "count" "I" (.int (12 : Int32))) :
    Ctr l Z (⟨"java/lang/AbstractStringBuilder", "getValue", "()[B"⟩ : MethodName) jdk_68_method_64_code 1 (some (.array .byte)) [] ({ frames := 0, cells := 0, slots := 0, locals := 0 } : Room) #[.ref s] h n0 Ds (fun v h' Ds' => v = some (.ref vb) ∧ h = h' ∧ Ds = Ds') := by
  refine ctr_of (Ls := #[.val (.ref s)]) (plainFor_of_name own_pn1) (fun m => by first | (simp [entryFrame, mkF, argsToLocals, Value.category]; done) | rfl) ?_
  intro C hl hret hnm R
  subst hl
  replace R := R.aloadN (pc' := 1) (v := (.ref s)) own_d32_0 rfl rfl rfl
  replace R := R.getF (pc' := 4) (host := "") (Or.inl (own_w119 hw)) Via.refl F_value own_d32_1 rfl
  exact R.retA (Ds' := Ds) hret rfl rfl rfl own_d32_4 (by decide) (by decide) (fun _ q => q) ⟨rfl, rfl, rfl⟩
set_option maxRecDepth 65536 in
set_option maxHeartbeats 4000000 in
theorem rm_al (l : Launch) (Z : State) (a0 : Array Value) (hw : ∀ d ∈ tables_1, d.before a0 Z = true) (s : Addr) (h : Heap) (n0 : Nat) (Ds : List Addr) (own_cs : CompactOn Z) {vb : Addr} (E_s : Exa Z h s "java/lang/StringBuilder") (F_value : Fld Z h s "java/lang/AbstractStringBuilder" "value" "[B" (.ref vb)) (F_coder : Fld Z h s "java/lang/AbstractStringBuilder" "coder" "B" (.int (0 : Int32))) (F_count : Fld Z h s "java/lang/AbstractStringBuilder" "count" "I" (.int (12 : Int32))) :
    Ctr l Z (⟨"java/lang/AbstractStringBuilder", "length", "()I"⟩ : MethodName) jdk_68_method_6_code 1 (some .int) [] ({ frames := 0, cells := 0, slots := 0, locals := 0 } : Room) #[.ref s] h n0 Ds (fun v h' Ds' => v = some (.int (12 : Int32)) ∧ h = h' ∧ Ds = Ds') := by
  refine ctr_of (Ls := #[.val (.ref s)]) (plainFor_of_name own_pn1) (fun m => by first | (simp [entryFrame, mkF, argsToLocals, Value.category]; done) | rfl) ?_
  intro C hl hret hnm R
  subst hl
  replace R := R.aloadN (pc' := 1) (v := (.ref s)) own_d34_0 rfl rfl rfl
  replace R := R.getF (pc' := 4) (host := "") (Or.inl (own_w144 hw)) Via.refl F_count own_d34_1 rfl
  exact R.retI (Ds' := Ds) hret own_d34_4 (by decide) (by decide) (fun _ q => q) ⟨rfl, rfl, rfl⟩
set_option maxRecDepth 65536 in
set_option maxHeartbeats 4000000 in
theorem rm_sl (l : Launch) (Z : State) (a0 : Array Value) (hw : ∀ d ∈ tables_1, d.before a0 Z = true) (s : Addr) (h : Heap) (n0 : Nat) (Ds : List Addr) (own_cs : CompactOn Z) {vb : Addr} (E_s : Exa Z h s "java/lang/StringBuilder") (F_value : Fld Z h s "java/lang/AbstractStringBuilder" "value" "[B" (.ref vb)) (F_coder : Fld Z h s "java/lang/AbstractStringBuilder" "coder" "B" (.int (0 : Int32))) (F_count : Fld Z h s "java/lang/AbstractStringBuilder" "count" "I" (.int (12 : Int32))) :
    Ctr l Z (⟨"java/lang/StringBuilder", "length", "()I"⟩ : MethodName) jdk_67_method_93_code 1 (some .int) [] ({ frames := 1, cells := 0, slots := 0, locals := 12 } : Room) #[.ref s] h n0 Ds (fun v h' Ds' => v = some (.int (12 : Int32)) ∧ h = h' ∧ Ds = Ds') := by
  refine ctr_of (Ls := #[.val (.ref s)]) (plainFor_of_name own_pn2) (fun m => by first | (simp [entryFrame, mkF, argsToLocals, Value.category]; done) | rfl) ?_
  intro C hl hret hnm R
  subst hl
  replace R := R.aloadN (pc' := 1) (v := (.ref s)) own_d33_0 rfl rfl rfl
  obtain ⟨_, _, _, ⟨rfl, rfl, rfl⟩, R⟩ := R.callSup (pc' := 4) (y := (⟨"java/lang/AbstractStringBuilder", "length", "()I"⟩ : MethodName)) (a := s) (argsL := []) (rest := []) (W := 0) (by decide) (own_w195 hw) (own_same (own_w191 hw) (own_w149 hw) rfl (by decide)) (own_w131 hw) (own_w191 hw) (own_w115 hw) (own_w196 hw) E_s (rm_al C.l Z a0 hw s h n0 Ds own_cs E_s F_value F_coder F_count) rfl (lenOf own_pd4 rfl) rfl rfl own_d33_1 (by decide) (by decide) (by decide) (by decide) rfl
  replace R := R.mono (ce' := 0) (sl' := 0) (by decide) (by decide)
  replace R := R.stk (S' := [(.int (12 : Int32))]) rfl
  exact R.retI (Ds' := Ds) hret own_d33_4 (by decide) (by decide) (fun _ q => q) ⟨rfl, rfl, rfl⟩
set_option maxRecDepth 65536 in
set_option maxHeartbeats 4000000 in
theorem rm_il (l : Launch) (Z : State) (a0 : Array Value) (hw : ∀ d ∈ tables_1, d.before a0 Z = true) (s : Addr) (h : Heap) (n0 : Nat) (Ds : List Addr) (own_cs : CompactOn Z) {vb : Addr} (E_s : Exa Z h s "java/lang/StringBuilder") (F_value : Fld Z h s "java/lang/AbstractStringBuilder" "value" "[B" (.ref vb)) (F_coder : Fld Z h s "java/lang/AbstractStringBuilder" "coder" "B" (.int (0 : Int32))) (F_count : Fld Z h s "java/lang/AbstractStringBuilder" "count" "I" (.int (12 : Int32))) :
    Ctr l Z (⟨"java/lang/AbstractStringBuilder", "isLatin1", "()Z"⟩ : MethodName) jdk_68_method_68_code 1 (some .boolean) [] ({ frames := 0, cells := 0, slots := 0, locals := 0 } : Room) #[.ref s] h n0 Ds (fun v h' Ds' => v = some (.int (1 : Int32)) ∧ h = h' ∧ Ds = Ds') := by
  refine ctr_of (Ls := #[.val (.ref s)]) (plainFor_of_name own_pn1) (fun m => by first | (simp [entryFrame, mkF, argsToLocals, Value.category]; done) | rfl) ?_
  intro C hl hret hnm R
  subst hl
  obtain ⟨zc, S_zc, hzc⟩ := id own_cs
  replace R := R.getS (pc' := 3) (host := "") (Or.inl (own_w118 hw)) Via.refl S_zc own_d35_0 rfl
  replace R := R.ifN (pc' := 6) own_d35_3 (feq hzc).1 rfl
  replace R := R.aloadN (pc' := 7) (v := (.ref s)) own_d35_6 rfl rfl rfl
  replace R := R.getF (pc' := 10) (host := "") (Or.inl (own_w121 hw)) Via.refl F_coder own_d35_7 rfl
  replace R := R.ifN (pc' := 13) own_d35_10 (teq (by decide : (0 : Int32) = (0 : Int32))).2 rfl
  replace R := R.iconst (pc' := 14) (z := (1 : Int32)) own_d35_13 rfl rfl
  replace R := R.goto (pc' := 18) own_d35_14 (by decide) rfl
  exact R.retN (Ds' := Ds) hret (by simp) (show nar .boolean (1 : Int32) = (1 : Int32) from rfl) own_d35_18 (by decide) (by decide) (fun _ q => q) ⟨rfl, rfl, rfl⟩
set_option maxRecDepth 65536 in
set_option maxHeartbeats 4000000 in
theorem rm_ia (l : Launch) (Z : State) (a0 : Array Value) (hw : ∀ d ∈ tables_1, d.before a0 Z = true) (a s : Addr) (h : Heap) (n0 : Nat) (Ds : List Addr) (own_cs : CompactOn Z) (ha : a ∈ Ds) {x0 x1 x2 x3 x4 x5 x6 x7 x8 x9 x10 x11 : Int32} {u12 u13 u14 u15 : Value} (hok : ∀ c ∈ ([x0, x1, x2, x3, x4, x5, x6, x7, x8, x9, x10, x11] : List Int32), ¬ c < 0 ∧ ¬ (255 : Int32) < c) {vb : Addr} {kb : ClassId} (V_b : Arv Z h vb kb .byte (16 : Int32) [(.int x0.toInt8.toInt32), (.int x1.toInt8.toInt32), (.int x2.toInt8.toInt32), (.int x3.toInt8.toInt32), (.int x4.toInt8.toInt32), (.int x5.toInt8.toInt32), (.int x6.toInt8.toInt32), (.int x7.toInt8.toInt32), (.int x8.toInt8.toInt32), (.int x9.toInt8.toInt32), (.int x10.toInt8.toInt32), (.int x11.toInt8.toInt32), u12, u13, u14, u15] (.int 0)) (E_s : Exa Z h s "java/lang/StringBuilder") (F_value : Fld Z h s "java/lang/AbstractStringBuilder" "value" "[B" (.ref vb)) (F_coder : Fld Z h s "java/lang/AbstractStringBuilder" "coder" "B" (.int (0 : Int32))) (F_count : Fld Z h s "java/lang/AbstractStringBuilder" "count" "I" (.int (12 : Int32))) {w1 w2 : Value} (E_a : Exa Z h a "java/lang/String") (F_v : Fld Z h a "java/lang/String" "value" "[B" w1) (F_c : Fld Z h a "java/lang/String" "coder" "B" w2) :
    Ctr l Z (⟨"java/lang/String", "<init>", "(Ljava/lang/AbstractStringBuilder;Ljava/lang/Void;)V"⟩ : MethodName) jdk_42_method_150_code 5 none [] ({ frames := 3, cells := 1, slots := 12, locals := 111 } : Room) #[.ref a, .ref s, .null] h n0 Ds (fun v h' Ds' => v = none ∧ Keep h h' [a] ∧ IsStr Z h' a [x0, x1, x2, x3, x4, x5, x6, x7, x8, x9, x10, x11] ∧ Ds = Ds') := by
  refine ctr_of (Ls := #[.val (.ref a), .val (.ref s), .val .null, .unset, .unset]) (plainFor_of_name own_pn0) (fun m => by first | (simp [entryFrame, mkF, argsToLocals, Value.category]; done) | rfl) ?_
  intro C hl hret hnm R
  subst hl
  have nas : a ≠ s := Exa.ne E_a E_s (by decide)
  have nab : a ≠ vb := Exa.neArv E_a V_b (own_w1 hw)
  replace R := R.aloadN (pc' := 1) (v := (.ref a)) own_d31_0 rfl rfl rfl
  replace R := R.initO (pc' := 4) (W := 0) (own_w11 hw) (own_w12 hw) (own_w13 hw) rfl own_d31_1 (by decide) rfl (by decide) rfl
  replace R := R.aloadN (pc' := 5) (v := (.ref s)) own_d31_4 rfl rfl rfl
  obtain ⟨_, _, _, ⟨rfl, rfl, rfl⟩, R⟩ := R.callV (pc' := 8) (y := (⟨"java/lang/AbstractStringBuilder", "getValue", "()[B"⟩ : MethodName)) (z := (⟨"java/lang/AbstractStringBuilder", "getValue", "()[B"⟩ : MethodName)) (argsL := []) (rest := []) (W := 0) (own_w184 hw) (own_w185 hw) (fun s' hZ' => notFace_of_selects (args := #[]) (mvT hZ' (own_w187 hw))) (own_w187 hw) (own_w186 hw) (own_w115 hw) (own_w188 hw) (by decide) E_s (rm_gv C.l Z a0 hw s h n0 Ds own_cs E_s F_value F_coder F_count) rfl (lenOf own_pd10 rfl) rfl rfl own_d31_5 (by decide) (by decide) (by decide) (by decide) rfl
  replace R := R.mono (ce' := 0) (sl' := 0) (by decide) (by decide)
  replace R := R.stk (S' := [(.ref vb)]) rfl
  replace R := R.astoreN (pc' := 9) (l' := #[.val (.ref a), .val (.ref s), .val .null, .val (.ref vb), .unset]) own_d31_8 rfl rfl rfl
  replace R := R.aloadN (pc' := 10) (v := (.ref s)) own_d31_9 rfl rfl rfl
  obtain ⟨_, _, _, ⟨rfl, rfl, rfl⟩, R⟩ := R.callV (pc' := 13) (y := (⟨"java/lang/AbstractStringBuilder", "length", "()I"⟩ : MethodName)) (z := (⟨"java/lang/StringBuilder", "length", "()I"⟩ : MethodName)) (argsL := []) (rest := []) (W := 0) (own_w189 hw) (own_w190 hw) (fun s' hZ' => own_nf (args := #[]) (mvT hZ' (own_w149 hw)) rfl) (own_w192 hw) (own_w193 hw) (own_w107 hw) (own_w194 hw) (by decide) E_s (rm_sl C.l Z a0 hw s h n0 Ds own_cs E_s F_value F_coder F_count) rfl (lenOf own_pd4 rfl) rfl rfl own_d31_10 (by decide) (by decide) (by decide) (by decide) rfl
  replace R := R.mono (ce' := 0) (sl' := 0) (by decide) (by decide)
  replace R := R.stk (S' := [(.int (12 : Int32))]) rfl
  replace R := R.istore (pc' := 15) (l' := #[.val (.ref a), .val (.ref s), .val .null, .val (.ref vb), .val (.int (12 : Int32))]) own_d31_13 rfl rfl
  replace R := R.aloadN (pc' := 16) (v := (.ref s)) own_d31_15 rfl rfl rfl
  obtain ⟨_, _, _, ⟨rfl, rfl, rfl⟩, R⟩ := R.callV (pc' := 19) (y := (⟨"java/lang/AbstractStringBuilder", "isLatin1", "()Z"⟩ : MethodName)) (z := (⟨"java/lang/AbstractStringBuilder", "isLatin1", "()Z"⟩ : MethodName)) (argsL := []) (rest := []) (W := 0) (own_w197 hw) (own_w198 hw) (fun s' hZ' => notFace_of_selects (args := #[]) (mvT hZ' (own_w200 hw))) (own_w200 hw) (own_w199 hw) (own_w115 hw) (own_w201 hw) (by decide) E_s (rm_il C.l Z a0 hw s h n0 Ds own_cs E_s F_value F_coder F_count) rfl (lenOf own_pd11 rfl) rfl rfl own_d31_16 (by decide) (by decide) (by decide) (by decide) rfl
  replace R := R.mono (ce' := 0) (sl' := 0) (by decide) (by decide)
  replace R := R.stk (S' := [(.int (1 : Int32))]) rfl
  replace R := R.ifN (pc' := 22) own_d31_19 (feq (by decide : ¬ ((1 : Int32) = (0 : Int32)))).1 rfl
  replace R := R.aloadN (pc' := 23) (v := (.ref a)) own_d31_22 rfl rfl rfl
  replace R := R.iconst (pc' := 24) (z := (0 : Int32)) own_d31_23 rfl rfl
  obtain ⟨h1, W1, R⟩ := R.putFN (pc' := 27) (ty := .byte) (v' := (.int (0 : Int32))) (own_w26 hw) Via.refl F_c E_a (Or.inr ⟨(own_w27 hw), rfl, hnm⟩) (own_w1 hw) (by decide) (rfl) (rfl) ha own_d31_24 rfl
  have F1 := F_c.same W1
  have F2 := F_v.other W1 (Or.inr (slot_ne (Or.inr (own_w29 hw)) (Or.inr (own_w27 hw)) (by decide) (t := (.array .byte)) (t' := .byte) (by decide) (by decide)))
  replace R := R.aloadN (pc' := 28) (v := (.ref a)) own_d31_27 rfl rfl rfl
  replace R := R.aloadN (pc' := 29) (v := (.ref vb)) own_d31_28 rfl rfl rfl
  replace R := R.iconst (pc' := 30) (z := (0 : Int32)) own_d31_29 rfl rfl
  replace R := R.iload (pc' := 32) (v := (12 : Int32)) own_d31_30 rfl rfl
  have K4 := ((Keep.refl h [a]).trans (Keep.of_wr W1) (allS (Or.inl (List.mem_of_getElem? (i := 0) rfl)) all0))
  have F5 := V_b.keep K4 (ninS (Ne.symm nab) nin0)
  obtain ⟨_, h3, _, ⟨r3, k3, rfl, K3, V3, rfl⟩, R⟩ := R.callS (pc' := 35) (argsL := [(.ref vb), (.int (0 : Int32)), (.int (12 : Int32))]) (rest := [(.ref a)]) (W := 1) (own_w202 hw) (own_w203 hw) (own_w204 hw) (own_w205 hw) (by decide) (rm_cr C.l Z a0 hw h1 n0 Ds F5) rfl (lenOf own_pd9 rfl) rfl rfl own_d31_32 (by decide) (by decide) (by decide) (by decide) rfl
  replace R := R.mono (ce' := 1) (sl' := 12) (by decide) (by decide)
  replace R := R.stk (S' := [(.ref r3), (.ref a)]) rfl
  have K6 := (((Keep.refl h [a]).trans (Keep.of_wr W1) (allS (Or.inl (List.mem_of_getElem? (i := 0) rfl)) all0)).trans K3 all0)
  have F7 := E_a.keep K6
  have nar : a ≠ r3 := Exa.neArv F7 V3 (own_w1 hw)
  have K8 := ((Keep.refl h1 []).trans K3 all0)
  have F9 := F2.keep K8 nin0
  have K10 := ((Keep.refl h1 []).trans K3 all0)
  have F11 := F1.keep K10 nin0
  obtain ⟨h12, W12, R⟩ := R.putF (pc' := 38) (ty := (.array .byte)) (host := "") (Or.inl (own_w28 hw)) Via.refl F9 F7 (Or.inr ⟨(own_w29 hw), rfl, hnm⟩) (own_w1 hw) (by decide) rfl rfl ha own_d31_35 rfl
  have F12 := F9.same W12
  have F13 := F11.other W12 (Or.inr (slot_ne (Or.inr (own_w27 hw)) (Or.inr (own_w29 hw)) (by decide) (t := .byte) (t' := (.array .byte)) (by decide) (by decide)))
  replace R := R.goto (pc' := 97) own_d31_38 (by decide) rfl
  have hK := ((((Keep.refl h [a]).trans (Keep.of_wr W1) (allS (Or.inl (List.mem_of_getElem? (i := 0) rfl)) all0)).trans K3 all0).trans (Keep.of_wr W12) (allS (Or.inl (List.mem_of_getElem? (i := 0) rfl)) all0))
  have K14 := ((Keep.refl h3 [a]).trans (Keep.of_wr W12) (allS (Or.inl (List.mem_of_getElem? (i := 0) rfl)) all0))
  have F15 := F7.keep K14
  have K16 := ((Keep.refl h3 [a]).trans (Keep.of_wr W12) (allS (Or.inl (List.mem_of_getElem? (i := 0) rfl)) all0))
  have F17 := V3.keep K16 (ninS (Ne.symm nar) nin0)
  exact R.retV (Ds' := Ds) hret own_d31_97 (by decide) (by decide) (fun _ q => q) ⟨rfl, hK, ⟨F15, F13, hok, Nat.le_of_ble_eq_true rfl, r3, _, F12, F17⟩, rfl⟩
set_option maxRecDepth 65536 in
set_option maxHeartbeats 4000000 in
theorem rm_is (l : Launch) (Z : State) (a0 : Array Value) (hw : ∀ d ∈ tables_1, d.before a0 Z = true) (a s : Addr) (h : Heap) (n0 : Nat) (Ds : List Addr) (own_cs : CompactOn Z) (ha : a ∈ Ds) {x0 x1 x2 x3 x4 x5 x6 x7 x8 x9 x10 x11 : Int32} {u12 u13 u14 u15 : Value} (hok : ∀ c ∈ ([x0, x1, x2, x3, x4, x5, x6, x7, x8, x9, x10, x11] : List Int32), ¬ c < 0 ∧ ¬ (255 : Int32) < c) {vb : Addr} {kb : ClassId} (V_b : Arv Z h vb kb .byte (16 : Int32) [(.int x0.toInt8.toInt32), (.int x1.toInt8.toInt32), (.int x2.toInt8.toInt32), (.int x3.toInt8.toInt32), (.int x4.toInt8.toInt32), (.int x5.toInt8.toInt32), (.int x6.toInt8.toInt32), (.int x7.toInt8.toInt32), (.int x8.toInt8.toInt32), (.int x9.toInt8.toInt32), (.int x10.toInt8.toInt32), (.int x11.toInt8.toInt32), u12, u13, u14, u15] (.int 0)) (E_s : Exa Z h s "java/lang/StringBuilder") (F_value : Fld Z h s "java/lang/AbstractStringBuilder" "value" "[B" (.ref vb)) (F_coder : Fld Z h s "java/lang/AbstractStringBuilder" "coder" "B" (.int (0 : Int32))) (F_count : Fld Z h s "java/lang/AbstractStringBuilder" "count" "I" (.int (12 : Int32))) {w1 w2 : Value} (E_a : Exa Z h a "java/lang/String") (F_v : Fld Z h a "java/lang/String" "value" "[B" w1) (F_c : Fld Z h a "java/lang/String" "coder" "B" w2) :
    Ctr l Z (⟨"java/lang/String", "<init>", "(Ljava/lang/StringBuilder;)V"⟩ : MethodName) jdk_42_method_53_code 2 none [] ({ frames := 4, cells := 1, slots := 12, locals := 127 } : Room) #[.ref a, .ref s] h n0 Ds (fun v h' Ds' => v = none ∧ Keep h h' [a] ∧ IsStr Z h' a [x0, x1, x2, x3, x4, x5, x6, x7, x8, x9, x10, x11] ∧ Ds = Ds') := by
  refine ctr_of (Ls := #[.val (.ref a), .val (.ref s)]) (plainFor_of_name own_pn0) (fun m => by first | (simp [entryFrame, mkF, argsToLocals, Value.category]; done) | rfl) ?_
  intro C hl hret hnm R
  subst hl
  have nas : a ≠ s := Exa.ne E_a E_s (by decide)
  have nab : a ≠ vb := Exa.neArv E_a V_b (own_w1 hw)
  replace R := R.aloadN (pc' := 1) (v := (.ref a)) own_d30_0 rfl rfl rfl
  replace R := R.aloadN (pc' := 2) (v := (.ref s)) own_d30_1 rfl rfl rfl
  replace R := R.anull (pc' := 3) own_d30_2 rfl
  obtain ⟨_, h1, _, ⟨rfl, K1, S1, rfl⟩, R⟩ := R.callI (pc' := 6) (a := a) (argsL := [(.ref s), .null]) (rest := []) (W := 0) rfl (own_w181 hw) (own_w182 hw) (own_w2 hw) (own_w183 hw) (by decide) (rm_ia C.l Z a0 hw a s h n0 Ds own_cs ha hok V_b E_s F_value F_coder F_count E_a F_v F_c) rfl (lenOf own_pd12 rfl) rfl rfl own_d30_3 (by decide) (by decide) (by decide) (by decide) rfl
  replace R := R.mono (ce' := 1) (sl' := 12) (by decide) (by decide)
  replace R := R.stk (S' := []) rfl
  have hK := ((Keep.refl h [a]).trans K1 (allS (Or.inl (List.mem_of_getElem? (i := 0) rfl)) all0))
  exact R.retV (Ds' := Ds) hret own_d30_6 (by decide) (by decide) (fun _ q => q) ⟨rfl, hK, S1, rfl⟩
set_option maxRecDepth 65536 in
set_option maxHeartbeats 4000000 in
theorem rm_ts (l : Launch) (Z : State) (a0 : Array Value) (hw : ∀ d ∈ tables_1, d.before a0 Z = true) (s : Addr) (h : Heap) (n0 : Nat) (Ds : List Addr) (own_cs : CompactOn Z) {x0 x1 x2 x3 x4 x5 x6 x7 x8 x9 x10 x11 : Int32} {u12 u13 u14 u15 : Value} (hok : ∀ c ∈ ([x0, x1, x2, x3, x4, x5, x6, x7, x8, x9, x10, x11] : List Int32), ¬ c < 0 ∧ ¬ (255 : Int32) < c) {vb : Addr} {kb : ClassId} (V_b : Arv Z h vb kb .byte (16 : Int32) [(.int x0.toInt8.toInt32), (.int x1.toInt8.toInt32), (.int x2.toInt8.toInt32), (.int x3.toInt8.toInt32), (.int x4.toInt8.toInt32), (.int x5.toInt8.toInt32), (.int x6.toInt8.toInt32), (.int x7.toInt8.toInt32), (.int x8.toInt8.toInt32), (.int x9.toInt8.toInt32), (.int x10.toInt8.toInt32), (.int x11.toInt8.toInt32), u12, u13, u14, u15] (.int 0)) (E_s : Exa Z h s "java/lang/StringBuilder") (F_value : Fld Z h s "java/lang/AbstractStringBuilder" "value" "[B" (.ref vb)) (F_coder : Fld Z h s "java/lang/AbstractStringBuilder" "coder" "B" (.int (0 : Int32))) (F_count : Fld Z h s "java/lang/AbstractStringBuilder" "count" "I" (.int (12 : Int32))) :
    Ctr l Z (⟨"java/lang/StringBuilder", "toString", "()Ljava/lang/String;"⟩ : MethodName) jdk_67_method_42_code 1 (some (.object "java/lang/String")) [] ({ frames := 5, cells := 2, slots := 16, locals := 141 } : Room) #[.ref s] h n0 Ds (fun v h' Ds' => ∃ r : Addr, v = some (.ref r) ∧ Keep h h' [] ∧ IsStr Z h' r [x0, x1, x2, x3, x4, x5, x6, x7, x8, x9, x10, x11] ∧ Ds = Ds') := by
  refine ctr_of (Ls := #[.val (.ref s)]) (plainFor_of_name own_pn2) (fun m => by first | (simp [entryFrame, mkF, argsToLocals, Value.category]; done) | rfl) ?_
  intro C hl hret hnm R
  subst hl
  obtain ⟨h1, b1, g1, E1, X1, D1, R⟩ := R.newO (pc' := 3) (own_w177 hw) (own_w1 hw) (own_w2 hw) own_d29_0 (by decide) (by decide) rfl
  have F1_coder : Fld Z h1 b1 "java/lang/String" "coder" "B" (.int (0 : Int32)) := D1 (Or.inr (own_w27 hw)) (ty := .byte) (by decide)
  have F1_value : Fld Z h1 b1 "java/lang/String" "value" "[B" .null := D1 (Or.inr (own_w29 hw)) (ty := (.array .byte)) (by decide)
  replace R := R.dup (pc' := 4) own_d29_3 rfl rfl
  replace R := R.aloadN (pc' := 5) (v := (.ref s)) own_d29_4 rfl rfl rfl
  have K3 := ((Keep.refl h []).trans ((Keep.refl h []).ext E1) all0)
  have F4 := V_b.keep K3 nin0
  have K5 := ((Keep.refl h []).trans ((Keep.refl h []).ext E1) all0)
  have F6 := E_s.keep K5
  have K7 := ((Keep.refl h []).trans ((Keep.refl h []).ext E1) all0)
  have F8 := F_value.keep K7 nin0
  have K9 := ((Keep.refl h []).trans ((Keep.refl h []).ext E1) all0)
  have F10 := F_coder.keep K9 nin0
  have K11 := ((Keep.refl h []).trans ((Keep.refl h []).ext E1) all0)
  have F12 := F_count.keep K11 nin0
  obtain ⟨_, h2, _, ⟨rfl, K2, S2, rfl⟩, R⟩ := R.callI (pc' := 8) (a := b1) (argsL := [(.ref s)]) (rest := [(.ref b1)]) (W := 1) rfl (own_w178 hw) (own_w179 hw) (own_w2 hw) (own_w180 hw) (by decide) (rm_is C.l Z a0 hw b1 s h1 n0 (b1 :: Ds) own_cs (List.mem_of_getElem? (i := 0) rfl) hok F4 F6 F8 F10 F12 X1 F1_value F1_coder) rfl (lenOf own_pd13 rfl) rfl rfl own_d29_5 (by decide) (by decide) (by decide) (by decide) rfl
  replace R := R.mono (ce' := 2) (sl' := 16) (by decide) (by decide)
  replace R := R.stk (S' := [(.ref b1)]) rfl
  have hK := (((Keep.refl h []).trans ((Keep.refl h []).ext E1) all0).trans K2 (allS (Or.inr (by rw [g1]; exact (Nat.le_refl _))) all0))
  exact R.retA (Ds' := Ds) hret rfl rfl rfl own_d29_8 (by decide) (by decide) (fun _ q => (fun q => (List.mem_cons_of_mem _ q)) q) ⟨b1, rfl, hK, S2, rfl⟩
set_option maxRecDepth 65536 in
set_option maxHeartbeats 4000000 in
theorem rm_rnn (l : Launch) (Z : State) (a0 : Array Value) (hw : ∀ d ∈ tables_1, d.before a0 Z = true) (a : Addr) (h : Heap) (n0 : Nat) (Ds : List Addr) :
    Ctr l Z (⟨"java/util/Objects", "requireNonNull", "(Ljava/lang/Object;)Ljava/lang/Object;"⟩ : MethodName) jdk_31_method_10_code 1 (some (.object "java/lang/Object")) [] ({ frames := 0, cells := 0, slots := 0, locals := 0 } : Room) #[.ref a] h n0 Ds (fun v h' Ds' => v = some (.ref a) ∧ h = h' ∧ Ds = Ds') := by
  refine ctr_of (Ls := #[.val (.ref a)]) (plainFor_of_name own_pn4) (fun m => by first | (simp [entryFrame, mkF, argsToLocals, Value.category]; done) | rfl) ?_
  intro C hl hret hnm R
  subst hl
  replace R := R.aloadN (pc' := 1) (v := (.ref a)) own_d17_0 rfl rfl rfl
  replace R := R.ifnonnullY (pc' := 12) own_d17_1 (by decide) rfl
  replace R := R.aloadN (pc' := 13) (v := (.ref a)) own_d17_12 rfl rfl rfl
  exact R.retA (Ds' := Ds) hret rfl rfl rfl own_d17_13 (by decide) (by decide) (fun _ q => q) ⟨rfl, rfl, rfl⟩
set_option maxRecDepth 65536 in
set_option maxHeartbeats 4000000 in
theorem rm_optempty (l : Launch) (Z : State) (a0 : Array Value) (hw : ∀ d ∈ tables_1, d.before a0 Z = true) (h : Heap) (n0 : Nat) (Ds : List Addr) {eO : Addr} (S_EMPTY : Sta Z Z.heap "java/util/Optional" "EMPTY" "Ljava/util/Optional;" (.ref eO)) :
    Ctr l Z (⟨"java/util/Optional", "empty", "()Ljava/util/Optional;"⟩ : MethodName) jdk_32_method_1_code 1 (some (.object "java/util/Optional")) [] ({ frames := 0, cells := 0, slots := 0, locals := 0 } : Room) #[] h n0 Ds (fun v h' Ds' => v = some (.ref eO) ∧ h = h' ∧ Ds = Ds') := by
  refine ctr_of (Ls := #[.unset]) (plainFor_of_name own_pn5) (fun m => by first | (simp [entryFrame, mkF, argsToLocals, Value.category]; done) | rfl) ?_
  intro C hl hret hnm R
  subst hl
  replace R := R.getS (pc' := 3) (host := "") (Or.inl (own_w40 hw)) Via.refl S_EMPTY own_d8_0 rfl
  replace R := R.astoreN (pc' := 4) (l' := #[.val (.ref eO)]) own_d8_3 rfl rfl rfl
  replace R := R.aloadN (pc' := 5) (v := (.ref eO)) own_d8_4 rfl rfl rfl
  exact R.retA (Ds' := Ds) hret rfl rfl rfl own_d8_5 (by decide) (by decide) (fun _ q => q) ⟨rfl, rfl, rfl⟩
set_option maxRecDepth 65536 in
set_option maxHeartbeats 4000000 in
theorem rm_optorElse_full (l : Launch) (Z : State) (a0 : Array Value) (hw : ∀ d ∈ tables_1, d.before a0 Z = true) (a b : Addr) (h : Heap) (n0 : Nat) (Ds : List Addr) (F_v : Fld Z h a "java/util/Optional" "value" "Ljava/lang/Object;" (.ref b)) :
    Ctr l Z (⟨"java/util/Optional", "orElse", "(Ljava/lang/Object;)Ljava/lang/Object;"⟩ : MethodName) jdk_32_method_15_code 2 (some (.object "java/lang/Object")) [] ({ frames := 0, cells := 0, slots := 0, locals := 0 } : Room) #[.ref a, .null] h n0 Ds (fun v h' Ds' => v = some (.ref b) ∧ h = h' ∧ Ds = Ds') := by
  refine ctr_of (Ls := #[.val (.ref a), .val .null]) (plainFor_of_name own_pn5) (fun m => by first | (simp [entryFrame, mkF, argsToLocals, Value.category]; done) | rfl) ?_
  intro C hl hret hnm R
  subst hl
  replace R := R.aloadN (pc' := 1) (v := (.ref a)) own_d40_0 rfl rfl rfl
  replace R := R.getF (pc' := 4) (host := "") (Or.inl (own_w102 hw)) Via.refl F_v own_d40_1 rfl
  replace R := R.ifnullN (pc' := 7) own_d40_4 rfl
  replace R := R.aloadN (pc' := 8) (v := (.ref a)) own_d40_7 rfl rfl rfl
  replace R := R.getF (pc' := 11) (host := "") (Or.inl (own_w102 hw)) Via.refl F_v own_d40_8 rfl
  replace R := R.goto (pc' := 15) own_d40_11 (by decide) rfl
  exact R.retA (Ds' := Ds) hret rfl rfl rfl own_d40_15 (by decide) (by decide) (fun _ q => q) ⟨rfl, rfl, rfl⟩
set_option maxRecDepth 65536 in
set_option maxHeartbeats 4000000 in
theorem rm_optorElse_none (l : Launch) (Z : State) (a0 : Array Value) (hw : ∀ d ∈ tables_1, d.before a0 Z = true) (a : Addr) (h : Heap) (n0 : Nat) (Ds : List Addr) (F_v : Fld Z h a "java/util/Optional" "value" "Ljava/lang/Object;" .null) :
    Ctr l Z (⟨"java/util/Optional", "orElse", "(Ljava/lang/Object;)Ljava/lang/Object;"⟩ : MethodName) jdk_32_method_15_code 2 (some (.object "java/lang/Object")) [] ({ frames := 0, cells := 0, slots := 0, locals := 0 } : Room) #[.ref a, .null] h n0 Ds (fun v h' Ds' => v = some .null ∧ h = h' ∧ Ds = Ds') := by
  refine ctr_of (Ls := #[.val (.ref a), .val .null]) (plainFor_of_name own_pn5) (fun m => by first | (simp [entryFrame, mkF, argsToLocals, Value.category]; done) | rfl) ?_
  intro C hl hret hnm R
  subst hl
  replace R := R.aloadN (pc' := 1) (v := (.ref a)) own_d40_0 rfl rfl rfl
  replace R := R.getF (pc' := 4) (host := "") (Or.inl (own_w102 hw)) Via.refl F_v own_d40_1 rfl
  replace R := R.ifnullY (pc' := 14) own_d40_4 (by decide) rfl
  replace R := R.aloadN (pc' := 15) (v := .null) own_d40_14 rfl rfl rfl
  exact R.retA (Ds' := Ds) hret rfl rfl rfl own_d40_15 (by decide) (by decide) (fun _ q => q) ⟨rfl, rfl, rfl⟩
set_option maxRecDepth 65536 in
set_option maxHeartbeats 4000000 in
theorem rm_eqnull (l : Launch) (Z : State) (a0 : Array Value) (hw : ∀ d ∈ tables_1, d.before a0 Z = true) (a : Addr) (h : Heap) (n0 : Nat) (Ds : List Addr) :
    Ctr l Z (⟨"java/lang/String", "equals", "(Ljava/lang/Object;)Z"⟩ : MethodName) jdk_42_method_66_code 3 (some .boolean) [] ({ frames := 0, cells := 0, slots := 0, locals := 0 } : Room) #[.ref a, .null] h n0 Ds (fun v h' Ds' => v = some (.int 0) ∧ h = h' ∧ Ds = Ds') := by
  refine ctr_of (Ls := #[.val (.ref a), .val .null, .unset]) (plainFor_of_name own_pn0) (fun m => by first | (simp [entryFrame, mkF, argsToLocals, Value.category]; done) | rfl) ?_
  intro C hl hret hnm R
  subst hl
  replace R := R.aloadN (pc' := 1) (v := (.ref a)) own_d13_0 rfl rfl rfl
  replace R := R.aloadN (pc' := 2) (v := .null) own_d13_1 rfl rfl rfl
  replace R := R.acmp (pc' := 7) (same := false) own_d13_2 rfl rfl (decide_eq_false nofun) (by decide) (by decide)
  replace R := R.aloadN (pc' := 8) (v := .null) own_d13_7 rfl rfl rfl
  replace R := R.instNull (pc' := 11) own_d13_8 rfl
  replace R := R.ifY (pc' := 54) own_d13_11 (teq (by decide : (0 : Int32) = (0 : Int32))).1 (by decide) rfl
  replace R := R.iconst (pc' := 55) (z := (0 : Int32)) own_d13_54 rfl rfl
  exact R.retN (Ds' := Ds) hret (by simp) (show nar .boolean 0 = 0 from rfl) own_d13_55 (by decide) (by decide) (fun _ q => q) ⟨rfl, rfl, rfl⟩
theorem rm_recinit (l : Launch) (Z : State) (a0 : Array Value) (hw : ∀ d ∈ tables_1, d.before a0 Z = true) (a : Addr) (h : Heap) (n0 : Nat) (Ds : List Addr) :
    Ctr l Z (⟨"java/lang/Record", "<init>", "()V"⟩ : MethodName) jdk_30_method_1_code 1 none [] ({ frames := 1, cells := 0, slots := 0, locals := 12 } : Room) #[.ref a] h n0 Ds (fun v h' Ds' => v = none ∧ h = h' ∧ Ds = Ds') := by
  refine ctr_of (Ls := #[.val (.ref a)]) (plainFor_of_name own_pn6) (fun m => by first | (simp [entryFrame, mkF, argsToLocals, Value.category]; done) | rfl) ?_
  intro C hl hret hnm R
  subst hl
  replace R := R.aloadN (pc' := 1) (v := (.ref a)) own_d10_0 rfl rfl rfl
  replace R := R.initO (pc' := 4) (W := 0) (own_w49 hw) (own_w12 hw) (own_w13 hw) rfl own_d10_1 (by decide) rfl (by decide) rfl
  exact R.retV (Ds' := Ds) hret own_d10_4 (by decide) (by decide) (fun _ q => q) ⟨rfl, rfl, rfl⟩
set_option maxRecDepth 65536 in
set_option maxHeartbeats 4000000 in
theorem rm_rnn2 (l : Launch) (Z : State) (a0 : Array Value) (hw : ∀ d ∈ tables_1, d.before a0 Z = true) (a b : Addr) (h : Heap) (n0 : Nat) (Ds : List Addr) :
    Ctr l Z (⟨"java/util/Objects", "requireNonNull", "(Ljava/lang/Object;Ljava/lang/String;)Ljava/lang/Object;"⟩ : MethodName) jdk_31_method_11_code 2 (some (.object "java/lang/Object")) [] ({ frames := 0, cells := 0, slots := 0, locals := 0 } : Room) #[.ref a, .ref b] h n0 Ds (fun v h' Ds' => v = some (.ref a) ∧ h = h' ∧ Ds = Ds') := by
  refine ctr_of (Ls := #[.val (.ref a), .val (.ref b)]) (plainFor_of_name own_pn4) (fun m => by first | (simp [entryFrame, mkF, argsToLocals, Value.category]; done) | rfl) ?_
  intro C hl hret hnm R
  subst hl
  replace R := R.aloadN (pc' := 1) (v := (.ref a)) own_d11_0 rfl rfl rfl
  replace R := R.ifnonnullY (pc' := 13) own_d11_1 (by decide) rfl
  replace R := R.aloadN (pc' := 14) (v := (.ref a)) own_d11_13 rfl rfl rfl
  exact R.retA (Ds' := Ds) hret rfl rfl rfl own_d11_14 (by decide) (by decide) (fun _ q => q) ⟨rfl, rfl, rfl⟩
set_option maxRecDepth 65536 in
set_option maxHeartbeats 4000000 in
theorem rm_isE (l : Launch) (Z : State) (a0 : Array Value) (hw : ∀ d ∈ tables_1, d.before a0 Z = true) (h : Heap) (n0 : Nat) (Ds : List Addr) {eO : Addr} (S_EMPTY : Sta Z Z.heap "java/util/Optional" "EMPTY" "Ljava/util/Optional;" (.ref eO)) (X_eO : Exa Z h eO "java/util/Optional") (F_eO : Fld Z h eO "java/util/Optional" "value" "Ljava/lang/Object;" .null) :
    Ctr l Z (⟨"java/util/Optional", "isEmpty", "()Z"⟩ : MethodName) jdk_32_method_7_code 1 (some .boolean) [] ({ frames := 0, cells := 0, slots := 0, locals := 0 } : Room) #[.ref eO] h n0 Ds (fun v h' Ds' => v = some (.int (1 : Int32)) ∧ h = h' ∧ Ds = Ds') := by
  refine ctr_of (Ls := #[.val (.ref eO)]) (plainFor_of_name own_pn5) (fun m => by first | (simp [entryFrame, mkF, argsToLocals, Value.category]; done) | rfl) ?_
  intro C hl hret hnm R
  subst hl
  replace R := R.aloadN (pc' := 1) (v := (.ref eO)) own_d18_0 rfl rfl rfl
  replace R := R.getF (pc' := 4) (host := "") (Or.inl (own_w102 hw)) Via.refl F_eO own_d18_1 rfl
  replace R := R.ifnonnullN (pc' := 7) own_d18_4 rfl
  replace R := R.iconst (pc' := 8) (z := (1 : Int32)) own_d18_7 rfl rfl
  replace R := R.goto (pc' := 12) own_d18_8 (by decide) rfl
  exact R.retN (Ds' := Ds) hret (by simp) (show nar .boolean (1 : Int32) = (1 : Int32) from rfl) own_d18_12 (by decide) (by decide) (fun _ q => q) ⟨rfl, rfl, rfl⟩
set_option maxRecDepth 65536 in
set_option maxHeartbeats 4000000 in
theorem rm_map (l : Launch) (Z : State) (a0 : Array Value) (hw : ∀ d ∈ tables_1, d.before a0 Z = true) (b : Addr) (h : Heap) (n0 : Nat) (Ds : List Addr) {eO : Addr} (S_EMPTY : Sta Z Z.heap "java/util/Optional" "EMPTY" "Ljava/util/Optional;" (.ref eO)) (X_eO : Exa Z h eO "java/util/Optional") (F_eO : Fld Z h eO "java/util/Optional" "value" "Ljava/lang/Object;" .null) :
    Ctr l Z (⟨"java/util/Optional", "map", "(Ljava/util/function/Function;)Ljava/util/Optional;"⟩ : MethodName) jdk_32_method_11_code 2 (some (.object "java/util/Optional")) [] ({ frames := 1, cells := 0, slots := 0, locals := 12 } : Room) #[.ref eO, .ref b] h n0 Ds (fun v h' Ds' => v = some (.ref eO) ∧ h = h' ∧ Ds = Ds') := by
  refine ctr_of (Ls := #[.val (.ref eO), .val (.ref b)]) (plainFor_of_name own_pn5) (fun m => by first | (simp [entryFrame, mkF, argsToLocals, Value.category]; done) | rfl) ?_
  intro C hl hret hnm R
  subst hl
  replace R := R.aloadN (pc' := 1) (v := (.ref b)) own_d16_0 rfl rfl rfl
  obtain ⟨_, _, _, ⟨rfl, rfl, rfl⟩, R⟩ := R.callS (pc' := 4) (argsL := [(.ref b)]) (rest := []) (W := 0) (own_w94 hw) (own_w95 hw) (own_w55 hw) (own_w96 hw) (by decide) (rm_rnn C.l Z a0 hw b h n0 Ds) rfl (lenOf own_pd14 rfl) rfl rfl own_d16_1 (by decide) (by decide) (by decide) (by decide) rfl
  replace R := R.mono (ce' := 0) (sl' := 0) (by decide) (by decide)
  replace R := R.stk (S' := [(.ref b)]) rfl
  replace R := R.pop (pc' := 5) own_d16_4 rfl rfl
  replace R := R.aloadN (pc' := 6) (v := (.ref eO)) own_d16_5 rfl rfl rfl
  obtain ⟨_, _, _, ⟨rfl, rfl, rfl⟩, R⟩ := R.callV (pc' := 9) (y := (⟨"java/util/Optional", "isEmpty", "()Z"⟩ : MethodName)) (z := (⟨"java/util/Optional", "isEmpty", "()Z"⟩ : MethodName)) (argsL := []) (rest := []) (W := 0) (own_w97 hw) (own_w98 hw) (fun s' hZ' => notFace_of_selects (args := #[]) (mvT hZ' (own_w100 hw))) (own_w100 hw) (own_w99 hw) (own_w38 hw) (own_w101 hw) (by decide) X_eO (rm_isE C.l Z a0 hw h n0 Ds S_EMPTY X_eO F_eO) rfl (lenOf own_pd11 rfl) rfl rfl own_d16_6 (by decide) (by decide) (by decide) (by decide) rfl
  replace R := R.mono (ce' := 0) (sl' := 0) (by decide) (by decide)
  replace R := R.stk (S' := [(.int (1 : Int32))]) rfl
  replace R := R.ifN (pc' := 12) own_d16_9 (feq (by decide : ¬ ((1 : Int32) = (0 : Int32)))).1 rfl
  obtain ⟨_, _, _, ⟨rfl, rfl, rfl⟩, R⟩ := R.callS (pc' := 15) (argsL := []) (rest := []) (W := 0) (own_w104 hw) (own_w37 hw) (own_w38 hw) (own_w39 hw) (by decide) (rm_optempty C.l Z a0 hw h n0 Ds S_EMPTY) rfl (lenOf own_pd15 rfl) rfl rfl own_d16_12 (by decide) (by decide) (by decide) (by decide) rfl
  replace R := R.mono (ce' := 0) (sl' := 0) (by decide) (by decide)
  replace R := R.stk (S' := [(.ref eO)]) rfl
  exact R.retA (Ds' := Ds) hret rfl rfl rfl own_d16_15 (by decide) (by decide) (fun _ q => q) ⟨rfl, rfl, rfl⟩
set_option maxRecDepth 65536 in
set_option maxHeartbeats 4000000 in
theorem rm_orE (l : Launch) (Z : State) (a0 : Array Value) (hw : ∀ d ∈ tables_1, d.before a0 Z = true) (b : Addr) (h : Heap) (n0 : Nat) (Ds : List Addr) {eO : Addr} (S_EMPTY : Sta Z Z.heap "java/util/Optional" "EMPTY" "Ljava/util/Optional;" (.ref eO)) (X_eO : Exa Z h eO "java/util/Optional") (F_eO : Fld Z h eO "java/util/Optional" "value" "Ljava/lang/Object;" .null) :
    Ctr l Z (⟨"java/util/Optional", "orElse", "(Ljava/lang/Object;)Ljava/lang/Object;"⟩ : MethodName) jdk_32_method_15_code 2 (some (.object "java/lang/Object")) [] ({ frames := 0, cells := 0, slots := 0, locals := 0 } : Room) #[.ref eO, .ref b] h n0 Ds (fun v h' Ds' => v = some (.ref b) ∧ h = h' ∧ Ds = Ds') := by
  refine ctr_of (Ls := #[.val (.ref eO), .val (.ref b)]) (plainFor_of_name own_pn5) (fun m => by first | (simp [entryFrame, mkF, argsToLocals, Value.category]; done) | rfl) ?_
  intro C hl hret hnm R
  subst hl
  replace R := R.aloadN (pc' := 1) (v := (.ref eO)) own_d40_0 rfl rfl rfl
  replace R := R.getF (pc' := 4) (host := "") (Or.inl (own_w102 hw)) Via.refl F_eO own_d40_1 rfl
  replace R := R.ifnullY (pc' := 14) own_d40_4 (by decide) rfl
  replace R := R.aloadN (pc' := 15) (v := (.ref b)) own_d40_14 rfl rfl rfl
  exact R.retA (Ds' := Ds) hret rfl rfl rfl own_d40_15 (by decide) (by decide) (fun _ q => q) ⟨rfl, rfl, rfl⟩
set_option maxRecDepth 65536 in
set_option maxHeartbeats 4000000 in
theorem rm_ti (l : Launch) (Z : State) (a0 : Array Value) (hw : ∀ d ∈ tables_1, d.before a0 Z = true) (a c f o : Addr) (h : Heap) (n0 : Nat) (Ds : List Addr) (ha : a ∈ Ds) (E_a : Exa Z h a "com/example/rein/rein/policy/Rule$Target") (F_collection : Fld Z h a "com/example/rein/rein/policy/Rule$Target" "collection" "Ljava/lang/String;" .null) (F_field : Fld Z h a "com/example/rein/rein/policy/Rule$Target" "field" "Ljava/lang/String;" .null) (F_value : Fld Z h a "com/example/rein/rein/policy/Rule$Target" "value" "Ljava/util/Optional;" .null) :
    Ctr l Z (⟨"com/example/rein/rein/policy/Rule$Target", "<init>", "(Ljava/lang/String;Ljava/lang/String;Ljava/util/Optional;)V"⟩ : MethodName) prog_32_method_1_code 4 none [] ({ frames := 2, cells := 6, slots := 92, locals := 24 } : Room) #[.ref a, .ref c, .ref f, .ref o] h n0 Ds (fun v h' Ds' => v = none ∧ Keep h h' [a] ∧ Exa Z h' a "com/example/rein/rein/policy/Rule$Target" ∧ Fld Z h' a "com/example/rein/rein/policy/Rule$Target" "collection" "Ljava/lang/String;" (.ref c) ∧ Fld Z h' a "com/example/rein/rein/policy/Rule$Target" "field" "Ljava/lang/String;" (.ref f) ∧ Fld Z h' a "com/example/rein/rein/policy/Rule$Target" "value" "Ljava/util/Optional;" (.ref o) ∧ Ds = Ds') := by
  refine ctr_of (Ls := #[.val (.ref a), .val (.ref c), .val (.ref f), .val (.ref o)]) (plainFor_of_name own_pn7) (fun m => by first | (simp [entryFrame, mkF, argsToLocals, Value.category]; done) | rfl) ?_
  intro C hl hret hnm R
  subst hl
  replace R := R.aloadN (pc' := 1) (v := (.ref a)) own_d9_0 rfl rfl rfl
  obtain ⟨_, _, _, ⟨rfl, rfl, rfl⟩, R⟩ := R.callI (pc' := 4) (a := a) (argsL := []) (rest := []) (W := 0) rfl (own_w44 hw) (own_w45 hw) (own_w47 hw) (own_w48 hw) (by decide) (rm_recinit C.l Z a0 hw a h n0 Ds) rfl (lenOf own_pd16 rfl) rfl rfl own_d9_1 (by decide) (by decide) (by decide) (by decide) rfl
  replace R := R.mono (ce' := 0) (sl' := 0) (by decide) (by decide)
  replace R := R.stk (S' := []) rfl
  replace R := R.aloadN (pc' := 5) (v := (.ref c)) own_d9_4 rfl rfl rfl
  obtain ⟨h1, a1, E1, S1, N1, R⟩ := R.ldcS (pc' := 7) (n := 40) (cs := [99, 111, 108, 108, 101, 99, 116, 105, 111, 110]) (by decide) (own_w50 hw) (by decide +kernel) (by decide +kernel) (by decide) own_d9_5 (by decide +kernel) (by decide) (by decide) (by decide) rfl
  obtain ⟨_, _, _, ⟨rfl, rfl, rfl⟩, R⟩ := R.callS (pc' := 10) (argsL := [(.ref c), (.ref a1)]) (rest := []) (W := 0) (own_w53 hw) (own_w54 hw) (own_w55 hw) (own_w56 hw) (by decide) (rm_rnn2 C.l Z a0 hw c a1 h1 n0 Ds) rfl (lenOf own_pd17 rfl) rfl rfl own_d9_7 (by decide) (by decide) (by decide) (by decide) rfl
  replace R := R.mono (ce' := 2) (sl' := 44) (by decide) (by decide)
  replace R := R.stk (S' := [(.ref c)]) rfl
  replace R := R.pop (pc' := 11) own_d9_10 rfl rfl
  replace R := R.aloadN (pc' := 12) (v := (.ref f)) own_d9_11 rfl rfl rfl
  obtain ⟨h2, a2, E2, S2, N2, R⟩ := R.ldcS (pc' := 14) (n := 20) (cs := [102, 105, 101, 108, 100]) (by decide) (own_w57 hw) (by decide +kernel) (by decide +kernel) (by decide) own_d9_12 (by decide +kernel) (by decide) (by decide) (by decide) rfl
  obtain ⟨_, _, _, ⟨rfl, rfl, rfl⟩, R⟩ := R.callS (pc' := 17) (argsL := [(.ref f), (.ref a2)]) (rest := []) (W := 0) (own_w53 hw) (own_w54 hw) (own_w55 hw) (own_w56 hw) (by decide) (rm_rnn2 C.l Z a0 hw f a2 h2 n0 Ds) rfl (lenOf own_pd17 rfl) rfl rfl own_d9_14 (by decide) (by decide) (by decide) (by decide) rfl
  replace R := R.mono (ce' := 4) (sl' := 68) (by decide) (by decide)
  replace R := R.stk (S' := [(.ref f)]) rfl
  replace R := R.pop (pc' := 18) own_d9_17 rfl rfl
  replace R := R.aloadN (pc' := 19) (v := (.ref o)) own_d9_18 rfl rfl rfl
  obtain ⟨h3, a3, E3, S3, N3, R⟩ := R.ldcS (pc' := 21) (n := 20) (cs := [118, 97, 108, 117, 101]) (by decide) (own_w58 hw) (by decide +kernel) (by decide +kernel) (by decide) own_d9_19 (by decide +kernel) (by decide) (by decide) (by decide) rfl
  obtain ⟨_, _, _, ⟨rfl, rfl, rfl⟩, R⟩ := R.callS (pc' := 24) (argsL := [(.ref o), (.ref a3)]) (rest := []) (W := 0) (own_w53 hw) (own_w54 hw) (own_w55 hw) (own_w56 hw) (by decide) (rm_rnn2 C.l Z a0 hw o a3 h3 n0 Ds) rfl (lenOf own_pd17 rfl) rfl rfl own_d9_21 (by decide) (by decide) (by decide) (by decide) rfl
  replace R := R.mono (ce' := 6) (sl' := 92) (by decide) (by decide)
  replace R := R.stk (S' := [(.ref o)]) rfl
  replace R := R.pop (pc' := 25) own_d9_24 rfl rfl
  replace R := R.aloadN (pc' := 26) (v := (.ref a)) own_d9_25 rfl rfl rfl
  replace R := R.aloadN (pc' := 27) (v := (.ref c)) own_d9_26 rfl rfl rfl
  have K4 := ((((Keep.refl h []).trans ((Keep.refl h []).ext E1) all0).trans ((Keep.refl h1 []).ext E2) all0).trans ((Keep.refl h2 []).ext E3) all0)
  have F5 := E_a.keep K4
  have K6 := ((((Keep.refl h []).trans ((Keep.refl h []).ext E1) all0).trans ((Keep.refl h1 []).ext E2) all0).trans ((Keep.refl h2 []).ext E3) all0)
  have F7 := F_collection.keep K6 nin0
  have K8 := ((((Keep.refl h []).trans ((Keep.refl h []).ext E1) all0).trans ((Keep.refl h1 []).ext E2) all0).trans ((Keep.refl h2 []).ext E3) all0)
  have F9 := F_field.keep K8 nin0
  have K10 := ((((Keep.refl h []).trans ((Keep.refl h []).ext E1) all0).trans ((Keep.refl h1 []).ext E2) all0).trans ((Keep.refl h2 []).ext E3) all0)
  have F11 := F_value.keep K10 nin0
  obtain ⟨h12, W12, R⟩ := R.putF (pc' := 30) (ty := (.object "java/lang/String")) (host := "") (Or.inl (own_w59 hw)) Via.refl F7 F5 (Or.inr ⟨(own_w60 hw), rfl, hnm⟩) (own_w35 hw) (by decide) rfl rfl ha own_d9_27 rfl
  have F12 := F7.same W12
  have F13 := F9.other W12 (Or.inr (slot_ne (Or.inr (own_w62 hw)) (Or.inr (own_w60 hw)) (by decide) (t := (.object "java/lang/String")) (t' := (.object "java/lang/String")) (by decide) (by decide)))
  have F14 := F11.other W12 (Or.inr (slot_ne (Or.inr (own_w64 hw)) (Or.inr (own_w60 hw)) (by decide) (t := (.object "java/util/Optional")) (t' := (.object "java/lang/String")) (by decide) (by decide)))
  replace R := R.aloadN (pc' := 31) (v := (.ref a)) own_d9_30 rfl rfl rfl
  replace R := R.aloadN (pc' := 32) (v := (.ref f)) own_d9_31 rfl rfl rfl
  have K15 := ((Keep.refl h3 [a]).trans (Keep.of_wr W12) (allS (Or.inl (List.mem_of_getElem? (i := 0) rfl)) all0))
  have F16 := F5.keep K15
  obtain ⟨h17, W17, R⟩ := R.putF (pc' := 35) (ty := (.object "java/lang/String")) (host := "") (Or.inl (own_w61 hw)) Via.refl F13 F16 (Or.inr ⟨(own_w62 hw), rfl, hnm⟩) (own_w35 hw) (by decide) rfl rfl ha own_d9_32 rfl
  have F17 := F13.same W17
  have F18 := F12.other W17 (Or.inr (slot_ne (Or.inr (own_w60 hw)) (Or.inr (own_w62 hw)) (by decide) (t := (.object "java/lang/String")) (t' := (.object "java/lang/String")) (by decide) (by decide)))
  have F19 := F14.other W17 (Or.inr (slot_ne (Or.inr (own_w64 hw)) (Or.inr (own_w62 hw)) (by decide) (t := (.object "java/util/Optional")) (t' := (.object "java/lang/String")) (by decide) (by decide)))
  replace R := R.aloadN (pc' := 36) (v := (.ref a)) own_d9_35 rfl rfl rfl
  replace R := R.aloadN (pc' := 37) (v := (.ref o)) own_d9_36 rfl rfl rfl
  have K20 := ((Keep.refl h12 [a]).trans (Keep.of_wr W17) (allS (Or.inl (List.mem_of_getElem? (i := 0) rfl)) all0))
  have F21 := F16.keep K20
  obtain ⟨h22, W22, R⟩ := R.putF (pc' := 40) (ty := (.object "java/util/Optional")) (host := "") (Or.inl (own_w63 hw)) Via.refl F19 F21 (Or.inr ⟨(own_w64 hw), rfl, hnm⟩) (own_w35 hw) (by decide) rfl rfl ha own_d9_37 rfl
  have F22 := F19.same W22
  have F23 := F18.other W22 (Or.inr (slot_ne (Or.inr (own_w60 hw)) (Or.inr (own_w64 hw)) (by decide) (t := (.object "java/lang/String")) (t' := (.object "java/util/Optional")) (by decide) (by decide)))
  have F24 := F17.other W22 (Or.inr (slot_ne (Or.inr (own_w62 hw)) (Or.inr (own_w64 hw)) (by decide) (t := (.object "java/lang/String")) (t' := (.object "java/util/Optional")) (by decide) (by decide)))
  have hK := (((((((Keep.refl h [a]).trans ((Keep.refl h []).ext E1) all0).trans ((Keep.refl h1 []).ext E2) all0).trans ((Keep.refl h2 []).ext E3) all0).trans (Keep.of_wr W12) (allS (Or.inl (List.mem_of_getElem? (i := 0) rfl)) all0)).trans (Keep.of_wr W17) (allS (Or.inl (List.mem_of_getElem? (i := 0) rfl)) all0)).trans (Keep.of_wr W22) (allS (Or.inl (List.mem_of_getElem? (i := 0) rfl)) all0))
  have K25 := ((Keep.refl h17 [a]).trans (Keep.of_wr W22) (allS (Or.inl (List.mem_of_getElem? (i := 0) rfl)) all0))
  have F26 := F21.keep K25
  exact R.retV (Ds' := Ds) hret own_d9_40 (by decide) (by decide) (fun _ q => q) ⟨rfl, hK, F26, F23, F24, F22, rfl⟩
set_option maxRecDepth 65536 in
set_option maxHeartbeats 4000000 in
theorem rm_col (l : Launch) (Z : State) (a0 : Array Value) (hw : ∀ d ∈ tables_1, d.before a0 Z = true) (c f : Addr) (h : Heap) (n0 : Nat) (Ds : List Addr) {eO : Addr} (S_EMPTY : Sta Z Z.heap "java/util/Optional" "EMPTY" "Ljava/util/Optional;" (.ref eO)) :
    Ctr l Z (⟨"com/example/rein/rein/policy/Rule$Target", "column", "(Ljava/lang/String;Ljava/lang/String;)Lcom/example/rein/rein/policy/Rule$Target;"⟩ : MethodName) prog_32_method_2_code 2 (some (.object "com/example/rein/rein/policy/Rule$Target")) [] ({ frames := 3, cells := 7, slots := 95, locals := 40 } : Room) #[.ref c, .ref f] h n0 Ds (fun v h' Ds' => ∃ r : Addr, v = some (.ref r) ∧ Keep h h' [] ∧ Exa Z h' r "com/example/rein/rein/policy/Rule$Target" ∧ Fld Z h' r "com/example/rein/rein/policy/Rule$Target" "collection" "Ljava/lang/String;" (.ref c) ∧ Fld Z h' r "com/example/rein/rein/policy/Rule$Target" "field" "Ljava/lang/String;" (.ref f) ∧ Fld Z h' r "com/example/rein/rein/policy/Rule$Target" "value" "Ljava/util/Optional;" (.ref eO) ∧ Ds = Ds') := by
  refine ctr_of (Ls := #[.val (.ref c), .val (.ref f)]) (plainFor_of_name own_pn7) (fun m => by first | (simp [entryFrame, mkF, argsToLocals, Value.category]; done) | rfl) ?_
  intro C hl hret hnm R
  subst hl
  obtain ⟨h1, b1, g1, E1, X1, D1, R⟩ := R.newO (pc' := 3) (own_w34 hw) (own_w35 hw) (own_w32 hw) own_d7_0 (by decide) (by decide) rfl
  have F1_collection : Fld Z h1 b1 "com/example/rein/rein/policy/Rule$Target" "collection" "Ljava/lang/String;" .null := D1 (Or.inr (own_w60 hw)) (ty := (.object "java/lang/String")) (by decide)
  have F1_field : Fld Z h1 b1 "com/example/rein/rein/policy/Rule$Target" "field" "Ljava/lang/String;" .null := D1 (Or.inr (own_w62 hw)) (ty := (.object "java/lang/String")) (by decide)
  have F1_value : Fld Z h1 b1 "com/example/rein/rein/policy/Rule$Target" "value" "Ljava/util/Optional;" .null := D1 (Or.inr (own_w64 hw)) (ty := (.object "java/util/Optional")) (by decide)
  replace R := R.dup (pc' := 4) own_d7_3 rfl rfl
  replace R := R.aloadN (pc' := 5) (v := (.ref c)) own_d7_4 rfl rfl rfl
  replace R := R.aloadN (pc' := 6) (v := (.ref f)) own_d7_5 rfl rfl rfl
  obtain ⟨_, _, _, ⟨rfl, rfl, rfl⟩, R⟩ := R.callS (pc' := 9) (argsL := []) (rest := [(.ref f), (.ref c), (.ref b1), (.ref b1)]) (W := 4) (own_w36 hw) (own_w37 hw) (own_w38 hw) (own_w39 hw) (by decide) (rm_optempty C.l Z a0 hw h1 n0 (b1 :: Ds) S_EMPTY) rfl (lenOf own_pd15 rfl) rfl rfl own_d7_6 (by decide) (by decide) (by decide) (by decide) rfl
  replace R := R.mono (ce' := 1) (sl' := 3) (by decide) (by decide)
  replace R := R.stk (S' := [(.ref eO), (.ref f), (.ref c), (.ref b1), (.ref b1)]) rfl
  obtain ⟨_, h2, _, ⟨rfl, K2, X2, F2_collection, F2_field, F2_value, rfl⟩, R⟩ := R.callI (pc' := 12) (a := b1) (argsL := [(.ref c), (.ref f), (.ref eO)]) (rest := [(.ref b1)]) (W := 1) rfl (own_w41 hw) (own_w42 hw) (own_w32 hw) (own_w43 hw) (by decide) (rm_ti C.l Z a0 hw b1 c f eO h1 n0 (b1 :: Ds) (List.mem_of_getElem? (i := 0) rfl) X1 F1_collection F1_field F1_value) rfl (lenOf own_pd18 rfl) rfl rfl own_d7_9 (by decide) (by decide) (by decide) (by decide) rfl
  replace R := R.mono (ce' := 7) (sl' := 95) (by decide) (by decide)
  replace R := R.stk (S' := [(.ref b1)]) rfl
  have hK := (((Keep.refl h []).trans ((Keep.refl h []).ext E1) all0).trans K2 (allS (Or.inr (by rw [g1]; exact (Nat.le_refl _))) all0))
  exact R.retA (Ds' := Ds) hret rfl rfl rfl own_d7_12 (by decide) (by decide) (fun _ q => (fun q => (List.mem_cons_of_mem _ q)) q) ⟨b1, rfl, hK, X2, F2_collection, F2_field, F2_value, rfl⟩
set_option maxRecDepth 65536 in
set_option maxHeartbeats 4000000 in
theorem rm_get_collection (l : Launch) (Z : State) (a0 : Array Value) (hw : ∀ d ∈ tables_1, d.before a0 Z = true) (a c : Addr) (h : Heap) (n0 : Nat) (Ds : List Addr) (F_1 : Fld Z h a "com/example/rein/rein/policy/Rule$Target" "collection" "Ljava/lang/String;" (.ref c)) :
    Ctr l Z (⟨"com/example/rein/rein/policy/Rule$Target", "collection", "()Ljava/lang/String;"⟩ : MethodName) prog_32_method_7_code 1 (some (.object "java/lang/String")) [] ({ frames := 0, cells := 0, slots := 0, locals := 0 } : Room) #[.ref a] h n0 Ds (fun v h' Ds' => v = some (.ref c) ∧ h = h' ∧ Ds = Ds') := by
  refine ctr_of (Ls := #[.val (.ref a)]) (plainFor_of_name own_pn7) (fun m => by first | (simp [entryFrame, mkF, argsToLocals, Value.category]; done) | rfl) ?_
  intro C hl hret hnm R
  subst hl
  replace R := R.aloadN (pc' := 1) (v := (.ref a)) own_d12_0 rfl rfl rfl
  replace R := R.getF (pc' := 4) (host := "") (Or.inl (own_w59 hw)) Via.refl F_1 own_d12_1 rfl
  exact R.retA (Ds' := Ds) hret rfl rfl rfl own_d12_4 (by decide) (by decide) (fun _ q => q) ⟨rfl, rfl, rfl⟩
set_option maxRecDepth 65536 in
set_option maxHeartbeats 4000000 in
theorem rm_get_field (l : Launch) (Z : State) (a0 : Array Value) (hw : ∀ d ∈ tables_1, d.before a0 Z = true) (a c : Addr) (h : Heap) (n0 : Nat) (Ds : List Addr) (F_1 : Fld Z h a "com/example/rein/rein/policy/Rule$Target" "field" "Ljava/lang/String;" (.ref c)) :
    Ctr l Z (⟨"com/example/rein/rein/policy/Rule$Target", "field", "()Ljava/lang/String;"⟩ : MethodName) prog_32_method_8_code 1 (some (.object "java/lang/String")) [] ({ frames := 0, cells := 0, slots := 0, locals := 0 } : Room) #[.ref a] h n0 Ds (fun v h' Ds' => v = some (.ref c) ∧ h = h' ∧ Ds = Ds') := by
  refine ctr_of (Ls := #[.val (.ref a)]) (plainFor_of_name own_pn7) (fun m => by first | (simp [entryFrame, mkF, argsToLocals, Value.category]; done) | rfl) ?_
  intro C hl hret hnm R
  subst hl
  replace R := R.aloadN (pc' := 1) (v := (.ref a)) own_d14_0 rfl rfl rfl
  replace R := R.getF (pc' := 4) (host := "") (Or.inl (own_w61 hw)) Via.refl F_1 own_d14_1 rfl
  exact R.retA (Ds' := Ds) hret rfl rfl rfl own_d14_4 (by decide) (by decide) (fun _ q => q) ⟨rfl, rfl, rfl⟩
set_option maxRecDepth 65536 in
set_option maxHeartbeats 4000000 in
theorem rm_tts (l : Launch) (Z : State) (a0 : Array Value) (hw : ∀ d ∈ tables_1, d.before a0 Z = true) (a c f : Addr) (h : Heap) (n0 : Nat) (Ds : List Addr) (own_cs : CompactOn Z) {eO : Addr} (S_EMPTY : Sta Z Z.heap "java/util/Optional" "EMPTY" "Ljava/util/Optional;" (.ref eO)) (X_eO : Exa Z h eO "java/util/Optional") (F_eO : Fld Z h eO "java/util/Optional" "value" "Ljava/lang/Object;" .null) (E_a : Exa Z h a "com/example/rein/rein/policy/Rule$Target") (F_collection : Fld Z h a "com/example/rein/rein/policy/Rule$Target" "collection" "Ljava/lang/String;" (.ref c)) (F_field : Fld Z h a "com/example/rein/rein/policy/Rule$Target" "field" "Ljava/lang/String;" (.ref f)) (F_value : Fld Z h a "com/example/rein/rein/policy/Rule$Target" "value" "Ljava/util/Optional;" (.ref eO)) {c0 c1 f0 f1 : Int32} (hc0 : ¬ c0 < 0 ∧ ¬ (255 : Int32) < c0) (hc1 : ¬ c1 < 0 ∧ ¬ (255 : Int32) < c1) (hf0 : ¬ f0 < 0 ∧ ¬ (255 : Int32) < f0) (hf1 : ¬ f1 < 0 ∧ ¬ (255 : Int32) < f1) (S_c : IsStr Z h c [c0, c1]) (S_f : IsStr Z h f [f0, f1]) :
    Ctr l Z (⟨"com/example/rein/rein/policy/Rule$Target", "toString", "()Ljava/lang/String;"⟩ : MethodName) prog_32_method_4_code 1 (some (.object "java/lang/String")) [] ({ frames := 6, cells := 9, slots := 77, locals := 3074 } : Room) #[.ref a] h n0 Ds (fun v h' Ds' => ∃ r : Addr, v = some (.ref r) ∧ Keep h h' [] ∧ IsStr Z h' r [(99 : Int32), (111 : Int32), (108 : Int32), (117 : Int32), (109 : Int32), (110 : Int32), (32 : Int32), c0, c1, (32 : Int32), f0, f1] ∧ Ds = Ds') := by
  refine ctr_ofN (Ls := #[.val (.ref a)]) (plainFor_of_name own_pn7) (fun m => by first | (simp [entryFrame, mkF, argsToLocals, Value.category]; done) | rfl) ?_
  intro C hl hret hnm hmn R
  subst hl
  replace R := R.aloadN (pc' := 1) (v := (.ref a)) own_d15_0 rfl rfl rfl
  replace R := R.getF (pc' := 4) (host := "") (Or.inl (own_w63 hw)) Via.refl F_value own_d15_1 rfl
  replace R := R.aloadN (pc' := 5) (v := (.ref a)) own_d15_4 rfl rfl rfl
  obtain ⟨h1, b1, g1, E1, R⟩ := R.lam (pc' := 10) (fi := 15) (W := 2) (vals := [.ref a]) (rest := [(.ref eO)]) hmn (own_w85 hw) (List.cons_ne_nil _ _) (by decide +kernel) (own_w88 hw) rfl rfl rfl
    (fun i t v q1 q2 => by
      match i with
      | 0 => cases Option.some.inj q1; cases Option.some.inj q2; exact ⟨rfl, rfl⟩
      | n + 1 => cases q2)
    own_d15_5 rfl (Nat.le_of_ble_eq_true rfl) (Nat.le_of_ble_eq_true rfl) (Nat.le_of_ble_eq_true rfl) rfl
  replace R := R.stk (S' := [(.ref b1), (.ref eO)]) rfl
  replace R := R.mono (ce' := 1) (sl' := 1) (Nat.le_of_ble_eq_true rfl) (Nat.le_of_ble_eq_true rfl)
  have K2 := ((Keep.refl h []).trans ((Keep.refl h []).ext E1) all0)
  have F3 := X_eO.keep K2
  have K4 := ((Keep.refl h []).trans ((Keep.refl h []).ext E1) all0)
  have F5 := F_eO.keep K4 nin0
  obtain ⟨_, _, _, ⟨rfl, rfl, rfl⟩, R⟩ := R.callV (pc' := 13) (y := (⟨"java/util/Optional", "map", "(Ljava/util/function/Function;)Ljava/util/Optional;"⟩ : MethodName)) (z := (⟨"java/util/Optional", "map", "(Ljava/util/function/Function;)Ljava/util/Optional;"⟩ : MethodName)) (argsL := [(.ref b1)]) (rest := []) (W := 0) (own_w89 hw) (own_w90 hw) (fun s' hZ' => notFace_of_selects (args := #[]) (mvT hZ' (own_w92 hw))) (own_w92 hw) (own_w91 hw) (own_w38 hw) (own_w93 hw) (by decide) F3 (rm_map C.l Z a0 hw b1 h1 n0 (b1 :: Ds) S_EMPTY F3 F5) rfl (lenOf own_pd19 rfl) rfl rfl own_d15_10 (by decide) (by decide) (by decide) (by decide) rfl
  replace R := R.mono (ce' := 1) (sl' := 1) (by decide) (by decide)
  replace R := R.stk (S' := [(.ref eO)]) rfl
  obtain ⟨h6, b6, g6, E6, X6, D6, R⟩ := R.newO (pc' := 16) (own_w105 hw) (own_w106 hw) (own_w107 hw) own_d15_13 (by decide) (by decide) rfl
  have F6_value : Fld Z h6 b6 "java/lang/AbstractStringBuilder" "value" "[B" .null := D6 (Or.inl (own_w120 hw)) (ty := (.array .byte)) (by decide)
  have F6_coder : Fld Z h6 b6 "java/lang/AbstractStringBuilder" "coder" "B" (.int (0 : Int32)) := D6 (Or.inl (own_w122 hw)) (ty := .byte) (by decide)
  have F6_count : Fld Z h6 b6 "java/lang/AbstractStringBuilder" "count" "I" (.int (0 : Int32)) := D6 (Or.inl (own_w145 hw)) (ty := .int) (by decide)
  replace R := R.dup (pc' := 17) own_d15_16 rfl rfl
  obtain ⟨_, h7, _, ⟨b7, k7, rfl, K7, g7, n7, X7, F7_value, F7_coder, F7_count, V7, rfl⟩, R⟩ := R.callI (pc' := 20) (a := b6) (argsL := []) (rest := [(.ref b6), (.ref eO)]) (W := 2) rfl (own_w108 hw) (own_w109 hw) (own_w107 hw) (own_w110 hw) (by decide) (rm_si C.l Z a0 hw b6 h6 n0 (b6 :: b1 :: Ds) own_cs (List.mem_of_getElem? (i := 0) rfl) X6 F6_value F6_coder F6_count) rfl (lenOf own_pd16 rfl) rfl rfl own_d15_17 (by decide) (by decide) (by decide) (by decide) rfl
  replace R := R.mono (ce' := 3) (sl' := 21) (by decide) (by decide)
  replace R := R.stk (S' := [(.ref b6), (.ref eO)]) rfl
  obtain ⟨h8, a8, E8, S8, N8, R⟩ := R.ldcS (pc' := 22) (n := 28) (cs := [99, 111, 108, 117, 109, 110, 32]) (by decide) (own_w123 hw) (by decide +kernel) (by decide +kernel) (by decide) own_d15_20 (by decide +kernel) (by decide) (by decide) (by decide) rfl
  have K10 := ((Keep.refl h7 []).trans ((Keep.refl h7 []).ext E8) all0)
  have F11 := V7.keep K10 nin0
  have K12 := ((Keep.refl h7 []).trans ((Keep.refl h7 []).ext E8) all0)
  have F13 := X7.keep K12
  have K14 := ((Keep.refl h7 []).trans ((Keep.refl h7 []).ext E8) all0)
  have F15 := F7_value.keep K14 nin0
  have K16 := ((Keep.refl h7 []).trans ((Keep.refl h7 []).ext E8) all0)
  have F17 := F7_coder.keep K16 nin0
  have K18 := ((Keep.refl h7 []).trans ((Keep.refl h7 []).ext E8) all0)
  have F19 := F7_count.keep K18 nin0
  obtain ⟨_, h9, _, ⟨rfl, K9, X9, F9_value, F9_coder, F9_count, V9, rfl⟩, R⟩ := R.callV (pc' := 25) (y := (⟨"java/lang/StringBuilder", "append", "(Ljava/lang/String;)Ljava/lang/StringBuilder;"⟩ : MethodName)) (z := (⟨"java/lang/StringBuilder", "append", "(Ljava/lang/String;)Ljava/lang/StringBuilder;"⟩ : MethodName)) (argsL := [(.ref a8)]) (rest := [(.ref eO)]) (W := 1) (own_w124 hw) (own_w125 hw) (fun s' hZ' => notFace_of_selects (args := #[]) (mvT hZ' (own_w127 hw))) (own_w127 hw) (own_w126 hw) (own_w107 hw) (own_w128 hw) (by decide) F13 (rm_sa_0_7 C.l Z a0 hw b6 a8 h8 n0 (b7 :: b6 :: b1 :: Ds) own_cs (vs := [(.int (0 : Int32)), (.int (0 : Int32)), (.int (0 : Int32)), (.int (0 : Int32)), (.int (0 : Int32)), (.int (0 : Int32)), (.int (0 : Int32)), (.int (0 : Int32)), (.int (0 : Int32)), (.int (0 : Int32)), (.int (0 : Int32)), (.int (0 : Int32)), (.int (0 : Int32)), (.int (0 : Int32)), (.int (0 : Int32)), (.int (0 : Int32))]) rfl (List.mem_of_getElem? (i := 0) rfl) F11 (List.mem_of_getElem? (i := 1) rfl) n7 F13 F15 F17 F19 (x0 := (99 : Int32)) (x1 := (111 : Int32)) (x2 := (108 : Int32)) (x3 := (117 : Int32)) (x4 := (109 : Int32)) (x5 := (110 : Int32)) (x6 := (32 : Int32)) S8) rfl (lenOf own_pd20 rfl) rfl rfl own_d15_22 (by decide) (by decide) (by decide) (by decide) rfl
  have V9p : Arv Z h9 b7 k7 .byte (16 : Int32) [(.int (99 : Int32).toInt8.toInt32), (.int (111 : Int32).toInt8.toInt32), (.int (108 : Int32).toInt8.toInt32), (.int (117 : Int32).toInt8.toInt32), (.int (109 : Int32).toInt8.toInt32), (.int (110 : Int32).toInt8.toInt32), (.int (32 : Int32).toInt8.toInt32), (.int (0 : Int32)), (.int (0 : Int32)), (.int (0 : Int32)), (.int (0 : Int32)), (.int (0 : Int32)), (.int (0 : Int32)), (.int (0 : Int32)), (.int (0 : Int32)), (.int (0 : Int32))] (.int 0) := V9
  replace R := R.mono (ce' := 5) (sl' := 53) (by decide) (by decide)
  replace R := R.stk (S' := [(.ref b6), (.ref eO)]) rfl
  replace R := R.aloadN (pc' := 26) (v := (.ref a)) own_d15_25 rfl rfl rfl
  have K20 := ((((((Keep.refl h []).trans ((Keep.refl h []).ext E1) all0).trans ((Keep.refl h1 []).ext E6) all0).trans K7 (allS (Or.inr (by rw [g6]; exact ((Keep.refl h []).ext E1).1)) all0)).trans ((Keep.refl h7 []).ext E8) all0).trans K9 (allS (Or.inr (by rw [g7]; exact (Nat.le_trans ((Keep.refl h []).ext E1).1 ((Keep.refl h1 []).ext E6).1))) (allS (Or.inr (by rw [g6]; exact ((Keep.refl h []).ext E1).1)) all0)))
  have F21 := F_collection.keep K20 nin0
  replace R := R.getF (pc' := 29) (host := "") (Or.inl (own_w59 hw)) Via.refl F21 own_d15_26 rfl
  have K23 := ((((((Keep.refl h []).trans ((Keep.refl h []).ext E1) all0).trans ((Keep.refl h1 []).ext E6) all0).trans K7 (allS (Or.inr (by rw [g6]; exact ((Keep.refl h []).ext E1).1)) all0)).trans ((Keep.refl h7 []).ext E8) all0).trans K9 (allS (Or.inr (by rw [g7]; exact (Nat.le_trans ((Keep.refl h []).ext E1).1 ((Keep.refl h1 []).ext E6).1))) (allS (Or.inr (by rw [g6]; exact ((Keep.refl h []).ext E1).1)) all0)))
  have F24 := S_c.keep K23 nin0 all0
  obtain ⟨_, h22, _, ⟨rfl, K22, X22, F22_value, F22_coder, F22_count, V22, rfl⟩, R⟩ := R.callV (pc' := 32) (y := (⟨"java/lang/StringBuilder", "append", "(Ljava/lang/String;)Ljava/lang/StringBuilder;"⟩ : MethodName)) (z := (⟨"java/lang/StringBuilder", "append", "(Ljava/lang/String;)Ljava/lang/StringBuilder;"⟩ : MethodName)) (argsL := [(.ref c)]) (rest := [(.ref eO)]) (W := 1) (own_w124 hw) (own_w125 hw) (fun s' hZ' => notFace_of_selects (args := #[]) (mvT hZ' (own_w127 hw))) (own_w127 hw) (own_w126 hw) (own_w107 hw) (own_w128 hw) (by decide) X9 (rm_sa_7_2 C.l Z a0 hw b6 c h9 n0 (b7 :: b6 :: b1 :: Ds) own_cs (vs := [(.int (99 : Int32).toInt8.toInt32), (.int (111 : Int32).toInt8.toInt32), (.int (108 : Int32).toInt8.toInt32), (.int (117 : Int32).toInt8.toInt32), (.int (109 : Int32).toInt8.toInt32), (.int (110 : Int32).toInt8.toInt32), (.int (32 : Int32).toInt8.toInt32), (.int (0 : Int32)), (.int (0 : Int32)), (.int (0 : Int32)), (.int (0 : Int32)), (.int (0 : Int32)), (.int (0 : Int32)), (.int (0 : Int32)), (.int (0 : Int32)), (.int (0 : Int32))]) rfl (List.mem_of_getElem? (i := 0) rfl) V9p (List.mem_of_getElem? (i := 1) rfl) n7 X9 F9_value F9_coder F9_count (x0 := c0) (x1 := c1) F24) rfl (lenOf own_pd20 rfl) rfl rfl own_d15_29 (by decide) (by decide) (by decide) (by decide) rfl
  have V22p : Arv Z h22 b7 k7 .byte (16 : Int32) [(.int (99 : Int32).toInt8.toInt32), (.int (111 : Int32).toInt8.toInt32), (.int (108 : Int32).toInt8.toInt32), (.int (117 : Int32).toInt8.toInt32), (.int (109 : Int32).toInt8.toInt32), (.int (110 : Int32).toInt8.toInt32), (.int (32 : Int32).toInt8.toInt32), (.int c0.toInt8.toInt32), (.int c1.toInt8.toInt32), (.int (0 : Int32)), (.int (0 : Int32)), (.int (0 : Int32)), (.int (0 : Int32)), (.int (0 : Int32)), (.int (0 : Int32)), (.int (0 : Int32))] (.int 0) := V22
  replace R := R.mono (ce' := 5) (sl' := 53) (by decide) (by decide)
  replace R := R.stk (S' := [(.ref b6), (.ref eO)]) rfl
  obtain ⟨h25, a25, E25, S25, N25, R⟩ := R.ldcS (pc' := 34) (n := 4) (cs := [32]) (by decide) (own_w171 hw) (by decide +kernel) (by decide +kernel) (by decide) own_d15_32 (by decide +kernel) (by decide) (by decide) (by decide) rfl
  have K27 := ((Keep.refl h22 []).trans ((Keep.refl h22 []).ext E25) all0)
  have F28 := V22p.keep K27 nin0
  have K29 := ((Keep.refl h22 []).trans ((Keep.refl h22 []).ext E25) all0)
  have F30 := X22.keep K29
  have K31 := ((Keep.refl h22 []).trans ((Keep.refl h22 []).ext E25) all0)
  have F32 := F22_value.keep K31 nin0
  have K33 := ((Keep.refl h22 []).trans ((Keep.refl h22 []).ext E25) all0)
  have F34 := F22_coder.keep K33 nin0
  have K35 := ((Keep.refl h22 []).trans ((Keep.refl h22 []).ext E25) all0)
  have F36 := F22_count.keep K35 nin0
  obtain ⟨_, h26, _, ⟨rfl, K26, X26, F26_value, F26_coder, F26_count, V26, rfl⟩, R⟩ := R.callV (pc' := 37) (y := (⟨"java/lang/StringBuilder", "append", "(Ljava/lang/String;)Ljava/lang/StringBuilder;"⟩ : MethodName)) (z := (⟨"java/lang/StringBuilder", "append", "(Ljava/lang/String;)Ljava/lang/StringBuilder;"⟩ : MethodName)) (argsL := [(.ref a25)]) (rest := [(.ref eO)]) (W := 1) (own_w124 hw) (own_w125 hw) (fun s' hZ' => notFace_of_selects (args := #[]) (mvT hZ' (own_w127 hw))) (own_w127 hw) (own_w126 hw) (own_w107 hw) (own_w128 hw) (by decide) F30 (rm_sa_9_1 C.l Z a0 hw b6 a25 h25 n0 (b7 :: b6 :: b1 :: Ds) own_cs (vs := [(.int (99 : Int32).toInt8.toInt32), (.int (111 : Int32).toInt8.toInt32), (.int (108 : Int32).toInt8.toInt32), (.int (117 : Int32).toInt8.toInt32), (.int (109 : Int32).toInt8.toInt32), (.int (110 : Int32).toInt8.toInt32), (.int (32 : Int32).toInt8.toInt32), (.int c0.toInt8.toInt32), (.int c1.toInt8.toInt32), (.int (0 : Int32)), (.int (0 : Int32)), (.int (0 : Int32)), (.int (0 : Int32)), (.int (0 : Int32)), (.int (0 : Int32)), (.int (0 : Int32))]) rfl (List.mem_of_getElem? (i := 0) rfl) F28 (List.mem_of_getElem? (i := 1) rfl) n7 F30 F32 F34 F36 (x0 := (32 : Int32)) S25) rfl (lenOf own_pd20 rfl) rfl rfl own_d15_34 (by decide) (by decide) (by decide) (by decide) rfl
  have V26p : Arv Z h26 b7 k7 .byte (16 : Int32) [(.int (99 : Int32).toInt8.toInt32), (.int (111 : Int32).toInt8.toInt32), (.int (108 : Int32).toInt8.toInt32), (.int (117 : Int32).toInt8.toInt32), (.int (109 : Int32).toInt8.toInt32), (.int (110 : Int32).toInt8.toInt32), (.int (32 : Int32).toInt8.toInt32), (.int c0.toInt8.toInt32), (.int c1.toInt8.toInt32), (.int (32 : Int32).toInt8.toInt32), (.int (0 : Int32)), (.int (0 : Int32)), (.int (0 : Int32)), (.int (0 : Int32)), (.int (0 : Int32)), (.int (0 : Int32))] (.int 0) := V26
  replace R := R.mono (ce' := 7) (sl' := 61) (by decide) (by decide)
  replace R := R.stk (S' := [(.ref b6), (.ref eO)]) rfl
  replace R := R.aloadN (pc' := 38) (v := (.ref a)) own_d15_37 rfl rfl rfl
  have K37 := (((((((((Keep.refl h []).trans ((Keep.refl h []).ext E1) all0).trans ((Keep.refl h1 []).ext E6) all0).trans K7 (allS (Or.inr (by rw [g6]; exact ((Keep.refl h []).ext E1).1)) all0)).trans ((Keep.refl h7 []).ext E8) all0).trans K9 (allS (Or.inr (by rw [g7]; exact (Nat.le_trans ((Keep.refl h []).ext E1).1 ((Keep.refl h1 []).ext E6).1))) (allS (Or.inr (by rw [g6]; exact ((Keep.refl h []).ext E1).1)) all0))).trans K22 (allS (Or.inr (by rw [g7]; exact (Nat.le_trans ((Keep.refl h []).ext E1).1 ((Keep.refl h1 []).ext E6).1))) (allS (Or.inr (by rw [g6]; exact ((Keep.refl h []).ext E1).1)) all0))).trans ((Keep.refl h22 []).ext E25) all0).trans K26 (allS (Or.inr (by rw [g7]; exact (Nat.le_trans ((Keep.refl h []).ext E1).1 ((Keep.refl h1 []).ext E6).1))) (allS (Or.inr (by rw [g6]; exact ((Keep.refl h []).ext E1).1)) all0)))
  have F38 := F_field.keep K37 nin0
  replace R := R.getF (pc' := 41) (host := "") (Or.inl (own_w61 hw)) Via.refl F38 own_d15_38 rfl
  have K40 := (((((((((Keep.refl h []).trans ((Keep.refl h []).ext E1) all0).trans ((Keep.refl h1 []).ext E6) all0).trans K7 (allS (Or.inr (by rw [g6]; exact ((Keep.refl h []).ext E1).1)) all0)).trans ((Keep.refl h7 []).ext E8) all0).trans K9 (allS (Or.inr (by rw [g7]; exact (Nat.le_trans ((Keep.refl h []).ext E1).1 ((Keep.refl h1 []).ext E6).1))) (allS (Or.inr (by rw [g6]; exact ((Keep.refl h []).ext E1).1)) all0))).trans K22 (allS (Or.inr (by rw [g7]; exact (Nat.le_trans ((Keep.refl h []).ext E1).1 ((Keep.refl h1 []).ext E6).1))) (allS (Or.inr (by rw [g6]; exact ((Keep.refl h []).ext E1).1)) all0))).trans ((Keep.refl h22 []).ext E25) all0).trans K26 (allS (Or.inr (by rw [g7]; exact (Nat.le_trans ((Keep.refl h []).ext E1).1 ((Keep.refl h1 []).ext E6).1))) (allS (Or.inr (by rw [g6]; exact ((Keep.refl h []).ext E1).1)) all0)))
  have F41 := S_f.keep K40 nin0 all0
  obtain ⟨_, h39, _, ⟨rfl, K39, X39, F39_value, F39_coder, F39_count, V39, rfl⟩, R⟩ := R.callV (pc' := 44) (y := (⟨"java/lang/StringBuilder", "append", "(Ljava/lang/String;)Ljava/lang/StringBuilder;"⟩ : MethodName)) (z := (⟨"java/lang/StringBuilder", "append", "(Ljava/lang/String;)Ljava/lang/StringBuilder;"⟩ : MethodName)) (argsL := [(.ref f)]) (rest := [(.ref eO)]) (W := 1) (own_w124 hw) (own_w125 hw) (fun s' hZ' => notFace_of_selects (args := #[]) (mvT hZ' (own_w127 hw))) (own_w127 hw) (own_w126 hw) (own_w107 hw) (own_w128 hw) (by decide) X26 (rm_sa_10_2 C.l Z a0 hw b6 f h26 n0 (b7 :: b6 :: b1 :: Ds) own_cs (vs := [(.int (99 : Int32).toInt8.toInt32), (.int (111 : Int32).toInt8.toInt32), (.int (108 : Int32).toInt8.toInt32), (.int (117 : Int32).toInt8.toInt32), (.int (109 : Int32).toInt8.toInt32), (.int (110 : Int32).toInt8.toInt32), (.int (32 : Int32).toInt8.toInt32), (.int c0.toInt8.toInt32), (.int c1.toInt8.toInt32), (.int (32 : Int32).toInt8.toInt32), (.int (0 : Int32)), (.int (0 : Int32)), (.int (0 : Int32)), (.int (0 : Int32)), (.int (0 : Int32)), (.int (0 : Int32))]) rfl (List.mem_of_getElem? (i := 0) rfl) V26p (List.mem_of_getElem? (i := 1) rfl) n7 X26 F26_value F26_coder F26_count (x0 := f0) (x1 := f1) F41) rfl (lenOf own_pd20 rfl) rfl rfl own_d15_41 (by decide) (by decide) (by decide) (by decide) rfl
  have V39p : Arv Z h39 b7 k7 .byte (16 : Int32) [(.int (99 : Int32).toInt8.toInt32), (.int (111 : Int32).toInt8.toInt32), (.int (108 : Int32).toInt8.toInt32), (.int (117 : Int32).toInt8.toInt32), (.int (109 : Int32).toInt8.toInt32), (.int (110 : Int32).toInt8.toInt32), (.int (32 : Int32).toInt8.toInt32), (.int c0.toInt8.toInt32), (.int c1.toInt8.toInt32), (.int (32 : Int32).toInt8.toInt32), (.int f0.toInt8.toInt32), (.int f1.toInt8.toInt32), (.int (0 : Int32)), (.int (0 : Int32)), (.int (0 : Int32)), (.int (0 : Int32))] (.int 0) := V39
  replace R := R.mono (ce' := 7) (sl' := 61) (by decide) (by decide)
  replace R := R.stk (S' := [(.ref b6), (.ref eO)]) rfl
  obtain ⟨_, h42, _, ⟨r42, rfl, K42, S42, rfl⟩, R⟩ := R.callV (pc' := 47) (y := (⟨"java/lang/StringBuilder", "toString", "()Ljava/lang/String;"⟩ : MethodName)) (z := (⟨"java/lang/StringBuilder", "toString", "()Ljava/lang/String;"⟩ : MethodName)) (argsL := []) (rest := [(.ref eO)]) (W := 1) (own_w172 hw) (own_w173 hw) (fun s' hZ' => notFace_of_selects (args := #[]) (mvT hZ' (own_w175 hw))) (own_w175 hw) (own_w174 hw) (own_w107 hw) (own_w176 hw) (by decide) X39 (rm_ts C.l Z a0 hw b6 h39 n0 (b7 :: b6 :: b1 :: Ds) own_cs (x0 := (99 : Int32)) (x1 := (111 : Int32)) (x2 := (108 : Int32)) (x3 := (117 : Int32)) (x4 := (109 : Int32)) (x5 := (110 : Int32)) (x6 := (32 : Int32)) (x7 := c0) (x8 := c1) (x9 := (32 : Int32)) (x10 := f0) (x11 := f1) (chS ⟨by decide, by decide⟩ (chS ⟨by decide, by decide⟩ (chS ⟨by decide, by decide⟩ (chS ⟨by decide, by decide⟩ (chS ⟨by decide, by decide⟩ (chS ⟨by decide, by decide⟩ (chS ⟨by decide, by decide⟩ (chS hc0 (chS hc1 (chS ⟨by decide, by decide⟩ (chS hf0 (chS hf1 ch0)))))))))))) V39p X39 F39_value F39_coder F39_count) rfl (lenOf own_pd21 rfl) rfl rfl own_d15_44 (by decide) (by decide) (by decide) (by decide) rfl
  replace R := R.mono (ce' := 9) (sl' := 77) (by decide) (by decide)
  replace R := R.stk (S' := [(.ref r42), (.ref eO)]) rfl
  have K43 := ((((((((((Keep.refl h1 []).trans ((Keep.refl h1 []).ext E6) all0).trans K7 (allS (Or.inr (by rw [g6]; exact (Nat.le_refl _))) all0)).trans ((Keep.refl h7 []).ext E8) all0).trans K9 (allS (Or.inr (by rw [g7]; exact ((Keep.refl h1 []).ext E6).1)) (allS (Or.inr (by rw [g6]; exact (Nat.le_refl _))) all0))).trans K22 (allS (Or.inr (by rw [g7]; exact ((Keep.refl h1 []).ext E6).1)) (allS (Or.inr (by rw [g6]; exact (Nat.le_refl _))) all0))).trans ((Keep.refl h22 []).ext E25) all0).trans K26 (allS (Or.inr (by rw [g7]; exact ((Keep.refl h1 []).ext E6).1)) (allS (Or.inr (by rw [g6]; exact (Nat.le_refl _))) all0))).trans K39 (allS (Or.inr (by rw [g7]; exact ((Keep.refl h1 []).ext E6).1)) (allS (Or.inr (by rw [g6]; exact (Nat.le_refl _))) all0))).trans K42 all0)
  have F44 := F3.keep K43
  have K45 := ((((((((((Keep.refl h1 []).trans ((Keep.refl h1 []).ext E6) all0).trans K7 (allS (Or.inr (by rw [g6]; exact (Nat.le_refl _))) all0)).trans ((Keep.refl h7 []).ext E8) all0).trans K9 (allS (Or.inr (by rw [g7]; exact ((Keep.refl h1 []).ext E6).1)) (allS (Or.inr (by rw [g6]; exact (Nat.le_refl _))) all0))).trans K22 (allS (Or.inr (by rw [g7]; exact ((Keep.refl h1 []).ext E6).1)) (allS (Or.inr (by rw [g6]; exact (Nat.le_refl _))) all0))).trans ((Keep.refl h22 []).ext E25) all0).trans K26 (allS (Or.inr (by rw [g7]; exact ((Keep.refl h1 []).ext E6).1)) (allS (Or.inr (by rw [g6]; exact (Nat.le_refl _))) all0))).trans K39 (allS (Or.inr (by rw [g7]; exact ((Keep.refl h1 []).ext E6).1)) (allS (Or.inr (by rw [g6]; exact (Nat.le_refl _))) all0))).trans K42 all0)
  have F46 := F5.keep K45 nin0
  obtain ⟨_, _, _, ⟨rfl, rfl, rfl⟩, R⟩ := R.callV (pc' := 50) (y := (⟨"java/util/Optional", "orElse", "(Ljava/lang/Object;)Ljava/lang/Object;"⟩ : MethodName)) (z := (⟨"java/util/Optional", "orElse", "(Ljava/lang/Object;)Ljava/lang/Object;"⟩ : MethodName)) (argsL := [(.ref r42)]) (rest := []) (W := 0) (own_w217 hw) (own_w218 hw) (fun s' hZ' => notFace_of_selects (args := #[]) (mvT hZ' (own_w220 hw))) (own_w220 hw) (own_w219 hw) (own_w38 hw) (own_w221 hw) (by decide) F44 (rm_orE C.l Z a0 hw r42 h42 n0 (b7 :: b6 :: b1 :: Ds) S_EMPTY F44 F46) rfl (lenOf own_pd14 rfl) rfl rfl own_d15_47 (by decide) (by decide) (by decide) (by decide) rfl
  replace R := R.mono (ce' := 9) (sl' := 77) (by decide) (by decide)
  replace R := R.stk (S' := [(.ref r42)]) rfl
  replace R := R.castY (pc' := 53) (own_w222 hw) (Ins.self S42.1) own_d15_50 rfl
  have hK := (((((((((((Keep.refl h []).trans ((Keep.refl h []).ext E1) all0).trans ((Keep.refl h1 []).ext E6) all0).trans K7 (allS (Or.inr (by rw [g6]; exact ((Keep.refl h []).ext E1).1)) all0)).trans ((Keep.refl h7 []).ext E8) all0).trans K9 (allS (Or.inr (by rw [g7]; exact (Nat.le_trans ((Keep.refl h []).ext E1).1 ((Keep.refl h1 []).ext E6).1))) (allS (Or.inr (by rw [g6]; exact ((Keep.refl h []).ext E1).1)) all0))).trans K22 (allS (Or.inr (by rw [g7]; exact (Nat.le_trans ((Keep.refl h []).ext E1).1 ((Keep.refl h1 []).ext E6).1))) (allS (Or.inr (by rw [g6]; exact ((Keep.refl h []).ext E1).1)) all0))).trans ((Keep.refl h22 []).ext E25) all0).trans K26 (allS (Or.inr (by rw [g7]; exact (Nat.le_trans ((Keep.refl h []).ext E1).1 ((Keep.refl h1 []).ext E6).1))) (allS (Or.inr (by rw [g6]; exact ((Keep.refl h []).ext E1).1)) all0))).trans K39 (allS (Or.inr (by rw [g7]; exact (Nat.le_trans ((Keep.refl h []).ext E1).1 ((Keep.refl h1 []).ext E6).1))) (allS (Or.inr (by rw [g6]; exact ((Keep.refl h []).ext E1).1)) all0))).trans K42 all0)
  exact R.retA (Ds' := Ds) hret rfl rfl rfl own_d15_53 (by decide) (by decide) (fun _ q => (fun q => (List.mem_cons_of_mem _ (List.mem_cons_of_mem _ (List.mem_cons_of_mem _ q)))) q) ⟨r42, rfl, hK, S42, rfl⟩
set_option maxRecDepth 65536 in
set_option maxHeartbeats 40000000 in
theorem rm_law (l : Launch) (Z : State) (a0 : Array Value) (hw : ∀ d ∈ tables_1, d.before a0 Z = true) (i0 : Int32) (i1 : Int32) (h : Heap) (n0 : Nat) (Ds : List Addr) (own_cs : CompactOn Z) {eO : Addr} (S_EMPTY : Sta Z Z.heap "java/util/Optional" "EMPTY" "Ljava/util/Optional;" (.ref eO)) (X_eO : Exa Z Z.heap eO "java/util/Optional") (F_eO : Fld Z Z.heap eO "java/util/Optional" "value" "Ljava/lang/Object;" .null) :
    Ctr l Z x code maxLocals ret tables_1 room_1 #[(.int i0), (.int i1)] h n0 Ds (fun v h' Ds' => v = some (.int 1)) := by
  have own_hws : ∀ d ∈ StrChars.Road.words, d.before a0 Z = true := fun d hd => hw d ((by decide +kernel : ∀ d ∈ StrChars.Road.words, d ∈ tables_1) d hd)
  have own_heq : ∀ d ∈ StrChars.Road.wordsEq, d.before a0 Z = true := fun d hd => hw d ((by decide +kernel : ∀ d ∈ StrChars.Road.wordsEq, d ∈ tables_1) d hd)
  refine ctr_of (Ls := #[.val (.int i0), .val (.int i1), .unset, .unset, .unset, .unset, .unset, .unset, .unset, .unset]) (plainFor_of_name own_pn8) (fun m => by first | (simp [entryFrame, mkF, argsToLocals, Value.category, maxLocals]; done) | rfl) ?_
  intro C hl hret hnm R
  subst hl
  have hK0 := (Keep.refl Z.heap []).ext R.old.2
  replace R := R.iloadN (pc' := 1) (v := i0) at_0 rfl rfl
  replace R := R.sipush (pc' := 4) (z := (255 : Int32)) at_1 rfl rfl
  replace R := R.iand (pc' := 5) at_4 rfl
  replace R := R.i2c (pc' := 6) at_5 rfl
  replace R := R.istoreN (pc' := 7) (l' := #[.val (.int i0), .val (.int i1), .val (.int (i0 &&& (255 : Int32)).toUInt32.toUInt16.toUInt32.toInt32), .unset, .unset, .unset, .unset, .unset, .unset, .unset]) at_6 rfl rfl
  replace R := R.iloadN (pc' := 8) (v := i0) at_7 rfl rfl
  replace R := R.bipush (pc' := 10) (z := (8 : Int32)) at_8 rfl rfl
  replace R := R.iushr (pc' := 11) at_10 rfl
  replace R := R.sipush (pc' := 14) (z := (255 : Int32)) at_11 rfl rfl
  replace R := R.iand (pc' := 15) at_14 rfl
  replace R := R.i2c (pc' := 16) at_15 rfl
  replace R := R.istoreN (pc' := 17) (l' := #[.val (.int i0), .val (.int i1), .val (.int (i0 &&& (255 : Int32)).toUInt32.toUInt16.toUInt32.toInt32), .val (.int (((i0.toUInt32 >>> ((8 : Int32) &&& 31).toUInt32).toInt32) &&& (255 : Int32)).toUInt32.toUInt16.toUInt32.toInt32), .unset, .unset, .unset, .unset, .unset, .unset]) at_16 rfl rfl
  replace R := R.iloadN (pc' := 18) (v := i1) at_17 rfl rfl
  replace R := R.sipush (pc' := 21) (z := (255 : Int32)) at_18 rfl rfl
  replace R := R.iand (pc' := 22) at_21 rfl
  replace R := R.i2c (pc' := 23) at_22 rfl
  replace R := R.istore (pc' := 25) (l' := #[.val (.int i0), .val (.int i1), .val (.int (i0 &&& (255 : Int32)).toUInt32.toUInt16.toUInt32.toInt32), .val (.int (((i0.toUInt32 >>> ((8 : Int32) &&& 31).toUInt32).toInt32) &&& (255 : Int32)).toUInt32.toUInt16.toUInt32.toInt32), .val (.int (i1 &&& (255 : Int32)).toUInt32.toUInt16.toUInt32.toInt32), .unset, .unset, .unset, .unset, .unset]) at_23 rfl rfl
  replace R := R.iloadN (pc' := 26) (v := i1) at_25 rfl rfl
  replace R := R.bipush (pc' := 28) (z := (8 : Int32)) at_26 rfl rfl
  replace R := R.iushr (pc' := 29) at_28 rfl
  replace R := R.sipush (pc' := 32) (z := (255 : Int32)) at_29 rfl rfl
  replace R := R.iand (pc' := 33) at_32 rfl
  replace R := R.i2c (pc' := 34) at_33 rfl
  replace R := R.istore (pc' := 36) (l' := #[.val (.int i0), .val (.int i1), .val (.int (i0 &&& (255 : Int32)).toUInt32.toUInt16.toUInt32.toInt32), .val (.int (((i0.toUInt32 >>> ((8 : Int32) &&& 31).toUInt32).toInt32) &&& (255 : Int32)).toUInt32.toUInt16.toUInt32.toInt32), .val (.int (i1 &&& (255 : Int32)).toUInt32.toUInt16.toUInt32.toInt32), .val (.int (((i1.toUInt32 >>> ((8 : Int32) &&& 31).toUInt32).toInt32) &&& (255 : Int32)).toUInt32.toUInt16.toUInt32.toInt32), .unset, .unset, .unset, .unset]) at_34 rfl rfl
  obtain ⟨c0, e_c0⟩ : ∃ z, z = (i0 &&& (255 : Int32)).toUInt32.toUInt16.toUInt32.toInt32 := ⟨_, rfl⟩
  rw [← e_c0] at R
  have hc0 : ¬ c0 < 0 ∧ ¬ (255 : Int32) < c0 := by rw [e_c0]; exact c255 _
  obtain ⟨c1, e_c1⟩ : ∃ z, z = (((i0.toUInt32 >>> ((8 : Int32) &&& 31).toUInt32).toInt32) &&& (255 : Int32)).toUInt32.toUInt16.toUInt32.toInt32 := ⟨_, rfl⟩
  rw [← e_c1] at R
  have hc1 : ¬ c1 < 0 ∧ ¬ (255 : Int32) < c1 := by rw [e_c1]; exact c255 _
  obtain ⟨f0, e_f0⟩ : ∃ z, z = (i1 &&& (255 : Int32)).toUInt32.toUInt16.toUInt32.toInt32 := ⟨_, rfl⟩
  rw [← e_f0] at R
  have hf0 : ¬ f0 < 0 ∧ ¬ (255 : Int32) < f0 := by rw [e_f0]; exact c255 _
  obtain ⟨f1, e_f1⟩ : ∃ z, z = (((i1.toUInt32 >>> ((8 : Int32) &&& 31).toUInt32).toInt32) &&& (255 : Int32)).toUInt32.toUInt16.toUInt32.toInt32 := ⟨_, rfl⟩
  rw [← e_f1] at R
  have hf1 : ¬ f1 < 0 ∧ ¬ (255 : Int32) < f1 := by rw [e_f1]; exact c255 _
  obtain ⟨h1, b1, g1, E1, X1, D1, R⟩ := R.newO (pc' := 39) (own_w0 hw) (own_w1 hw) (own_w2 hw) at_36 (by decide) (by decide) rfl
  have F1_coder : Fld Z h1 b1 "java/lang/String" "coder" "B" (.int (0 : Int32)) := D1 (Or.inr (own_w27 hw)) (ty := .byte) (by decide)
  have F1_value : Fld Z h1 b1 "java/lang/String" "value" "[B" .null := D1 (Or.inr (own_w29 hw)) (ty := (.array .byte)) (by decide)
  replace R := R.dup (pc' := 40) at_39 rfl rfl
  replace R := R.iconst (pc' := 41) (z := (2 : Int32)) at_40 rfl rfl
  obtain ⟨h2, b2, k2, g2, E2, V2, R⟩ := R.newP (pc' := 43) (aty := .char) (cap := 2) (own_w3 hw) at_41 (by decide) (by decide) (by decide) (by decide) (by decide) rfl
  have V2p : Arv Z h2 b2 k2 .char (2 : Int32) [(.int (0 : Int32)), (.int (0 : Int32))] (.int (0 : Int32)) := V2.pad (pad_rep [] (.int (0 : Int32)) 2)
  replace R := R.dup (pc' := 44) at_43 rfl rfl
  replace R := R.iconst (pc' := 45) (z := (0 : Int32)) at_44 rfl rfl
  replace R := R.iloadN (pc' := 46) (v := c0) at_45 rfl rfl
  obtain ⟨h3, K3, V3, R⟩ := R.castore (pc' := 47) V2p ⟨by decide, by decide⟩ 0 rfl (Nat.le_of_ble_eq_true rfl) (List.mem_of_getElem? (i := 0) rfl) at_46 rfl
  have V3p : Arv Z h3 b2 k2 .char (2 : Int32) [(.int c0), (.int (0 : Int32))] (.int (0 : Int32)) := by
    have q := V3
    rw [nar_of hc0] at q
    exact q
  replace R := R.dup (pc' := 48) at_47 rfl rfl
  replace R := R.iconst (pc' := 49) (z := (1 : Int32)) at_48 rfl rfl
  replace R := R.iloadN (pc' := 50) (v := c1) at_49 rfl rfl
  obtain ⟨h4, K4, V4, R⟩ := R.castore (pc' := 51) V3p ⟨by decide, by decide⟩ 1 rfl (Nat.le_of_ble_eq_true rfl) (List.mem_of_getElem? (i := 0) rfl) at_50 rfl
  have V4p : Arv Z h4 b2 k2 .char (2 : Int32) [(.int c0), (.int c1)] (.int (0 : Int32)) := by
    have q := V4
    rw [nar_of hc1] at q
    exact q
  have K5 := ((((Keep.refl h1 []).trans ((Keep.refl h1 []).ext E2) all0).trans K3 (allS (Or.inr (by rw [g2]; exact (Nat.le_refl _))) all0)).trans K4 (allS (Or.inr (by rw [g2]; exact (Nat.le_refl _))) all0))
  have F6 := X1.keep K5
  have K7 := ((((Keep.refl h1 []).trans ((Keep.refl h1 []).ext E2) all0).trans K3 (allS (Or.inr (by rw [g2]; exact (Nat.le_refl _))) all0)).trans K4 (allS (Or.inr (by rw [g2]; exact (Nat.le_refl _))) all0))
  have F8 := F1_value.keep K7 nin0
  have K9 := ((((Keep.refl h1 []).trans ((Keep.refl h1 []).ext E2) all0).trans K3 (allS (Or.inr (by rw [g2]; exact (Nat.le_refl _))) all0)).trans K4 (allS (Or.inr (by rw [g2]; exact (Nat.le_refl _))) all0))
  have F10 := F1_coder.keep K9 nin0
  obtain ⟨h11, K11, S11, R⟩ := R.newStr (pc' := 54) (W := 1) (cs := [c0, c1]) own_hws (own_w1 hw) (own_w4 hw) (own_w5 hw) own_cs F6 F8 F10 V4p rfl (Nat.le_of_ble_eq_true rfl) (Nat.le_of_ble_eq_true rfl) (chS hc0 (chS hc1 ch0)) (List.mem_of_getElem? (i := 1) rfl) rfl rfl at_51 (by decide) (by decide) (by decide) (Nat.le_of_ble_eq_true rfl) rfl
  replace R := R.mono (ce' := 3) (sl' := 8) (Nat.le_of_ble_eq_true rfl) (Nat.le_of_ble_eq_true rfl)
  replace R := R.astore (pc' := 56) (l' := #[.val (.int i0), .val (.int i1), .val (.int c0), .val (.int c1), .val (.int f0), .val (.int f1), .val (.ref b1), .unset, .unset, .unset]) at_54 rfl rfl rfl
  obtain ⟨h12, b12, g12, E12, X12, D12, R⟩ := R.newO (pc' := 59) (own_w0 hw) (own_w1 hw) (own_w2 hw) at_56 (by decide) (by decide) rfl
  have F12_coder : Fld Z h12 b12 "java/lang/String" "coder" "B" (.int (0 : Int32)) := D12 (Or.inr (own_w27 hw)) (ty := .byte) (by decide)
  have F12_value : Fld Z h12 b12 "java/lang/String" "value" "[B" .null := D12 (Or.inr (own_w29 hw)) (ty := (.array .byte)) (by decide)
  replace R := R.dup (pc' := 60) at_59 rfl rfl
  replace R := R.iconst (pc' := 61) (z := (2 : Int32)) at_60 rfl rfl
  obtain ⟨h13, b13, k13, g13, E13, V13, R⟩ := R.newP (pc' := 63) (aty := .char) (cap := 2) (own_w3 hw) at_61 (by decide) (by decide) (by decide) (by decide) (by decide) rfl
  have V13p : Arv Z h13 b13 k13 .char (2 : Int32) [(.int (0 : Int32)), (.int (0 : Int32))] (.int (0 : Int32)) := V13.pad (pad_rep [] (.int (0 : Int32)) 2)
  replace R := R.dup (pc' := 64) at_63 rfl rfl
  replace R := R.iconst (pc' := 65) (z := (0 : Int32)) at_64 rfl rfl
  replace R := R.iload (pc' := 67) (v := f0) at_65 rfl rfl
  obtain ⟨h14, K14, V14, R⟩ := R.castore (pc' := 68) V13p ⟨by decide, by decide⟩ 0 rfl (Nat.le_of_ble_eq_true rfl) (List.mem_of_getElem? (i := 0) rfl) at_67 rfl
  have V14p : Arv Z h14 b13 k13 .char (2 : Int32) [(.int f0), (.int (0 : Int32))] (.int (0 : Int32)) := by
    have q := V14
    rw [nar_of hf0] at q
    exact q
  replace R := R.dup (pc' := 69) at_68 rfl rfl
  replace R := R.iconst (pc' := 70) (z := (1 : Int32)) at_69 rfl rfl
  replace R := R.iload (pc' := 72) (v := f1) at_70 rfl rfl
  obtain ⟨h15, K15, V15, R⟩ := R.castore (pc' := 73) V14p ⟨by decide, by decide⟩ 1 rfl (Nat.le_of_ble_eq_true rfl) (List.mem_of_getElem? (i := 0) rfl) at_72 rfl
  have V15p : Arv Z h15 b13 k13 .char (2 : Int32) [(.int f0), (.int f1)] (.int (0 : Int32)) := by
    have q := V15
    rw [nar_of hf1] at q
    exact q
  have K16 := ((((Keep.refl h12 []).trans ((Keep.refl h12 []).ext E13) all0).trans K14 (allS (Or.inr (by rw [g13]; exact (Nat.le_refl _))) all0)).trans K15 (allS (Or.inr (by rw [g13]; exact (Nat.le_refl _))) all0))
  have F17 := X12.keep K16
  have K18 := ((((Keep.refl h12 []).trans ((Keep.refl h12 []).ext E13) all0).trans K14 (allS (Or.inr (by rw [g13]; exact (Nat.le_refl _))) all0)).trans K15 (allS (Or.inr (by rw [g13]; exact (Nat.le_refl _))) all0))
  have F19 := F12_value.keep K18 nin0
  have K20 := ((((Keep.refl h12 []).trans ((Keep.refl h12 []).ext E13) all0).trans K14 (allS (Or.inr (by rw [g13]; exact (Nat.le_refl _))) all0)).trans K15 (allS (Or.inr (by rw [g13]; exact (Nat.le_refl _))) all0))
  have F21 := F12_coder.keep K20 nin0
  obtain ⟨h22, K22, S22, R⟩ := R.newStr (pc' := 76) (W := 1) (cs := [f0, f1]) own_hws (own_w1 hw) (own_w4 hw) (own_w5 hw) own_cs F17 F19 F21 V15p rfl (Nat.le_of_ble_eq_true rfl) (Nat.le_of_ble_eq_true rfl) (chS hf0 (chS hf1 ch0)) (List.mem_of_getElem? (i := 1) rfl) rfl rfl at_73 (by decide) (by decide) (by decide) (Nat.le_of_ble_eq_true rfl) rfl
  replace R := R.mono (ce' := 6) (sl' := 16) (Nat.le_of_ble_eq_true rfl) (Nat.le_of_ble_eq_true rfl)
  replace R := R.astore (pc' := 78) (l' := #[.val (.int i0), .val (.int i1), .val (.int c0), .val (.int c1), .val (.int f0), .val (.int f1), .val (.ref b1), .val (.ref b12), .unset, .unset]) at_76 rfl rfl rfl
  obtain ⟨h23, b23, g23, E23, X23, D23, R⟩ := R.newO (pc' := 81) (own_w0 hw) (own_w1 hw) (own_w2 hw) at_78 (by decide) (by decide) rfl
  have F23_coder : Fld Z h23 b23 "java/lang/String" "coder" "B" (.int (0 : Int32)) := D23 (Or.inr (own_w27 hw)) (ty := .byte) (by decide)
  have F23_value : Fld Z h23 b23 "java/lang/String" "value" "[B" .null := D23 (Or.inr (own_w29 hw)) (ty := (.array .byte)) (by decide)
  replace R := R.dup (pc' := 82) at_81 rfl rfl
  replace R := R.bipush (pc' := 84) (z := (12 : Int32)) at_82 rfl rfl
  obtain ⟨h24, b24, k24, g24, E24, V24, R⟩ := R.newP (pc' := 86) (aty := .char) (cap := 12) (own_w3 hw) at_84 (by decide) (by decide) (by decide) (by decide) (by decide) rfl
  have V24p : Arv Z h24 b24 k24 .char (12 : Int32) [(.int (0 : Int32)), (.int (0 : Int32)), (.int (0 : Int32)), (.int (0 : Int32)), (.int (0 : Int32)), (.int (0 : Int32)), (.int (0 : Int32)), (.int (0 : Int32)), (.int (0 : Int32)), (.int (0 : Int32)), (.int (0 : Int32)), (.int (0 : Int32))] (.int (0 : Int32)) := V24.pad (pad_rep [] (.int (0 : Int32)) 12)
  replace R := R.dup (pc' := 87) at_86 rfl rfl
  replace R := R.iconst (pc' := 88) (z := (0 : Int32)) at_87 rfl rfl
  replace R := R.bipush (pc' := 90) (z := (99 : Int32)) at_88 rfl rfl
  obtain ⟨h25, K25, V25, R⟩ := R.castore (pc' := 91) V24p ⟨by decide, by decide⟩ 0 rfl (Nat.le_of_ble_eq_true rfl) (List.mem_of_getElem? (i := 0) rfl) at_90 rfl
  have V25p : Arv Z h25 b24 k24 .char (12 : Int32) [(.int (99 : Int32)), (.int (0 : Int32)), (.int (0 : Int32)), (.int (0 : Int32)), (.int (0 : Int32)), (.int (0 : Int32)), (.int (0 : Int32)), (.int (0 : Int32)), (.int (0 : Int32)), (.int (0 : Int32)), (.int (0 : Int32)), (.int (0 : Int32))] (.int (0 : Int32)) := by
    have q := V25
    rw [(rfl : nar .char (99 : Int32) = (99 : Int32))] at q
    exact q
  replace R := R.dup (pc' := 92) at_91 rfl rfl
  replace R := R.iconst (pc' := 93) (z := (1 : Int32)) at_92 rfl rfl
  replace R := R.bipush (pc' := 95) (z := (111 : Int32)) at_93 rfl rfl
  obtain ⟨h26, K26, V26, R⟩ := R.castore (pc' := 96) V25p ⟨by decide, by decide⟩ 1 rfl (Nat.le_of_ble_eq_true rfl) (List.mem_of_getElem? (i := 0) rfl) at_95 rfl
  have V26p : Arv Z h26 b24 k24 .char (12 : Int32) [(.int (99 : Int32)), (.int (111 : Int32)), (.int (0 : Int32)), (.int (0 : Int32)), (.int (0 : Int32)), (.int (0 : Int32)), (.int (0 : Int32)), (.int (0 : Int32)), (.int (0 : Int32)), (.int (0 : Int32)), (.int (0 : Int32)), (.int (0 : Int32))] (.int (0 : Int32)) := by
    have q := V26
    rw [(rfl : nar .char (111 : Int32) = (111 : Int32))] at q
    exact q
  replace R := R.dup (pc' := 97) at_96 rfl rfl
  replace R := R.iconst (pc' := 98) (z := (2 : Int32)) at_97 rfl rfl
  replace R := R.bipush (pc' := 100) (z := (108 : Int32)) at_98 rfl rfl
  obtain ⟨h27, K27, V27, R⟩ := R.castore (pc' := 101) V26p ⟨by decide, by decide⟩ 2 rfl (Nat.le_of_ble_eq_true rfl) (List.mem_of_getElem? (i := 0) rfl) at_100 rfl
  have V27p : Arv Z h27 b24 k24 .char (12 : Int32) [(.int (99 : Int32)), (.int (111 : Int32)), (.int (108 : Int32)), (.int (0 : Int32)), (.int (0 : Int32)), (.int (0 : Int32)), (.int (0 : Int32)), (.int (0 : Int32)), (.int (0 : Int32)), (.int (0 : Int32)), (.int (0 : Int32)), (.int (0 : Int32))] (.int (0 : Int32)) := by
    have q := V27
    rw [(rfl : nar .char (108 : Int32) = (108 : Int32))] at q
    exact q
  replace R := R.dup (pc' := 102) at_101 rfl rfl
  replace R := R.iconst (pc' := 103) (z := (3 : Int32)) at_102 rfl rfl
  replace R := R.bipush (pc' := 105) (z := (117 : Int32)) at_103 rfl rfl
  obtain ⟨h28, K28, V28, R⟩ := R.castore (pc' := 106) V27p ⟨by decide, by decide⟩ 3 rfl (Nat.le_of_ble_eq_true rfl) (List.mem_of_getElem? (i := 0) rfl) at_105 rfl
  have V28p : Arv Z h28 b24 k24 .char (12 : Int32) [(.int (99 : Int32)), (.int (111 : Int32)), (.int (108 : Int32)), (.int (117 : Int32)), (.int (0 : Int32)), (.int (0 : Int32)), (.int (0 : Int32)), (.int (0 : Int32)), (.int (0 : Int32)), (.int (0 : Int32)), (.int (0 : Int32)), (.int (0 : Int32))] (.int (0 : Int32)) := by
    have q := V28
    rw [(rfl : nar .char (117 : Int32) = (117 : Int32))] at q
    exact q
  replace R := R.dup (pc' := 107) at_106 rfl rfl
  replace R := R.iconst (pc' := 108) (z := (4 : Int32)) at_107 rfl rfl
  replace R := R.bipush (pc' := 110) (z := (109 : Int32)) at_108 rfl rfl
  obtain ⟨h29, K29, V29, R⟩ := R.castore (pc' := 111) V28p ⟨by decide, by decide⟩ 4 rfl (Nat.le_of_ble_eq_true rfl) (List.mem_of_getElem? (i := 0) rfl) at_110 rfl
  have V29p : Arv Z h29 b24 k24 .char (12 : Int32) [(.int (99 : Int32)), (.int (111 : Int32)), (.int (108 : Int32)), (.int (117 : Int32)), (.int (109 : Int32)), (.int (0 : Int32)), (.int (0 : Int32)), (.int (0 : Int32)), (.int (0 : Int32)), (.int (0 : Int32)), (.int (0 : Int32)), (.int (0 : Int32))] (.int (0 : Int32)) := by
    have q := V29
    rw [(rfl : nar .char (109 : Int32) = (109 : Int32))] at q
    exact q
  replace R := R.dup (pc' := 112) at_111 rfl rfl
  replace R := R.iconst (pc' := 113) (z := (5 : Int32)) at_112 rfl rfl
  replace R := R.bipush (pc' := 115) (z := (110 : Int32)) at_113 rfl rfl
  obtain ⟨h30, K30, V30, R⟩ := R.castore (pc' := 116) V29p ⟨by decide, by decide⟩ 5 rfl (Nat.le_of_ble_eq_true rfl) (List.mem_of_getElem? (i := 0) rfl) at_115 rfl
  have V30p : Arv Z h30 b24 k24 .char (12 : Int32) [(.int (99 : Int32)), (.int (111 : Int32)), (.int (108 : Int32)), (.int (117 : Int32)), (.int (109 : Int32)), (.int (110 : Int32)), (.int (0 : Int32)), (.int (0 : Int32)), (.int (0 : Int32)), (.int (0 : Int32)), (.int (0 : Int32)), (.int (0 : Int32))] (.int (0 : Int32)) := by
    have q := V30
    rw [(rfl : nar .char (110 : Int32) = (110 : Int32))] at q
    exact q
  replace R := R.dup (pc' := 117) at_116 rfl rfl
  replace R := R.bipush (pc' := 119) (z := (6 : Int32)) at_117 rfl rfl
  replace R := R.bipush (pc' := 121) (z := (32 : Int32)) at_119 rfl rfl
  obtain ⟨h31, K31, V31, R⟩ := R.castore (pc' := 122) V30p ⟨by decide, by decide⟩ 6 rfl (Nat.le_of_ble_eq_true rfl) (List.mem_of_getElem? (i := 0) rfl) at_121 rfl
  have V31p : Arv Z h31 b24 k24 .char (12 : Int32) [(.int (99 : Int32)), (.int (111 : Int32)), (.int (108 : Int32)), (.int (117 : Int32)), (.int (109 : Int32)), (.int (110 : Int32)), (.int (32 : Int32)), (.int (0 : Int32)), (.int (0 : Int32)), (.int (0 : Int32)), (.int (0 : Int32)), (.int (0 : Int32))] (.int (0 : Int32)) := by
    have q := V31
    rw [(rfl : nar .char (32 : Int32) = (32 : Int32))] at q
    exact q
  replace R := R.dup (pc' := 123) at_122 rfl rfl
  replace R := R.bipush (pc' := 125) (z := (7 : Int32)) at_123 rfl rfl
  replace R := R.iloadN (pc' := 126) (v := c0) at_125 rfl rfl
  obtain ⟨h32, K32, V32, R⟩ := R.castore (pc' := 127) V31p ⟨by decide, by decide⟩ 7 rfl (Nat.le_of_ble_eq_true rfl) (List.mem_of_getElem? (i := 0) rfl) at_126 rfl
  have V32p : Arv Z h32 b24 k24 .char (12 : Int32) [(.int (99 : Int32)), (.int (111 : Int32)), (.int (108 : Int32)), (.int (117 : Int32)), (.int (109 : Int32)), (.int (110 : Int32)), (.int (32 : Int32)), (.int c0), (.int (0 : Int32)), (.int (0 : Int32)), (.int (0 : Int32)), (.int (0 : Int32))] (.int (0 : Int32)) := by
    have q := V32
    rw [nar_of hc0] at q
    exact q
  replace R := R.dup (pc' := 128) at_127 rfl rfl
  replace R := R.bipush (pc' := 130) (z := (8 : Int32)) at_128 rfl rfl
  replace R := R.iloadN (pc' := 131) (v := c1) at_130 rfl rfl
  obtain ⟨h33, K33, V33, R⟩ := R.castore (pc' := 132) V32p ⟨by decide, by decide⟩ 8 rfl (Nat.le_of_ble_eq_true rfl) (List.mem_of_getElem? (i := 0) rfl) at_131 rfl
  have V33p : Arv Z h33 b24 k24 .char (12 : Int32) [(.int (99 : Int32)), (.int (111 : Int32)), (.int (108 : Int32)), (.int (117 : Int32)), (.int (109 : Int32)), (.int (110 : Int32)), (.int (32 : Int32)), (.int c0), (.int c1), (.int (0 : Int32)), (.int (0 : Int32)), (.int (0 : Int32))] (.int (0 : Int32)) := by
    have q := V33
    rw [nar_of hc1] at q
    exact q
  replace R := R.dup (pc' := 133) at_132 rfl rfl
  replace R := R.bipush (pc' := 135) (z := (9 : Int32)) at_133 rfl rfl
  replace R := R.bipush (pc' := 137) (z := (32 : Int32)) at_135 rfl rfl
  obtain ⟨h34, K34, V34, R⟩ := R.castore (pc' := 138) V33p ⟨by decide, by decide⟩ 9 rfl (Nat.le_of_ble_eq_true rfl) (List.mem_of_getElem? (i := 0) rfl) at_137 rfl
  have V34p : Arv Z h34 b24 k24 .char (12 : Int32) [(.int (99 : Int32)), (.int (111 : Int32)), (.int (108 : Int32)), (.int (117 : Int32)), (.int (109 : Int32)), (.int (110 : Int32)), (.int (32 : Int32)), (.int c0), (.int c1), (.int (32 : Int32)), (.int (0 : Int32)), (.int (0 : Int32))] (.int (0 : Int32)) := by
    have q := V34
    rw [(rfl : nar .char (32 : Int32) = (32 : Int32))] at q
    exact q
  replace R := R.dup (pc' := 139) at_138 rfl rfl
  replace R := R.bipush (pc' := 141) (z := (10 : Int32)) at_139 rfl rfl
  replace R := R.iload (pc' := 143) (v := f0) at_141 rfl rfl
  obtain ⟨h35, K35, V35, R⟩ := R.castore (pc' := 144) V34p ⟨by decide, by decide⟩ 10 rfl (Nat.le_of_ble_eq_true rfl) (List.mem_of_getElem? (i := 0) rfl) at_143 rfl
  have V35p : Arv Z h35 b24 k24 .char (12 : Int32) [(.int (99 : Int32)), (.int (111 : Int32)), (.int (108 : Int32)), (.int (117 : Int32)), (.int (109 : Int32)), (.int (110 : Int32)), (.int (32 : Int32)), (.int c0), (.int c1), (.int (32 : Int32)), (.int f0), (.int (0 : Int32))] (.int (0 : Int32)) := by
    have q := V35
    rw [nar_of hf0] at q
    exact q
  replace R := R.dup (pc' := 145) at_144 rfl rfl
  replace R := R.bipush (pc' := 147) (z := (11 : Int32)) at_145 rfl rfl
  replace R := R.iload (pc' := 149) (v := f1) at_147 rfl rfl
  obtain ⟨h36, K36, V36, R⟩ := R.castore (pc' := 150) V35p ⟨by decide, by decide⟩ 11 rfl (Nat.le_of_ble_eq_true rfl) (List.mem_of_getElem? (i := 0) rfl) at_149 rfl
  have V36p : Arv Z h36 b24 k24 .char (12 : Int32) [(.int (99 : Int32)), (.int (111 : Int32)), (.int (108 : Int32)), (.int (117 : Int32)), (.int (109 : Int32)), (.int (110 : Int32)), (.int (32 : Int32)), (.int c0), (.int c1), (.int (32 : Int32)), (.int f0), (.int f1)] (.int (0 : Int32)) := by
    have q := V36
    rw [nar_of hf1] at q
    exact q
  have K37 := ((((((((((((((Keep.refl h23 []).trans ((Keep.refl h23 []).ext E24) all0).trans K25 (allS (Or.inr (by rw [g24]; exact (Nat.le_refl _))) all0)).trans K26 (allS (Or.inr (by rw [g24]; exact (Nat.le_refl _))) all0)).trans K27 (allS (Or.inr (by rw [g24]; exact (Nat.le_refl _))) all0)).trans K28 (allS (Or.inr (by rw [g24]; exact (Nat.le_refl _))) all0)).trans K29 (allS (Or.inr (by rw [g24]; exact (Nat.le_refl _))) all0)).trans K30 (allS (Or.inr (by rw [g24]; exact (Nat.le_refl _))) all0)).trans K31 (allS (Or.inr (by rw [g24]; exact (Nat.le_refl _))) all0)).trans K32 (allS (Or.inr (by rw [g24]; exact (Nat.le_refl _))) all0)).trans K33 (allS (Or.inr (by rw [g24]; exact (Nat.le_refl _))) all0)).trans K34 (allS (Or.inr (by rw [g24]; exact (Nat.le_refl _))) all0)).trans K35 (allS (Or.inr (by rw [g24]; exact (Nat.le_refl _))) all0)).trans K36 (allS (Or.inr (by rw [g24]; exact (Nat.le_refl _))) all0))
  have F38 := X23.keep K37
  have K39 := ((((((((((((((Keep.refl h23 []).trans ((Keep.refl h23 []).ext E24) all0).trans K25 (allS (Or.inr (by rw [g24]; exact (Nat.le_refl _))) all0)).trans K26 (allS (Or.inr (by rw [g24]; exact (Nat.le_refl _))) all0)).trans K27 (allS (Or.inr (by rw [g24]; exact (Nat.le_refl _))) all0)).trans K28 (allS (Or.inr (by rw [g24]; exact (Nat.le_refl _))) all0)).trans K29 (allS (Or.inr (by rw [g24]; exact (Nat.le_refl _))) all0)).trans K30 (allS (Or.inr (by rw [g24]; exact (Nat.le_refl _))) all0)).trans K31 (allS (Or.inr (by rw [g24]; exact (Nat.le_refl _))) all0)).trans K32 (allS (Or.inr (by rw [g24]; exact (Nat.le_refl _))) all0)).trans K33 (allS (Or.inr (by rw [g24]; exact (Nat.le_refl _))) all0)).trans K34 (allS (Or.inr (by rw [g24]; exact (Nat.le_refl _))) all0)).trans K35 (allS (Or.inr (by rw [g24]; exact (Nat.le_refl _))) all0)).trans K36 (allS (Or.inr (by rw [g24]; exact (Nat.le_refl _))) all0))
  have F40 := F23_value.keep K39 nin0
  have K41 := ((((((((((((((Keep.refl h23 []).trans ((Keep.refl h23 []).ext E24) all0).trans K25 (allS (Or.inr (by rw [g24]; exact (Nat.le_refl _))) all0)).trans K26 (allS (Or.inr (by rw [g24]; exact (Nat.le_refl _))) all0)).trans K27 (allS (Or.inr (by rw [g24]; exact (Nat.le_refl _))) all0)).trans K28 (allS (Or.inr (by rw [g24]; exact (Nat.le_refl _))) all0)).trans K29 (allS (Or.inr (by rw [g24]; exact (Nat.le_refl _))) all0)).trans K30 (allS (Or.inr (by rw [g24]; exact (Nat.le_refl _))) all0)).trans K31 (allS (Or.inr (by rw [g24]; exact (Nat.le_refl _))) all0)).trans K32 (allS (Or.inr (by rw [g24]; exact (Nat.le_refl _))) all0)).trans K33 (allS (Or.inr (by rw [g24]; exact (Nat.le_refl _))) all0)).trans K34 (allS (Or.inr (by rw [g24]; exact (Nat.le_refl _))) all0)).trans K35 (allS (Or.inr (by rw [g24]; exact (Nat.le_refl _))) all0)).trans K36 (allS (Or.inr (by rw [g24]; exact (Nat.le_refl _))) all0))
  have F42 := F23_coder.keep K41 nin0
  obtain ⟨h43, K43, S43, R⟩ := R.newStr (pc' := 153) (W := 1) (cs := [(99 : Int32), (111 : Int32), (108 : Int32), (117 : Int32), (109 : Int32), (110 : Int32), (32 : Int32), c0, c1, (32 : Int32), f0, f1]) own_hws (own_w1 hw) (own_w4 hw) (own_w5 hw) own_cs F38 F40 F42 V36p rfl (Nat.le_of_ble_eq_true rfl) (Nat.le_of_ble_eq_true rfl) (chS ⟨by decide, by decide⟩ (chS ⟨by decide, by decide⟩ (chS ⟨by decide, by decide⟩ (chS ⟨by decide, by decide⟩ (chS ⟨by decide, by decide⟩ (chS ⟨by decide, by decide⟩ (chS ⟨by decide, by decide⟩ (chS hc0 (chS hc1 (chS ⟨by decide, by decide⟩ (chS hf0 (chS hf1 ch0)))))))))))) (List.mem_of_getElem? (i := 1) rfl) rfl rfl at_150 (by decide) (by decide) (by decide) (Nat.le_of_ble_eq_true rfl) rfl
  replace R := R.mono (ce' := 9) (sl' := 44) (Nat.le_of_ble_eq_true rfl) (Nat.le_of_ble_eq_true rfl)
  replace R := R.astore (pc' := 155) (l' := #[.val (.int i0), .val (.int i1), .val (.int c0), .val (.int c1), .val (.int f0), .val (.int f1), .val (.ref b1), .val (.ref b12), .val (.ref b23), .unset]) at_153 rfl rfl rfl
  replace R := R.aload (pc' := 157) (v := (.ref b1)) at_155 rfl rfl rfl
  replace R := R.aload (pc' := 159) (v := (.ref b12)) at_157 rfl rfl rfl
  obtain ⟨_, h44, _, ⟨r44, rfl, K44, X44, F44_collection, F44_field, F44_value, rfl⟩, R⟩ := R.callS (pc' := 162) (argsL := [(.ref b1), (.ref b12)]) (rest := []) (W := 0) (own_w30 hw) (own_w31 hw) (own_w32 hw) (own_w33 hw) (by decide) (rm_col C.l Z a0 hw b1 b12 h43 n0 (b24 :: b23 :: b13 :: b12 :: b2 :: b1 :: Ds) S_EMPTY) rfl (lenOf own_pd22 rfl) rfl rfl at_159 (by decide) (by decide) (by decide) (by decide) rfl
  replace R := R.mono (ce' := 16) (sl' := 139) (by decide) (by decide)
  replace R := R.stk (S' := [(.ref r44)]) rfl
  replace R := R.astore (pc' := 164) (l' := #[.val (.int i0), .val (.int i1), .val (.int c0), .val (.int c1), .val (.int f0), .val (.int f1), .val (.ref b1), .val (.ref b12), .val (.ref b23), .val (.ref r44)]) at_162 rfl rfl rfl
  replace R := R.aload (pc' := 166) (v := (.ref r44)) at_164 rfl rfl rfl
  obtain ⟨_, _, _, ⟨rfl, rfl, rfl⟩, R⟩ := R.callV (pc' := 169) (y := (⟨"com/example/rein/rein/policy/Rule$Target", "collection", "()Ljava/lang/String;"⟩ : MethodName)) (z := (⟨"com/example/rein/rein/policy/Rule$Target", "collection", "()Ljava/lang/String;"⟩ : MethodName)) (argsL := []) (rest := []) (W := 0) (own_w65 hw) (own_w66 hw) (fun s' hZ' => notFace_of_selects (args := #[]) (mvT hZ' (own_w68 hw))) (own_w68 hw) (own_w67 hw) (own_w32 hw) (own_w69 hw) (by decide) X44 (rm_get_collection C.l Z a0 hw r44 b1 h44 n0 (b24 :: b23 :: b13 :: b12 :: b2 :: b1 :: Ds) F44_collection) rfl (lenOf own_pd21 rfl) rfl rfl at_166 (by decide) (by decide) (by decide) (by decide) rfl
  replace R := R.mono (ce' := 16) (sl' := 139) (by decide) (by decide)
  replace R := R.stk (S' := [(.ref b1)]) rfl
  replace R := R.aload (pc' := 171) (v := (.ref b1)) at_169 rfl rfl rfl
  have K45 := ((((((((((((((((((((((Keep.refl h11 []).trans ((Keep.refl h11 []).ext E12) all0).trans ((Keep.refl h12 []).ext E13) all0).trans K14 (allS (Or.inr (by rw [g13]; exact ((Keep.refl h11 []).ext E12).1)) all0)).trans K15 (allS (Or.inr (by rw [g13]; exact ((Keep.refl h11 []).ext E12).1)) all0)).trans K22 (allS (Or.inr (by rw [g12]; exact (Nat.le_refl _))) all0)).trans ((Keep.refl h22 []).ext E23) all0).trans ((Keep.refl h23 []).ext E24) all0).trans K25 (allS (Or.inr (by rw [g24]; exact (Nat.le_trans (Nat.le_trans (Nat.le_trans (Nat.le_trans (Nat.le_trans ((Keep.refl h11 []).ext E12).1 ((Keep.refl h12 []).ext E13).1) K14.1) K15.1) K22.1) ((Keep.refl h22 []).ext E23).1))) all0)).trans K26 (allS (Or.inr (by rw [g24]; exact (Nat.le_trans (Nat.le_trans (Nat.le_trans (Nat.le_trans (Nat.le_trans ((Keep.refl h11 []).ext E12).1 ((Keep.refl h12 []).ext E13).1) K14.1) K15.1) K22.1) ((Keep.refl h22 []).ext E23).1))) all0)).trans K27 (allS (Or.inr (by rw [g24]; exact (Nat.le_trans (Nat.le_trans (Nat.le_trans (Nat.le_trans (Nat.le_trans ((Keep.refl h11 []).ext E12).1 ((Keep.refl h12 []).ext E13).1) K14.1) K15.1) K22.1) ((Keep.refl h22 []).ext E23).1))) all0)).trans K28 (allS (Or.inr (by rw [g24]; exact (Nat.le_trans (Nat.le_trans (Nat.le_trans (Nat.le_trans (Nat.le_trans ((Keep.refl h11 []).ext E12).1 ((Keep.refl h12 []).ext E13).1) K14.1) K15.1) K22.1) ((Keep.refl h22 []).ext E23).1))) all0)).trans K29 (allS (Or.inr (by rw [g24]; exact (Nat.le_trans (Nat.le_trans (Nat.le_trans (Nat.le_trans (Nat.le_trans ((Keep.refl h11 []).ext E12).1 ((Keep.refl h12 []).ext E13).1) K14.1) K15.1) K22.1) ((Keep.refl h22 []).ext E23).1))) all0)).trans K30 (allS (Or.inr (by rw [g24]; exact (Nat.le_trans (Nat.le_trans (Nat.le_trans (Nat.le_trans (Nat.le_trans ((Keep.refl h11 []).ext E12).1 ((Keep.refl h12 []).ext E13).1) K14.1) K15.1) K22.1) ((Keep.refl h22 []).ext E23).1))) all0)).trans K31 (allS (Or.inr (by rw [g24]; exact (Nat.le_trans (Nat.le_trans (Nat.le_trans (Nat.le_trans (Nat.le_trans ((Keep.refl h11 []).ext E12).1 ((Keep.refl h12 []).ext E13).1) K14.1) K15.1) K22.1) ((Keep.refl h22 []).ext E23).1))) all0)).trans K32 (allS (Or.inr (by rw [g24]; exact (Nat.le_trans (Nat.le_trans (Nat.le_trans (Nat.le_trans (Nat.le_trans ((Keep.refl h11 []).ext E12).1 ((Keep.refl h12 []).ext E13).1) K14.1) K15.1) K22.1) ((Keep.refl h22 []).ext E23).1))) all0)).trans K33 (allS (Or.inr (by rw [g24]; exact (Nat.le_trans (Nat.le_trans (Nat.le_trans (Nat.le_trans (Nat.le_trans ((Keep.refl h11 []).ext E12).1 ((Keep.refl h12 []).ext E13).1) K14.1) K15.1) K22.1) ((Keep.refl h22 []).ext E23).1))) all0)).trans K34 (allS (Or.inr (by rw [g24]; exact (Nat.le_trans (Nat.le_trans (Nat.le_trans (Nat.le_trans (Nat.le_trans ((Keep.refl h11 []).ext E12).1 ((Keep.refl h12 []).ext E13).1) K14.1) K15.1) K22.1) ((Keep.refl h22 []).ext E23).1))) all0)).trans K35 (allS (Or.inr (by rw [g24]; exact (Nat.le_trans (Nat.le_trans (Nat.le_trans (Nat.le_trans (Nat.le_trans ((Keep.refl h11 []).ext E12).1 ((Keep.refl h12 []).ext E13).1) K14.1) K15.1) K22.1) ((Keep.refl h22 []).ext E23).1))) all0)).trans K36 (allS (Or.inr (by rw [g24]; exact (Nat.le_trans (Nat.le_trans (Nat.le_trans (Nat.le_trans (Nat.le_trans ((Keep.refl h11 []).ext E12).1 ((Keep.refl h12 []).ext E13).1) K14.1) K15.1) K22.1) ((Keep.refl h22 []).ext E23).1))) all0)).trans K43 (allS (Or.inr (by rw [g23]; exact (Nat.le_trans (Nat.le_trans (Nat.le_trans (Nat.le_trans ((Keep.refl h11 []).ext E12).1 ((Keep.refl h12 []).ext E13).1) K14.1) K15.1) K22.1))) all0)).trans K44 all0)
  have F46 := S11.keep K45 nin0 all0
  replace R := R.str_eq (pc' := 174) (W := 0) own_heq (own_w1 hw) (own_w70 hw) (own_w71 hw) (own_w73 hw) (own_w72 hw) own_cs F46 F46 rfl rfl at_171 (by decide) (by decide) (by decide) (by decide) rfl
  replace R := R.stk (S' := [(.int (if [c0, c1] = [c0, c1] then 1 else 0))]) rfl
  replace R := R.stk (congrArg (fun z => (Value.int z :: [] : List Value)) (if_pos rfl))
  replace R := R.stk (S' := [(.int (1 : Int32))]) rfl
  replace R := R.ifN (pc' := 177) at_174 (feq (by decide : ¬ ((1 : Int32) = (0 : Int32)))).1 rfl
  replace R := R.aload (pc' := 179) (v := (.ref r44)) at_177 rfl rfl rfl
  obtain ⟨_, _, _, ⟨rfl, rfl, rfl⟩, R⟩ := R.callV (pc' := 182) (y := (⟨"com/example/rein/rein/policy/Rule$Target", "field", "()Ljava/lang/String;"⟩ : MethodName)) (z := (⟨"com/example/rein/rein/policy/Rule$Target", "field", "()Ljava/lang/String;"⟩ : MethodName)) (argsL := []) (rest := []) (W := 0) (own_w75 hw) (own_w76 hw) (fun s' hZ' => notFace_of_selects (args := #[]) (mvT hZ' (own_w78 hw))) (own_w78 hw) (own_w77 hw) (own_w32 hw) (own_w79 hw) (by decide) X44 (rm_get_field C.l Z a0 hw r44 b12 h44 n0 (b24 :: b23 :: b13 :: b12 :: b2 :: b1 :: Ds) F44_field) rfl (lenOf own_pd21 rfl) rfl rfl at_179 (by decide) (by decide) (by decide) (by decide) rfl
  replace R := R.mono (ce' := 16) (sl' := 139) (by decide) (by decide)
  replace R := R.stk (S' := [(.ref b12)]) rfl
  replace R := R.aload (pc' := 184) (v := (.ref b12)) at_182 rfl rfl rfl
  have K47 := (((((((((((((((((Keep.refl h22 []).trans ((Keep.refl h22 []).ext E23) all0).trans ((Keep.refl h23 []).ext E24) all0).trans K25 (allS (Or.inr (by rw [g24]; exact ((Keep.refl h22 []).ext E23).1)) all0)).trans K26 (allS (Or.inr (by rw [g24]; exact ((Keep.refl h22 []).ext E23).1)) all0)).trans K27 (allS (Or.inr (by rw [g24]; exact ((Keep.refl h22 []).ext E23).1)) all0)).trans K28 (allS (Or.inr (by rw [g24]; exact ((Keep.refl h22 []).ext E23).1)) all0)).trans K29 (allS (Or.inr (by rw [g24]; exact ((Keep.refl h22 []).ext E23).1)) all0)).trans K30 (allS (Or.inr (by rw [g24]; exact ((Keep.refl h22 []).ext E23).1)) all0)).trans K31 (allS (Or.inr (by rw [g24]; exact ((Keep.refl h22 []).ext E23).1)) all0)).trans K32 (allS (Or.inr (by rw [g24]; exact ((Keep.refl h22 []).ext E23).1)) all0)).trans K33 (allS (Or.inr (by rw [g24]; exact ((Keep.refl h22 []).ext E23).1)) all0)).trans K34 (allS (Or.inr (by rw [g24]; exact ((Keep.refl h22 []).ext E23).1)) all0)).trans K35 (allS (Or.inr (by rw [g24]; exact ((Keep.refl h22 []).ext E23).1)) all0)).trans K36 (allS (Or.inr (by rw [g24]; exact ((Keep.refl h22 []).ext E23).1)) all0)).trans K43 (allS (Or.inr (by rw [g23]; exact (Nat.le_refl _))) all0)).trans K44 all0)
  have F48 := S22.keep K47 nin0 all0
  replace R := R.str_eq (pc' := 187) (W := 0) own_heq (own_w1 hw) (own_w70 hw) (own_w71 hw) (own_w73 hw) (own_w72 hw) own_cs F48 F48 rfl rfl at_184 (by decide) (by decide) (by decide) (by decide) rfl
  replace R := R.stk (S' := [(.int (if [f0, f1] = [f0, f1] then 1 else 0))]) rfl
  replace R := R.stk (congrArg (fun z => (Value.int z :: [] : List Value)) (if_pos rfl))
  replace R := R.stk (S' := [(.int (1 : Int32))]) rfl
  replace R := R.ifN (pc' := 190) at_187 (feq (by decide : ¬ ((1 : Int32) = (0 : Int32)))).1 rfl
  replace R := R.aload (pc' := 192) (v := (.ref r44)) at_190 rfl rfl rfl
  have K50 := (Keep.refl Z.heap []).ext R.old.2
  have F51 := X_eO.keep K50
  have K52 := (Keep.refl Z.heap []).ext R.old.2
  have F53 := F_eO.keep K52 nin0
  obtain ⟨_, h49, _, ⟨r49, rfl, K49, S49, rfl⟩, R⟩ := R.callV (pc' := 195) (y := (⟨"com/example/rein/rein/policy/Rule$Target", "toString", "()Ljava/lang/String;"⟩ : MethodName)) (z := (⟨"com/example/rein/rein/policy/Rule$Target", "toString", "()Ljava/lang/String;"⟩ : MethodName)) (argsL := []) (rest := []) (W := 0) (own_w80 hw) (own_w81 hw) (fun s' hZ' => notFace_of_selects (args := #[]) (mvT hZ' (own_w83 hw))) (own_w83 hw) (own_w82 hw) (own_w32 hw) (own_w84 hw) (by decide) X44 (rm_tts C.l Z a0 hw r44 b1 b12 h44 n0 (b24 :: b23 :: b13 :: b12 :: b2 :: b1 :: Ds) own_cs S_EMPTY F51 F53 X44 F44_collection F44_field F44_value hc0 hc1 hf0 hf1 F46 F48) rfl (lenOf own_pd21 rfl) rfl rfl at_192 (by decide) (by decide) (by decide) (by decide) rfl
  replace R := R.mono (ce' := 25) (sl' := 216) (by decide) (by decide)
  replace R := R.stk (S' := [(.ref r49)]) rfl
  replace R := R.aload (pc' := 197) (v := (.ref b23)) at_195 rfl rfl rfl
  have K54 := (((Keep.refl h43 []).trans K44 all0).trans K49 all0)
  have F55 := S43.keep K54 nin0 all0
  replace R := R.str_eq (pc' := 200) (W := 0) own_heq (own_w1 hw) (own_w70 hw) (own_w71 hw) (own_w73 hw) (own_w72 hw) own_cs F55 S49 rfl rfl at_197 (by decide) (by decide) (by decide) (by decide) rfl
  replace R := R.stk (S' := [(.int (if [(99 : Int32), (111 : Int32), (108 : Int32), (117 : Int32), (109 : Int32), (110 : Int32), (32 : Int32), c0, c1, (32 : Int32), f0, f1] = [(99 : Int32), (111 : Int32), (108 : Int32), (117 : Int32), (109 : Int32), (110 : Int32), (32 : Int32), c0, c1, (32 : Int32), f0, f1] then 1 else 0))]) rfl
  replace R := R.stk (congrArg (fun z => (Value.int z :: [] : List Value)) (if_pos rfl))
  replace R := R.stk (S' := [(.int (1 : Int32))]) rfl
  replace R := R.ifN (pc' := 203) at_200 (feq (by decide : ¬ ((1 : Int32) = (0 : Int32)))).1 rfl
  replace R := R.iconst (pc' := 204) (z := (1 : Int32)) at_203 rfl rfl
  replace R := R.goto (pc' := 208) at_204 (by decide) rfl
  exact R.retN (Ds' := []) hret (by simp) (show nar .boolean 1 = 1 from rfl) at_208 (by decide) (by decide) (fun _ q => nomatch q) rfl
set_option maxRecDepth 65536 in
set_option maxHeartbeats 40000000 in
theorem comes_1 {Post : Tables → Env → Array Value → State → Outcome → State → Prop} (hpost : ∀ tb e args s v u, (limb_1_1.after args s (.returned v) u = true ∧ limb_1_2.after args s (.returned v) u = true ∧ True) → ReturnedEndW s (.returned v) u (Jvm.fieldLocs frame_1_writes args s ++ Jvm.arrayLocs frame_1_arrays args s ++ Jvm.staticLocs frame_1_statics s) 48 5376 → Post tb e args s (.returned v) u) :
    ArmFor flags0 classFile x code maxLocals ret World_1 tables_1 room_1 Calls_1 rest_1 Pre_1 Post := by
  intro l hfl _ _ p e ha hc hk s m args below hf hA hF happ hP
  obtain ⟨hcalls, hrest, hpre⟩ := hP
  obtain ⟨-, -, -, hnamed, -, -, -, hat⟩ := (Spec.applies_iff hf).mp happ
  obtain ⟨hg, hn⟩ := and_e (Cond.before_iff.mp (show (Jvm.Cond.and given_1 narrow_1).before args s = true from hpre))
  obtain ⟨g1, g2⟩ := and_e hg
  obtain ⟨g3, g4⟩ := and_e g2
  obtain ⟨w0, w1, rfl⟩ : ∃ w0 w1 : Value, args = #[w0, w1] := by
    have hs : args.size = 2 := by simpa [Cond.value, given_1] using g1
    obtain ⟨L⟩ := args
    match L, hs with
    | [w0, w1], _ => exact ⟨w0, w1, rfl⟩
  have hw := fun d (hd : d ∈ tables_1) => atoms_spec (ws := Jvm.Cond.code x code maxLocals ret :: tables_1) hat d (List.mem_cons_of_mem _ hd)
  have hfit : Fit s := fun {y c} hc i hi => by
    obtain ⟨ha, rfl⟩ := Array.getElem?_eq_some_iff.mp hc
    have q := List.all_eq_true.mp ((Array.all_eq_true_iff_forall_mem.mp hF) _ (Array.getElem_mem ha)) i (List.mem_range.mpr hi)
    simpa [Array.getElem?_eq_getElem hi] using q
  obtain ⟨hsets, hown0⟩ := atoms_of _ (rest_1_c_eq ▸ (show rest_1_c.before _ s = true from hrest))
  have hr0 := Cond.before_iff.mp hown0
  have own_cs : CompactOn s := by
    have n3 := not_v (Cond.before_iff.mp (hsets _ (List.mem_of_getElem? (i := 2) rfl)))
    obtain ⟨i7, e6⟩ := is_v (Cond.before_iff.mp (hsets _ (List.mem_of_getElem? (i := 1) rfl)))
    refine ⟨i7, Sta.start e6 (Or.inl (hsets _ (List.mem_of_getElem? (i := 0) rfl))), fun e0 => ?_⟩
    subst e0
    have q := eq_i e6 (Term.int_eval (0 : Int32)) rfl
    rw [q] at n3; cases n3
  have own_si : SiooOk s := by
    obtain ⟨v9, e10, r11⟩ := isR_v (Cond.before_iff.mp (hsets _ (List.mem_of_getElem? (i := 8) rfl)))
    exact ⟨v9, Sta.start e10 (Or.inl (hsets _ (List.mem_of_getElem? (i := 7) rfl))), r11⟩
  obtain ⟨i0, ei0⟩ := is_v g3
  obtain rfl : w0 = (.int i0) := Option.some.inj ei0
  obtain ⟨i1, ei1⟩ := is_v g4
  obtain rfl : w1 = (.int i1) := Option.some.inj ei1
  have hcw : Jvm.Lit.compactW.before (#[(.int i0), (.int i1)] : Array Value) s = true := (hsets _ (List.mem_of_getElem? (i := 2) rfl))
  have wS : ∀ d ∈ Bundle.stringAtoms, d.before _ s = true := fun d hd => hw d ((by decide +kernel : ∀ d ∈ Bundle.stringAtoms, d ∈ tables_1) d hd)
  have hlk : Lk s := by
    intro own idx hm
    simp only [CL, consts_1, List.mem_cons, List.not_mem_nil, or_false, Prod.mk.injEq] at hm
    rcases hm with ⟨rfl, rfl⟩ | ⟨rfl, rfl⟩ | ⟨rfl, rfl⟩ | ⟨rfl, rfl⟩ | ⟨rfl, rfl⟩
    · exact ⟨_, _, (own_w50 hw), by decide +kernel, wS⟩
    · exact ⟨_, _, (own_w57 hw), by decide +kernel, wS⟩
    · exact ⟨_, _, (own_w58 hw), by decide +kernel, wS⟩
    · exact ⟨_, _, (own_w123 hw), by decide +kernel, wS⟩
    · exact ⟨_, _, (own_w171 hw), by decide +kernel, wS⟩
  have hlit : ∀ (own : String) (idx : Nat), (own, idx) ∈ CL → ConstHeldL s own idx := by
    intro own idx hm
    have hh : Jvm.Lit.constHeld s own idx := hcalls.1 (own, idx) hm
    have wi := wS _ (List.mem_of_getElem? (i := 1) rfl)
    have wa := wS _ (List.mem_of_getElem? (i := 2) rfl)
    simp only [CL, consts_1, List.mem_cons, List.not_mem_nil, or_false, Prod.mk.injEq] at hm
    rcases hm with ⟨rfl, rfl⟩ | ⟨rfl, rfl⟩ | ⟨rfl, rfl⟩ | ⟨rfl, rfl⟩ | ⟨rfl, rfl⟩
    · exact heldStart hh (own_w50 hw) (by decide +kernel) hcw wa wi
    · exact heldStart hh (own_w57 hw) (by decide +kernel) hcw wa wi
    · exact heldStart hh (own_w58 hw) (by decide +kernel) hcw wa wi
    · exact heldStart hh (own_w123 hw) (by decide +kernel) hcw wa wi
    · exact heldStart hh (own_w171 hw) (by decide +kernel) hcw wa wi
  have own_oe : ∃ eO : Addr, Sta s s.heap "java/util/Optional" "EMPTY" "Ljava/util/Optional;" (.ref eO) ∧ Exa s s.heap eO "java/util/Optional" ∧ Fld s s.heap eO "java/util/Optional" "value" "Ljava/lang/Object;" .null := by
    have h1 := Cond.before_iff.mp (hsets _ (List.mem_of_getElem? (i := 11) rfl))
    obtain ⟨x, e⟩ := exa_v h1
    exact ⟨x, Sta.start e (Or.inl (hsets _ (List.mem_of_getElem? (i := 10) rfl))), Exa.start e h1, g_fld e (null_v (Cond.before_iff.mp (hsets _ (List.mem_of_getElem? (i := 12) rfl))))⟩
  obtain ⟨eO, S_EMPTY, X_eO, F_eO⟩ := own_oe
  have J0 : JJ s s.heap.size s.vm s.heap [] := ⟨Old.start s, fun e0 => (nomatch e0), fun x hx => (nomatch hx), hlk, fun own idx hm c k cf i units a q1 q2 q3 q4 q5 q6 => own_sx0 (hlit own idx hm c k cf i units a q1 q2 q3 q4 q5 q6)⟩
  obtain ⟨n, o, h1, h2, h3, v, L, Ds', rfl, hQ, hJ, hFr, hE⟩ := rm_law l s _ hw i0 i1 s.heap s.heap.size [] own_cs S_EMPTY X_eO F_eO p e ha hc hk s m _ below hf ((Spec.applies_iff_loose hf).mp happ).1 ⟨rfl, State.Warmed39.refl s, rfl, J0⟩ trivial
  subst hQ
  refine ⟨n, _, h1, h2, h3, hpost _ _ _ _ _ _ ⟨Cond.after_iff.mpr rfl, Cond.after_iff.mpr (eq_i res_at (Term.int_eval (1)) rfl), trivial⟩ ⟨hE.1, hE.2.1, hE.2.2.1, (hE.2.2.2.sift fun y hy => Or.inr (hFr y hy)).mono (by decide) (by decide)⟩⟩
theorem main_1_1 : Claimed_1_1 := comes_1 fun _ _ _ _ _ _ h hF => ⟨h.1, hF⟩
theorem main_1_2 : Claimed_1_2 := comes_1 fun _ _ _ _ _ _ h hF => ⟨h.2.1, hF⟩
end Jvm.Pilot.@@N@@
namespace Jvm.Pilot.@@N@@
open Jvm Jvm.ClassFile Sem Op Lib Jvm.Free Jvm.Stand Jvm.Pilot.@@N@@.Jvm.D
/-! MADE BY PROGRAM (witnessworld.py) out of the Statement's table words and the real class files: 31 classes; the members and pool entries that the words name. The judged class is class 1, her method 1. -/
namespace start1
open Jvm.ClassFile
def u (s : String) : CpInfo := .utf8 (stringToUtf16 s)
/-- a pool by its gaps: so many unusable entries, then the entry; so many at the end -/
def gap : Nat → List CpInfo → List CpInfo
  | 0, r => r
  | n + 1, r => .unusable :: gap n r
def poolList (es : List (Nat × CpInfo)) (last : Nat) : List CpInfo := es.foldr (fun e r => gap e.1 (e.2 :: r)) (gap last [])
def pool (es : List (Nat × CpInfo)) (last : Nat) : Array CpInfo := ⟨poolList es last⟩
def fileOf (pool : Array CpInfo) (this : Nat) (attrs : Array Attribute := #[]) (ms : Array MethodInfo := #[]) (fl : Nat := 33) (sup : Nat := 0) (ifs : Array Nat := #[]) (fds : Array FieldInfo := #[]) : ClassFile where
  minorVersion := 0
  majorVersion := 65
  constantPool := pool
  accessFlags := fl
  thisClass := this
  superClass := sup
  interfaces := ifs
  fields := fds
  methods := ms
  attributes := attrs
def plain (name : String) (sup : Option ClassId) : Class where
  name := name
  kind := .ordinary
  loader := none
  accessFlags := 33
  super := sup
  interfaces := #[]
  cf := none
  fields := #[]
  methods := #[]
  instanceTypes := #[]
  staticTypes := #[]
  resolved := #[]
  callSites := []
  init := .initialized
  statics := none
  mirror := none

def pool0 : Array CpInfo := pool [(5, u "<init>"), (0, u "()V"), (1, .class_ 10), (1, u "java/lang/Object")] 113

def k0c0 : Code := { maxStack := 0, maxLocals := 1, code := object_method_1_code, exceptionTable := #[], attributes := #[] }
def k0m0 : Method := { name := "<init>", desc := "()V", sig := { parameters := [], returnType := none }, accessFlags := 1, code := some k0c0 }
/-- java/lang/Object -/
def k0 : Class := { plain "java/lang/Object" none with
  accessFlags := 33
  interfaces := #[]
  cf := some (fileOf pool0 8 #[] #[{ accessFlags := 1, nameIndex := 5, descriptorIndex := 6, attributes := #[] }] 33 0 #[] #[])
  fields := #[]
  methods := #[k0m0]
  instanceTypes := #[]
  staticTypes := #[]
  resolved := Array.replicate 124 none
  statics := none }

def pool1 : Array CpInfo := pool [(2, .class_ 4), (1, u "java/lang/Object"), (0, u "<init>"), (0, u "()V"), (0, .class_ 8), (0, u "java/lang/String"), (0, .methodref 7 10), (0, .nameAndType 5 11), (0, u "([C)V"), (0, .methodref 13 14), (0, .class_ 15), (0, .nameAndType 16 17), (0, u "com/example/rein/rein/policy/Rule$Target"), (0, u "column"), (0, u "(Ljava/lang/String;Ljava/lang/String;)Lcom/example/rein/rein/policy/Rule$Target;"), (0, .methodref 13 19), (0, .nameAndType 20 21), (0, u "collection"), (0, u "()Ljava/lang/String;"), (0, .methodref 7 23), (0, .nameAndType 24 25), (0, u "equals"), (0, u "(Ljava/lang/Object;)Z"), (0, .methodref 13 27), (0, .nameAndType 28 21), (0, u "field"), (0, .methodref 13 30), (0, .nameAndType 31 21), (0, u "toString"), (0, .class_ 33), (0, u "com/example/rein/rein/policy/TargetColumnPinLaw"), (2, u "law"), (0, u "(II)Z")] 7

def k1m0 : Method := { name := "<init>", desc := "()V", sig := { parameters := [], returnType := none }, accessFlags := 1, code := none }
def k1c1 : Code := { maxStack := 6, maxLocals := 10, code := code, exceptionTable := #[], attributes := #[] }
def k1m1 : Method := { name := "law", desc := "(II)Z", sig := { parameters := [.int, .int], returnType := some .boolean }, accessFlags := 9, code := some k1c1 }
/-- com/example/rein/rein/policy/TargetColumnPinLaw -/
def k1 : Class := { plain "com/example/rein/rein/policy/TargetColumnPinLaw" (some 0) with
  accessFlags := 49
  interfaces := #[]
  cf := some (fileOf pool1 32 #[] #[{ accessFlags := 1, nameIndex := 5, descriptorIndex := 6, attributes := #[] }, { accessFlags := 9, nameIndex := 36, descriptorIndex := 37, attributes := #[] }] 49 2 #[] #[])
  fields := #[]
  methods := #[k1m0, k1m1]
  instanceTypes := #[]
  staticTypes := #[]
  resolved := Array.replicate 45 none
  statics := none }

def pool2 : Array CpInfo := pool [(1, .class_ 2), (0, u "java/io/Serializable"), (0, .class_ 4), (0, u "java/lang/Object")] 2

/-- java/io/Serializable -/
def k2 : Class := { plain "java/io/Serializable" (some 0) with
  accessFlags := 1537
  interfaces := #[]
  cf := some (fileOf pool2 1 #[] #[] 1537 3 #[] #[])
  fields := #[]
  methods := #[]
  instanceTypes := #[]
  staticTypes := #[]
  resolved := Array.replicate 7 none
  statics := none }

def pool3 : Array CpInfo := pool [(1, .class_ 2), (0, u "java/lang/Comparable"), (0, .class_ 4), (0, u "java/lang/Object")] 7

/-- java/lang/Comparable -/
def k3 : Class := { plain "java/lang/Comparable" (some 0) with
  accessFlags := 1537
  interfaces := #[]
  cf := some (fileOf pool3 1 #[] #[] 1537 3 #[] #[])
  fields := #[]
  methods := #[]
  instanceTypes := #[]
  staticTypes := #[]
  resolved := Array.replicate 12 none
  statics := none }

def pool4 : Array CpInfo := pool [(2, .class_ 4), (1, u "java/lang/CharSequence"), (42, .class_ 48), (0, u "java/lang/CharSequence$1CodePointIterator"), (10, .class_ 60), (0, u "java/lang/CharSequence$1CharIterator"), (5, .class_ 67), (0, u "java/lang/Object")] 63

/-- java/lang/CharSequence -/
def k4 : Class := { plain "java/lang/CharSequence" (some 0) with
  accessFlags := 1537
  interfaces := #[]
  cf := some (fileOf pool4 2 #[.nestMembers #[47, 59]] #[] 1537 66 #[] #[])
  fields := #[]
  methods := #[]
  instanceTypes := #[]
  staticTypes := #[]
  resolved := Array.replicate 131 none
  statics := none }

def pool5 : Array CpInfo := pool [(1, .class_ 2), (0, u "java/lang/constant/Constable"), (0, .class_ 4), (0, u "java/lang/Object")] 6

/-- java/lang/constant/Constable -/
def k5 : Class := { plain "java/lang/constant/Constable" (some 0) with
  accessFlags := 1537
  interfaces := #[]
  cf := some (fileOf pool5 1 #[] #[] 1537 3 #[] #[])
  fields := #[]
  methods := #[]
  instanceTypes := #[]
  staticTypes := #[]
  resolved := Array.replicate 11 none
  statics := none }

def pool6 : Array CpInfo := pool [(1, .class_ 2), (0, u "java/lang/constant/ConstantDesc"), (0, .class_ 4), (0, u "java/lang/Object")] 32

/-- java/lang/constant/ConstantDesc -/
def k6 : Class := { plain "java/lang/constant/ConstantDesc" (some 0) with
  accessFlags := 1537
  interfaces := #[]
  cf := some (fileOf pool6 1 #[] #[] 1537 3 #[] #[])
  fields := #[]
  methods := #[]
  instanceTypes := #[]
  staticTypes := #[]
  resolved := Array.replicate 37 none
  statics := none }

def pool7 : Array CpInfo := pool [(1, .methodref 2 3), (0, .class_ 4), (0, .nameAndType 5 6), (0, u "java/lang/Object"), (0, u "<init>"), (0, u "()V"), (2, .fieldref 10 11), (0, .class_ 12), (0, .nameAndType 13 14), (0, u "java/lang/String"), (0, u "value"), (0, u "[B"), (0, .fieldref 10 16), (0, .nameAndType 17 18), (0, u "coder"), (0, u "B"), (2, u "hash"), (0, u "I"), (2, u "hashIsZero"), (0, u "Z"), (0, .methodref 10 28), (0, .nameAndType 5 29), (0, u "([CIILjava/lang/Void;)V"), (8, .fieldref 10 39), (0, .nameAndType 40 26), (0, u "COMPACT_STRINGS"), (1, .class_ 44), (1, u "java/lang/StringUTF16"), (0, u "compress"), (1, .methodref 42 48), (0, .nameAndType 49 50), (0, u "coderFromArrayLen"), (0, u "([BI)B"), (3, .methodref 55 56), (0, .class_ 57), (0, .nameAndType 58 59), (0, u "java/util/Arrays"), (0, u "copyOfRange"), (0, u "([BII)[B"), (47, .class_ 109), (1, u "java/lang/StringLatin1"), (32, u "()Z"), (34, .methodref 42 178), (0, .nameAndType 45 179), (0, u "([CII)[B"), (13, .class_ 195), (1, u "java/lang/System"), (16, .methodref 193 213), (0, .nameAndType 214 215), (0, u "arraycopy"), (0, u "(Ljava/lang/Object;ILjava/lang/Object;II)V"), (118, u "()I"), (0, .methodref 10 336), (0, .nameAndType 17 337), (0, u "()B"), (2, u "()[B"), (148, .methodref 10 490), (0, .nameAndType 5 491), (0, u "(Ljava/lang/AbstractStringBuilder;Ljava/lang/Void;)V"), (1, .nameAndType 494 142), (0, u "isLatin1"), (11, .nameAndType 507 334), (0, u "length"), (24, u "getBytes"), (8, .methodref 107 542), (0, .nameAndType 543 544), (0, u "equals"), (0, u "([B[B)Z"), (4, .methodref 550 506), (0, .class_ 551), (0, u "java/lang/AbstractStringBuilder"), (0, .methodref 550 553), (0, .nameAndType 554 340), (0, u "getValue"), (18, u "(Ljava/lang/Object;)Z"), (1, .class_ 576), (0, u "java/lang/CharSequence"), (22, u "CASE_INSENSITIVE_ORDER"), (0, u "Ljava/util/Comparator;"), (220, u "([BIB)V"), (188, u "([C)V"), (36, .methodref 550 493), (53, u "serialPersistentFields"), (0, u "[Ljava/io/ObjectStreamField;"), (0, .class_ 1104), (0, u "java/lang/String$CaseInsensitiveComparator"), (1, .class_ 1107), (0, u "java/io/Serializable"), (0, .class_ 1109), (0, u "java/lang/Comparable"), (0, .class_ 1111), (0, u "java/lang/constant/Constable"), (0, .class_ 1113), (0, u "java/lang/constant/ConstantDesc"), (2, u "serialVersionUID"), (0, u "J"), (3, u "REPL"), (0, u "C"), (2, u "LATIN1"), (1, u "UTF16"), (105, u "(Ljava/lang/StringBuilder;)V")] 217

def k7m0 : Method := { name := "<init>", desc := "()V", sig := { parameters := [], returnType := none }, accessFlags := 1, code := none }
def k7c1 : Code := { maxStack := 5, maxLocals := 2, code := jdk_42_method_3_code, exceptionTable := #[], attributes := #[] }
def k7m1 : Method := { name := "<init>", desc := "([C)V", sig := { parameters := [(.array .char)], returnType := none }, accessFlags := 1, code := some k7c1 }
def k7c2 : Code := { maxStack := 3, maxLocals := 2, code := jdk_42_method_53_code, exceptionTable := #[], attributes := #[] }
def k7m2 : Method := { name := "<init>", desc := "(Ljava/lang/StringBuilder;)V", sig := { parameters := [(.object "java/lang/StringBuilder")], returnType := none }, accessFlags := 1, code := some k7c2 }
def k7c3 : Code := { maxStack := 2, maxLocals := 1, code := jdk_42_method_54_code, exceptionTable := #[], attributes := #[] }
def k7m3 : Method := { name := "length", desc := "()I", sig := { parameters := [], returnType := some .int }, accessFlags := 1, code := some k7c3 }
def k7c4 : Code := { maxStack := 2, maxLocals := 3, code := jdk_42_method_66_code, exceptionTable := #[], attributes := #[] }
def k7m4 : Method := { name := "equals", desc := "(Ljava/lang/Object;)Z", sig := { parameters := [(.object "java/lang/Object")], returnType := some .boolean }, accessFlags := 1, code := some k7c4 }
def k7c5 : Code := { maxStack := 5, maxLocals := 4, code := jdk_42_method_147_code, exceptionTable := #[], attributes := #[] }
def k7m5 : Method := { name := "getBytes", desc := "([BIB)V", sig := { parameters := [(.array .byte), .int, .byte], returnType := none }, accessFlags := 0, code := some k7c5 }
def k7c6 : Code := { maxStack := 4, maxLocals := 6, code := jdk_42_method_149_code, exceptionTable := #[], attributes := #[] }
def k7m6 : Method := { name := "<init>", desc := "([CIILjava/lang/Void;)V", sig := { parameters := [(.array .char), .int, .int, (.object "java/lang/Void")], returnType := none }, accessFlags := 2, code := some k7c6 }
def k7c7 : Code := { maxStack := 5, maxLocals := 5, code := jdk_42_method_150_code, exceptionTable := #[], attributes := #[] }
def k7m7 : Method := { name := "<init>", desc := "(Ljava/lang/AbstractStringBuilder;Ljava/lang/Void;)V", sig := { parameters := [(.object "java/lang/AbstractStringBuilder"), (.object "java/lang/Void")], returnType := none }, accessFlags := 0, code := some k7c7 }
def k7c8 : Code := { maxStack := 1, maxLocals := 1, code := jdk_42_method_152_code, exceptionTable := #[], attributes := #[] }
def k7m8 : Method := { name := "coder", desc := "()B", sig := { parameters := [], returnType := some .byte }, accessFlags := 0, code := some k7c8 }
/-- java/lang/String -/
def k7 : Class := { plain "java/lang/String" (some 0) with
  accessFlags := 49
  interfaces := #[2, 3, 4, 5, 6]
  cf := some (fileOf pool7 10 #[.nestMembers #[1103]] #[{ accessFlags := 1, nameIndex := 5, descriptorIndex := 6, attributes := #[] }, { accessFlags := 1, nameIndex := 5, descriptorIndex := 1010, attributes := #[] }, { accessFlags := 1, nameIndex := 5, descriptorIndex := 1233, attributes := #[] }, { accessFlags := 1, nameIndex := 507, descriptorIndex := 334, attributes := #[] }, { accessFlags := 1, nameIndex := 543, descriptorIndex := 573, attributes := #[] }, { accessFlags := 0, nameIndex := 532, descriptorIndex := 821, attributes := #[] }, { accessFlags := 2, nameIndex := 5, descriptorIndex := 29, attributes := #[] }, { accessFlags := 0, nameIndex := 5, descriptorIndex := 491, attributes := #[] }, { accessFlags := 0, nameIndex := 17, descriptorIndex := 337, attributes := #[] }] 49 2 #[1106, 1108, 575, 1110, 1112] #[{ accessFlags := 18, nameIndex := 13, descriptorIndex := 14, attributes := #[] }, { accessFlags := 18, nameIndex := 17, descriptorIndex := 18, attributes := #[] }, { accessFlags := 2, nameIndex := 21, descriptorIndex := 22, attributes := #[] }, { accessFlags := 2, nameIndex := 25, descriptorIndex := 26, attributes := #[] }, { accessFlags := 26, nameIndex := 1116, descriptorIndex := 1117, attributes := #[] }, { accessFlags := 24, nameIndex := 40, descriptorIndex := 26, attributes := #[] }, { accessFlags := 26, nameIndex := 1101, descriptorIndex := 1102, attributes := #[] }, { accessFlags := 26, nameIndex := 1121, descriptorIndex := 1122, attributes := #[] }, { accessFlags := 25, nameIndex := 599, descriptorIndex := 600, attributes := #[] }, { accessFlags := 24, nameIndex := 1125, descriptorIndex := 18, attributes := #[] }, { accessFlags := 24, nameIndex := 1127, descriptorIndex := 18, attributes := #[] }])
  fields := #[{ name := "value", type := (.array .byte), accessFlags := 18, slot := 0, constantValue := 0 }, { name := "coder", type := .byte, accessFlags := 18, slot := 1, constantValue := 0 }, { name := "hash", type := .int, accessFlags := 2, slot := 2, constantValue := 0 }, { name := "hashIsZero", type := .boolean, accessFlags := 2, slot := 3, constantValue := 0 }, { name := "serialVersionUID", type := .long, accessFlags := 26, slot := 0, constantValue := 0 }, { name := "COMPACT_STRINGS", type := .boolean, accessFlags := 24, slot := 1, constantValue := 0 }, { name := "serialPersistentFields", type := (.array (.object "java/io/ObjectStreamField")), accessFlags := 26, slot := 2, constantValue := 0 }, { name := "REPL", type := .char, accessFlags := 26, slot := 3, constantValue := 0 }, { name := "CASE_INSENSITIVE_ORDER", type := (.object "java/util/Comparator"), accessFlags := 25, slot := 4, constantValue := 0 }, { name := "LATIN1", type := .byte, accessFlags := 24, slot := 5, constantValue := 0 }, { name := "UTF16", type := .byte, accessFlags := 24, slot := 6, constantValue := 0 }]
  methods := #[k7m0, k7m1, k7m2, k7m3, k7m4, k7m5, k7m6, k7m7, k7m8]
  instanceTypes := #[(.array .byte), .byte, .int, .boolean]
  staticTypes := #[.long, .boolean, (.array (.object "java/io/ObjectStreamField")), .char, (.object "java/util/Comparator"), .byte, .byte]
  resolved := Array.replicate 1451 none
  statics := some 0 }

def pool8 : Array CpInfo := pool [(6, .class_ 8), (1, u "java/lang/Object"), (0, u "<init>"), (0, u "()V"), (1, .class_ 14), (1, u "java/lang/StringUTF16"), (31, u "$assertionsDisabled"), (0, u "Z"), (13, u "HI_BYTE_SHIFT"), (0, u "I"), (2, u "LO_BYTE_SHIFT"), (49, .methodref 12 116), (0, .nameAndType 117 118), (0, u "compress"), (0, u "([CI[BII)I"), (3, u "([CII)[B"), (138, u "coderFromArrayLen"), (0, u "([BI)B"), (106, .class_ 371), (1, u "java/lang/StringUTF16$LinesSpliterator"), (58, u "MAX_LENGTH"), (196, .class_ 628), (0, u "java/lang/StringUTF16$CodePointsSpliterator"), (0, .class_ 630), (0, u "java/lang/StringUTF16$CharsSpliterator")] 4

def k8m0 : Method := { name := "<init>", desc := "()V", sig := { parameters := [], returnType := none }, accessFlags := 0, code := none }
def k8c1 : Code := { maxStack := 2, maxLocals := 2, code := jdk_52_method_15_code, exceptionTable := #[], attributes := #[] }
def k8m1 : Method := { name := "coderFromArrayLen", desc := "([BI)B", sig := { parameters := [(.array .byte), .int], returnType := some .byte }, accessFlags := 8, code := some k8c1 }
def k8c2 : Code := { maxStack := 5, maxLocals := 6, code := jdk_52_method_16_code, exceptionTable := #[], attributes := #[] }
def k8m2 : Method := { name := "compress", desc := "([CII)[B", sig := { parameters := [(.array .char), .int, .int], returnType := some (.array .byte) }, accessFlags := 9, code := some k8c2 }
def k8c3 : Code := { maxStack := 3, maxLocals := 7, code := jdk_52_method_21_code, exceptionTable := #[], attributes := #[] }
def k8m3 : Method := { name := "compress", desc := "([CI[BII)I", sig := { parameters := [(.array .char), .int, (.array .byte), .int, .int], returnType := some .int }, accessFlags := 9, code := some k8c3 }
/-- java/lang/StringUTF16 -/
def k8 : Class := { plain "java/lang/StringUTF16" (some 0) with
  accessFlags := 48
  interfaces := #[]
  cf := some (fileOf pool8 12 #[.nestMembers #[627, 629, 369]] #[{ accessFlags := 0, nameIndex := 9, descriptorIndex := 10, attributes := #[] }, { accessFlags := 8, nameIndex := 261, descriptorIndex := 262, attributes := #[] }, { accessFlags := 9, nameIndex := 117, descriptorIndex := 122, attributes := #[] }, { accessFlags := 9, nameIndex := 117, descriptorIndex := 118, attributes := #[] }] 48 6 #[] #[{ accessFlags := 26, nameIndex := 61, descriptorIndex := 62, attributes := #[] }, { accessFlags := 26, nameIndex := 65, descriptorIndex := 62, attributes := #[] }, { accessFlags := 24, nameIndex := 430, descriptorIndex := 62, attributes := #[] }, { accessFlags := 4120, nameIndex := 46, descriptorIndex := 47, attributes := #[] }])
  fields := #[{ name := "HI_BYTE_SHIFT", type := .int, accessFlags := 26, slot := 0, constantValue := 0 }, { name := "LO_BYTE_SHIFT", type := .int, accessFlags := 26, slot := 1, constantValue := 0 }, { name := "MAX_LENGTH", type := .int, accessFlags := 24, slot := 2, constantValue := 0 }, { name := "$assertionsDisabled", type := .boolean, accessFlags := 4120, slot := 3, constantValue := 0 }]
  methods := #[k8m0, k8m1, k8m2, k8m3]
  instanceTypes := #[]
  staticTypes := #[.int, .int, .int, .boolean]
  resolved := Array.replicate 635 none
  statics := none }

def pool9 : Array CpInfo := pool [(1, .methodref 2 3), (0, .class_ 4), (0, .nameAndType 5 6), (0, u "java/lang/Object"), (0, u "<init>"), (0, u "()V"), (0, .class_ 8), (0, u "java/lang/Record")] 13

def k9c0 : Code := { maxStack := 1, maxLocals := 1, code := jdk_30_method_1_code, exceptionTable := #[], attributes := #[] }
def k9m0 : Method := { name := "<init>", desc := "()V", sig := { parameters := [], returnType := none }, accessFlags := 4, code := some k9c0 }
/-- java/lang/Record -/
def k9 : Class := { plain "java/lang/Record" (some 0) with
  accessFlags := 1057
  interfaces := #[]
  cf := some (fileOf pool9 7 #[] #[{ accessFlags := 4, nameIndex := 5, descriptorIndex := 6, attributes := #[] }] 1057 2 #[] #[])
  fields := #[]
  methods := #[k9m0]
  instanceTypes := #[]
  staticTypes := #[]
  resolved := Array.replicate 22 none
  statics := none }

def pool10 : Array CpInfo := pool [(1, .methodref 2 3), (0, .class_ 4), (0, .nameAndType 5 6), (0, u "java/lang/Record"), (0, u "<init>"), (0, u "()V"), (0, .string 8), (0, u "collection"), (0, .methodref 10 11), (0, .class_ 12), (0, .nameAndType 13 14), (0, u "java/util/Objects"), (0, u "requireNonNull"), (0, u "(Ljava/lang/Object;Ljava/lang/String;)Ljava/lang/Object;"), (0, .string 16), (0, u "field"), (0, .string 18), (0, u "value"), (0, .fieldref 20 21), (0, .class_ 22), (0, .nameAndType 8 23), (0, u "com/example/rein/rein/policy/Rule$Target"), (0, u "Ljava/lang/String;"), (0, .fieldref 20 25), (0, .nameAndType 16 23), (0, .fieldref 20 27), (0, .nameAndType 18 28), (0, u "Ljava/util/Optional;"), (0, .methodref 30 31), (0, .class_ 32), (0, .nameAndType 33 34), (0, u "java/util/Optional"), (0, u "empty"), (0, u "()Ljava/util/Optional;"), (0, .methodref 20 36), (0, .nameAndType 5 37), (0, u "(Ljava/lang/String;Ljava/lang/String;Ljava/util/Optional;)V"), (4, .invokeDynamic 0 43), (0, .nameAndType 44 45), (0, u "apply"), (0, u "(Lcom/example/rein/rein/policy/Rule$Target;)Ljava/util/function/Function;"), (0, .methodref 30 47), (0, .nameAndType 48 49), (0, u "map"), (0, u "(Ljava/util/function/Function;)Ljava/util/Optional;"), (0, .class_ 51), (0, u "java/lang/StringBuilder"), (0, .methodref 50 3), (0, .string 54), (0, u "column "), (0, .methodref 50 56), (0, .nameAndType 57 58), (0, u "append"), (0, u "(Ljava/lang/String;)Ljava/lang/StringBuilder;"), (0, .string 60), (0, u " "), (0, .methodref 50 62), (0, .nameAndType 63 64), (0, u "toString"), (0, u "()Ljava/lang/String;"), (0, .methodref 30 66), (0, .nameAndType 67 68), (0, u "orElse"), (0, u "(Ljava/lang/Object;)Ljava/lang/Object;"), (0, .class_ 70), (0, u "java/lang/String"), (16, u "column"), (0, u "(Ljava/lang/String;Ljava/lang/String;)Lcom/example/rein/rein/policy/Rule$Target;"), (5, u "lambda$toString$0"), (0, u "(Ljava/lang/String;)Ljava/lang/String;"), (3, .class_ 100), (0, u "com/example/rein/rein/policy/Rule"), (2, .methodType 68), (0, .methodHandle 5 105), (0, .methodref 20 106), (0, .nameAndType 94 95), (0, .methodType 95), (5, .methodHandle 6 114), (0, .methodref 115 116), (0, .class_ 117), (0, .nameAndType 118 119), (0, u "java/lang/invoke/LambdaMetafactory"), (0, u "metafactory"), (0, u "(Ljava/lang/invoke/MethodHandles$Lookup;Ljava/lang/String;Ljava/lang/invoke/MethodType;Ljava/lang/invoke/MethodType;Ljava/lang/invoke/MethodHandle;Ljava/lang/invoke/MethodType;)Ljava/lang/invoke/CallSite;")] 14

def k10c0 : Code := { maxStack := 2, maxLocals := 4, code := prog_32_method_1_code, exceptionTable := #[], attributes := #[] }
def k10m0 : Method := { name := "<init>", desc := "(Ljava/lang/String;Ljava/lang/String;Ljava/util/Optional;)V", sig := { parameters := [(.object "java/lang/String"), (.object "java/lang/String"), (.object "java/util/Optional")], returnType := none }, accessFlags := 1, code := some k10c0 }
def k10c1 : Code := { maxStack := 5, maxLocals := 2, code := prog_32_method_2_code, exceptionTable := #[], attributes := #[] }
def k10m1 : Method := { name := "column", desc := "(Ljava/lang/String;Ljava/lang/String;)Lcom/example/rein/rein/policy/Rule$Target;", sig := { parameters := [(.object "java/lang/String"), (.object "java/lang/String")], returnType := some (.object "com/example/rein/rein/policy/Rule$Target") }, accessFlags := 9, code := some k10c1 }
def k10c2 : Code := { maxStack := 3, maxLocals := 1, code := prog_32_method_4_code, exceptionTable := #[], attributes := #[] }
def k10m2 : Method := { name := "toString", desc := "()Ljava/lang/String;", sig := { parameters := [], returnType := some (.object "java/lang/String") }, accessFlags := 1, code := some k10c2 }
def k10c3 : Code := { maxStack := 1, maxLocals := 1, code := prog_32_method_7_code, exceptionTable := #[], attributes := #[] }
def k10m3 : Method := { name := "collection", desc := "()Ljava/lang/String;", sig := { parameters := [], returnType := some (.object "java/lang/String") }, accessFlags := 1, code := some k10c3 }
def k10c4 : Code := { maxStack := 1, maxLocals := 1, code := prog_32_method_8_code, exceptionTable := #[], attributes := #[] }
def k10m4 : Method := { name := "field", desc := "()Ljava/lang/String;", sig := { parameters := [], returnType := some (.object "java/lang/String") }, accessFlags := 1, code := some k10c4 }
def k10c5 : Code := { maxStack := 2, maxLocals := 2, code := ⟨#[0xbb, 0x00, 0x32, 0x59, 0xb7, 0x00, 0x34, 0x12, 0x47, 0xb6, 0x00, 0x37, 0x2a, 0xb4, 0x00, 0x13, 0xb6, 0x00, 0x37, 0x12, 0x3b, 0xb6, 0x00, 0x37, 0x2a, 0xb4, 0x00, 0x18, 0xb6, 0x00, 0x37, 0x12, 0x3b, 0xb6, 0x00, 0x37, 0x2b, 0xb6, 0x00, 0x37, 0xb6, 0x00, 0x3d, 0xb0]⟩, exceptionTable := #[], attributes := #[] }
def k10m5 : Method := { name := "lambda$toString$0", desc := "(Ljava/lang/String;)Ljava/lang/String;", sig := { parameters := [(.object "java/lang/String")], returnType := some (.object "java/lang/String") }, accessFlags := 4098, code := some k10c5 }
/-- com/example/rein/rein/policy/Rule$Target -/
def k10 : Class := { plain "com/example/rein/rein/policy/Rule$Target" (some 9) with
  accessFlags := 49
  interfaces := #[]
  cf := some (fileOf pool10 20 #[.nestHost 99, .bootstrapMethods #[⟨113, #[103, 104, 107]⟩, ⟨0, #[]⟩]] #[{ accessFlags := 1, nameIndex := 5, descriptorIndex := 37, attributes := #[] }, { accessFlags := 9, nameIndex := 87, descriptorIndex := 88, attributes := #[] }, { accessFlags := 1, nameIndex := 63, descriptorIndex := 64, attributes := #[] }, { accessFlags := 1, nameIndex := 8, descriptorIndex := 64, attributes := #[] }, { accessFlags := 1, nameIndex := 16, descriptorIndex := 64, attributes := #[] }, { accessFlags := 4098, nameIndex := 94, descriptorIndex := 95, attributes := #[] }] 49 2 #[] #[{ accessFlags := 18, nameIndex := 8, descriptorIndex := 23, attributes := #[] }, { accessFlags := 18, nameIndex := 16, descriptorIndex := 23, attributes := #[] }, { accessFlags := 18, nameIndex := 18, descriptorIndex := 28, attributes := #[] }])
  fields := #[{ name := "collection", type := (.object "java/lang/String"), accessFlags := 18, slot := 0, constantValue := 0 }, { name := "field", type := (.object "java/lang/String"), accessFlags := 18, slot := 1, constantValue := 0 }, { name := "value", type := (.object "java/util/Optional"), accessFlags := 18, slot := 2, constantValue := 0 }]
  methods := #[k10m0, k10m1, k10m2, k10m3, k10m4, k10m5]
  instanceTypes := #[(.object "java/lang/String"), (.object "java/lang/String"), (.object "java/util/Optional")]
  staticTypes := #[]
  resolved := Array.replicate 134 none
  callSites := [(2, 5, .makes 30)]
  statics := none }

def pool11 : Array CpInfo := pool [(1, .fieldref 2 3), (0, .class_ 4), (0, .nameAndType 5 6), (0, u "java/util/Optional"), (0, u "EMPTY"), (0, u "Ljava/util/Optional;"), (1, .class_ 10), (1, u "java/lang/Object"), (2, .fieldref 2 14), (0, .nameAndType 15 16), (0, u "value"), (0, u "Ljava/lang/Object;"), (0, .methodref 18 19), (0, .class_ 20), (0, .nameAndType 21 22), (0, u "java/util/Objects"), (0, u "requireNonNull"), (0, u "(Ljava/lang/Object;)Ljava/lang/Object;"), (20, .methodref 2 44), (0, .nameAndType 45 46), (0, u "isEmpty"), (0, u "()Z"), (6, .methodref 2 54), (0, .nameAndType 55 56), (0, u "empty"), (0, u "()Ljava/util/Optional;"), (89, u "map"), (0, u "(Ljava/util/function/Function;)Ljava/util/Optional;"), (17, u "orElse")] 21

def k11c0 : Code := { maxStack := 1, maxLocals := 1, code := jdk_32_method_1_code, exceptionTable := #[], attributes := #[] }
def k11m0 : Method := { name := "empty", desc := "()Ljava/util/Optional;", sig := { parameters := [], returnType := some (.object "java/util/Optional") }, accessFlags := 9, code := some k11c0 }
def k11c1 : Code := { maxStack := 1, maxLocals := 1, code := jdk_32_method_7_code, exceptionTable := #[], attributes := #[] }
def k11m1 : Method := { name := "isEmpty", desc := "()Z", sig := { parameters := [], returnType := some .boolean }, accessFlags := 1, code := some k11c1 }
def k11c2 : Code := { maxStack := 2, maxLocals := 2, code := jdk_32_method_11_code, exceptionTable := #[], attributes := #[] }
def k11m2 : Method := { name := "map", desc := "(Ljava/util/function/Function;)Ljava/util/Optional;", sig := { parameters := [(.object "java/util/function/Function")], returnType := some (.object "java/util/Optional") }, accessFlags := 1, code := some k11c2 }
def k11c3 : Code := { maxStack := 1, maxLocals := 2, code := jdk_32_method_15_code, exceptionTable := #[], attributes := #[] }
def k11m3 : Method := { name := "orElse", desc := "(Ljava/lang/Object;)Ljava/lang/Object;", sig := { parameters := [(.object "java/lang/Object")], returnType := some (.object "java/lang/Object") }, accessFlags := 1, code := some k11c3 }
/-- java/util/Optional -/
def k11 : Class := { plain "java/util/Optional" (some 0) with
  accessFlags := 49
  interfaces := #[]
  cf := some (fileOf pool11 2 #[] #[{ accessFlags := 9, nameIndex := 55, descriptorIndex := 56, attributes := #[] }, { accessFlags := 1, nameIndex := 45, descriptorIndex := 46, attributes := #[] }, { accessFlags := 1, nameIndex := 146, descriptorIndex := 147, attributes := #[] }, { accessFlags := 1, nameIndex := 165, descriptorIndex := 22, attributes := #[] }] 49 8 #[] #[{ accessFlags := 26, nameIndex := 5, descriptorIndex := 6, attributes := #[] }, { accessFlags := 18, nameIndex := 15, descriptorIndex := 16, attributes := #[] }])
  fields := #[{ name := "EMPTY", type := (.object "java/util/Optional"), accessFlags := 26, slot := 0, constantValue := 0 }, { name := "value", type := (.object "java/lang/Object"), accessFlags := 18, slot := 0, constantValue := 0 }]
  methods := #[k11m0, k11m1, k11m2, k11m3]
  instanceTypes := #[(.object "java/lang/Object")]
  staticTypes := #[(.object "java/util/Optional")]
  resolved := Array.replicate 187 none
  statics := some 1 }

def pool12 : Array CpInfo := pool [(2, .class_ 4), (1, u "java/lang/Object"), (0, u "<init>"), (0, u "()V"), (35, .class_ 44), (1, u "java/util/Objects"), (0, u "requireNonNull"), (0, u "(Ljava/lang/Object;)Ljava/lang/Object;"), (47, u "(Ljava/lang/Object;Ljava/lang/String;)Ljava/lang/Object;")] 89

def k12m0 : Method := { name := "<init>", desc := "()V", sig := { parameters := [], returnType := none }, accessFlags := 2, code := none }
def k12c1 : Code := { maxStack := 2, maxLocals := 1, code := jdk_31_method_10_code, exceptionTable := #[], attributes := #[] }
def k12m1 : Method := { name := "requireNonNull", desc := "(Ljava/lang/Object;)Ljava/lang/Object;", sig := { parameters := [(.object "java/lang/Object")], returnType := some (.object "java/lang/Object") }, accessFlags := 9, code := some k12c1 }
def k12c2 : Code := { maxStack := 3, maxLocals := 2, code := jdk_31_method_11_code, exceptionTable := #[], attributes := #[] }
def k12m2 : Method := { name := "requireNonNull", desc := "(Ljava/lang/Object;Ljava/lang/String;)Ljava/lang/Object;", sig := { parameters := [(.object "java/lang/Object"), (.object "java/lang/String")], returnType := some (.object "java/lang/Object") }, accessFlags := 9, code := some k12c2 }
/-- java/util/Objects -/
def k12 : Class := { plain "java/util/Objects" (some 0) with
  accessFlags := 49
  interfaces := #[]
  cf := some (fileOf pool12 42 #[] #[{ accessFlags := 2, nameIndex := 5, descriptorIndex := 6, attributes := #[] }, { accessFlags := 9, nameIndex := 45, descriptorIndex := 46, attributes := #[] }, { accessFlags := 9, nameIndex := 45, descriptorIndex := 94, attributes := #[] }] 49 2 #[] #[])
  fields := #[]
  methods := #[k12m0, k12m1, k12m2]
  instanceTypes := #[]
  staticTypes := #[]
  resolved := Array.replicate 184 none
  statics := none }

def pool13 : Array CpInfo := pool [(6, u "(Ljava/lang/Object;)Ljava/lang/Object;"), (2, u "apply"), (6, .class_ 18), (1, u "java/util/function/Function"), (0, .class_ 20), (0, u "java/lang/Object")] 56

def k13m0 : Method := { name := "apply", desc := "(Ljava/lang/Object;)Ljava/lang/Object;", sig := { parameters := [(.object "java/lang/Object")], returnType := some (.object "java/lang/Object") }, accessFlags := 1025, code := none }
/-- java/util/function/Function -/
def k13 : Class := { plain "java/util/function/Function" (some 0) with
  accessFlags := 1537
  interfaces := #[]
  cf := some (fileOf pool13 16 #[] #[{ accessFlags := 1025, nameIndex := 9, descriptorIndex := 6, attributes := #[] }] 1537 19 #[] #[])
  fields := #[]
  methods := #[k13m0]
  instanceTypes := #[]
  staticTypes := #[]
  resolved := Array.replicate 77 none
  statics := none }

def pool14 : Array CpInfo := pool [(1, .class_ 2), (0, u "java/lang/Appendable"), (0, .class_ 4), (0, u "java/lang/Object")] 9

/-- java/lang/Appendable -/
def k14 : Class := { plain "java/lang/Appendable" (some 0) with
  accessFlags := 1537
  interfaces := #[]
  cf := some (fileOf pool14 1 #[] #[] 1537 3 #[] #[])
  fields := #[]
  methods := #[]
  instanceTypes := #[]
  staticTypes := #[]
  resolved := Array.replicate 14 none
  statics := none }

def pool15 : Array CpInfo := pool [(1, .class_ 2), (0, u "java/lang/String"), (0, .methodref 4 5), (0, .class_ 6), (0, .nameAndType 7 8), (0, u "java/lang/Object"), (0, u "<init>"), (0, u "()V"), (1, .class_ 12), (1, u "java/lang/AbstractStringBuilder"), (0, u "EMPTYVALUE"), (0, u "[B"), (0, .fieldref 10 16), (0, .nameAndType 17 14), (0, u "value"), (0, .fieldref 1 19), (0, .nameAndType 20 21), (0, u "COMPACT_STRINGS"), (0, u "Z"), (0, .fieldref 10 23), (0, .nameAndType 24 25), (0, u "coder"), (0, u "B"), (6, .methodref 1 33), (0, .nameAndType 34 35), (0, u "length"), (0, u "()I"), (4, .methodref 1 41), (0, .nameAndType 24 42), (0, u "()B"), (2, u "append"), (0, u "(Ljava/lang/String;)Ljava/lang/AbstractStringBuilder;"), (1, .class_ 49), (0, u "java/lang/CharSequence"), (19, u "(Ljava/lang/String;)V"), (5, u "maybeLatin1"), (3, .fieldref 10 80), (0, .nameAndType 81 82), (0, u "count"), (0, u "I"), (2, u "isLatin1"), (0, u "()Z"), (13, .methodref 10 101), (0, .nameAndType 102 103), (0, u "ensureCapacityInternal"), (0, u "(I)V"), (104, .methodref 10 209), (0, .nameAndType 210 211), (0, u "putStringAt"), (0, u "(ILjava/lang/String;)V"), (5, u "inflateIfNeededFor"), (2, .nameAndType 221 222), (0, u "getBytes"), (0, u "([BIB)V"), (174, .methodref 10 398), (0, .nameAndType 217 69), (0, .methodref 1 220), (3, u "()[B"), (40, .class_ 445), (0, u "java/lang/Appendable"), (106, u "getValue")] 56

def k15m0 : Method := { name := "<init>", desc := "()V", sig := { parameters := [], returnType := none }, accessFlags := 0, code := none }
def k15c1 : Code := { maxStack := 2, maxLocals := 2, code := jdk_68_method_2_code, exceptionTable := #[], attributes := #[] }
def k15m1 : Method := { name := "<init>", desc := "(I)V", sig := { parameters := [.int], returnType := none }, accessFlags := 0, code := some k15c1 }
def k15c2 : Code := { maxStack := 1, maxLocals := 1, code := jdk_68_method_6_code, exceptionTable := #[], attributes := #[] }
def k15m2 : Method := { name := "length", desc := "()I", sig := { parameters := [], returnType := some .int }, accessFlags := 1, code := some k15c2 }
def k15c3 : Code := { maxStack := 4, maxLocals := 3, code := jdk_68_method_9_code, exceptionTable := #[], attributes := #[] }
def k15m3 : Method := { name := "ensureCapacityInternal", desc := "(I)V", sig := { parameters := [.int], returnType := none }, accessFlags := 2, code := some k15c3 }
def k15c4 : Code := { maxStack := 3, maxLocals := 3, code := jdk_68_method_22_code, exceptionTable := #[], attributes := #[] }
def k15m4 : Method := { name := "append", desc := "(Ljava/lang/String;)Ljava/lang/AbstractStringBuilder;", sig := { parameters := [(.object "java/lang/String")], returnType := some (.object "java/lang/AbstractStringBuilder") }, accessFlags := 1, code := some k15c4 }
def k15c5 : Code := { maxStack := 1, maxLocals := 1, code := jdk_68_method_64_code, exceptionTable := #[], attributes := #[] }
def k15m5 : Method := { name := "getValue", desc := "()[B", sig := { parameters := [], returnType := some (.array .byte) }, accessFlags := 16, code := some k15c5 }
def k15c6 : Code := { maxStack := 1, maxLocals := 1, code := jdk_68_method_68_code, exceptionTable := #[], attributes := #[] }
def k15m6 : Method := { name := "isLatin1", desc := "()Z", sig := { parameters := [], returnType := some .boolean }, accessFlags := 16, code := some k15c6 }
def k15c7 : Code := { maxStack := 2, maxLocals := 2, code := jdk_68_method_71_code, exceptionTable := #[], attributes := #[] }
def k15m7 : Method := { name := "inflateIfNeededFor", desc := "(Ljava/lang/String;)V", sig := { parameters := [(.object "java/lang/String")], returnType := none }, accessFlags := 2, code := some k15c7 }
def k15c8 : Code := { maxStack := 4, maxLocals := 3, code := jdk_68_method_73_code, exceptionTable := #[], attributes := #[] }
def k15m8 : Method := { name := "putStringAt", desc := "(ILjava/lang/String;)V", sig := { parameters := [.int, (.object "java/lang/String")], returnType := none }, accessFlags := 2, code := some k15c8 }
/-- java/lang/AbstractStringBuilder -/
def k15 : Class := { plain "java/lang/AbstractStringBuilder" (some 0) with
  accessFlags := 1056
  interfaces := #[14, 4]
  cf := some (fileOf pool15 10 #[] #[{ accessFlags := 0, nameIndex := 7, descriptorIndex := 8, attributes := #[] }, { accessFlags := 0, nameIndex := 7, descriptorIndex := 103, attributes := #[] }, { accessFlags := 1, nameIndex := 34, descriptorIndex := 35, attributes := #[] }, { accessFlags := 2, nameIndex := 102, descriptorIndex := 103, attributes := #[] }, { accessFlags := 1, nameIndex := 45, descriptorIndex := 46, attributes := #[] }, { accessFlags := 16, nameIndex := 552, descriptorIndex := 403, attributes := #[] }, { accessFlags := 16, nameIndex := 85, descriptorIndex := 86, attributes := #[] }, { accessFlags := 2, nameIndex := 217, descriptorIndex := 69, attributes := #[] }, { accessFlags := 2, nameIndex := 210, descriptorIndex := 211, attributes := #[] }] 1056 4 #[444, 48] #[{ accessFlags := 0, nameIndex := 17, descriptorIndex := 14, attributes := #[] }, { accessFlags := 0, nameIndex := 24, descriptorIndex := 25, attributes := #[] }, { accessFlags := 0, nameIndex := 75, descriptorIndex := 21, attributes := #[] }, { accessFlags := 0, nameIndex := 81, descriptorIndex := 82, attributes := #[] }, { accessFlags := 26, nameIndex := 13, descriptorIndex := 14, attributes := #[] }])
  fields := #[{ name := "value", type := (.array .byte), accessFlags := 0, slot := 0, constantValue := 0 }, { name := "coder", type := .byte, accessFlags := 0, slot := 1, constantValue := 0 }, { name := "maybeLatin1", type := .boolean, accessFlags := 0, slot := 2, constantValue := 0 }, { name := "count", type := .int, accessFlags := 0, slot := 3, constantValue := 0 }, { name := "EMPTYVALUE", type := (.array .byte), accessFlags := 26, slot := 0, constantValue := 0 }]
  methods := #[k15m0, k15m1, k15m2, k15m3, k15m4, k15m5, k15m6, k15m7, k15m8]
  instanceTypes := #[(.array .byte), .byte, .boolean, .int]
  staticTypes := #[(.array .byte)]
  resolved := Array.replicate 609 none
  statics := none }

def pool16 : Array CpInfo := pool [(1, .methodref 2 3), (0, .class_ 4), (0, .nameAndType 5 6), (0, u "java/lang/AbstractStringBuilder"), (0, u "<init>"), (0, u "(I)V"), (11, .class_ 20), (1, u "java/lang/String"), (3, .class_ 26), (1, u "java/lang/StringBuilder"), (0, u "append"), (0, u "(Ljava/lang/String;)Ljava/lang/StringBuilder;"), (0, .methodref 2 30), (0, .nameAndType 27 31), (0, u "(Ljava/lang/String;)Ljava/lang/AbstractStringBuilder;"), (105, .methodref 18 138), (0, .nameAndType 5 139), (0, u "(Ljava/lang/StringBuilder;)V"), (5, u "()V"), (10, u "()I"), (186, .methodref 2 344), (0, .nameAndType 345 156), (0, u "length"), (3, .class_ 350), (0, u "java/lang/Appendable"), (0, .class_ 352), (0, u "java/io/Serializable"), (0, .class_ 354), (0, u "java/lang/Comparable"), (0, .class_ 356), (0, u "java/lang/CharSequence"), (0, u "serialVersionUID"), (0, u "J"), (40, u "toString"), (0, u "()Ljava/lang/String;")] 21

def k16c0 : Code := { maxStack := 2, maxLocals := 1, code := jdk_67_method_1_code, exceptionTable := #[], attributes := #[] }
def k16m0 : Method := { name := "<init>", desc := "()V", sig := { parameters := [], returnType := none }, accessFlags := 1, code := some k16c0 }
def k16c1 : Code := { maxStack := 2, maxLocals := 2, code := jdk_67_method_7_code, exceptionTable := #[], attributes := #[] }
def k16m1 : Method := { name := "append", desc := "(Ljava/lang/String;)Ljava/lang/StringBuilder;", sig := { parameters := [(.object "java/lang/String")], returnType := some (.object "java/lang/StringBuilder") }, accessFlags := 1, code := some k16c1 }
def k16c2 : Code := { maxStack := 3, maxLocals := 1, code := jdk_67_method_42_code, exceptionTable := #[], attributes := #[] }
def k16m2 : Method := { name := "toString", desc := "()Ljava/lang/String;", sig := { parameters := [], returnType := some (.object "java/lang/String") }, accessFlags := 1, code := some k16c2 }
def k16c3 : Code := { maxStack := 1, maxLocals := 1, code := jdk_67_method_93_code, exceptionTable := #[], attributes := #[] }
def k16m3 : Method := { name := "length", desc := "()I", sig := { parameters := [], returnType := some .int }, accessFlags := 4161, code := some k16c3 }
/-- java/lang/StringBuilder -/
def k16 : Class := { plain "java/lang/StringBuilder" (some 15) with
  accessFlags := 49
  interfaces := #[14, 2, 3, 4]
  cf := some (fileOf pool16 24 #[] #[{ accessFlags := 1, nameIndex := 5, descriptorIndex := 145, attributes := #[] }, { accessFlags := 1, nameIndex := 27, descriptorIndex := 28, attributes := #[] }, { accessFlags := 1, nameIndex := 399, descriptorIndex := 400, attributes := #[] }, { accessFlags := 4161, nameIndex := 345, descriptorIndex := 156, attributes := #[] }] 49 2 #[349, 351, 353, 355] #[{ accessFlags := 24, nameIndex := 357, descriptorIndex := 358, attributes := #[] }])
  fields := #[{ name := "serialVersionUID", type := .long, accessFlags := 24, slot := 0, constantValue := 0 }]
  methods := #[k16m0, k16m1, k16m2, k16m3]
  instanceTypes := #[(.array .byte), .byte, .boolean, .int]
  staticTypes := #[.long]
  resolved := Array.replicate 422 none
  statics := none }

def pool17 : Array CpInfo := pool [(2, .class_ 4), (1, u "java/lang/Object"), (0, u "<init>"), (0, u "()V"), (1, .class_ 10), (1, u "java/lang/System"), (0, u "allowSecurityManager"), (0, u "I"), (16, u "cons"), (0, u "Ljava/io/Console;"), (77, .class_ 110), (1, u "java/lang/System$CallersHolder"), (43, u "initialErrStream"), (0, u "Ljava/io/PrintStream;"), (19, u "security"), (0, u "Ljava/lang/SecurityManager;"), (31, .class_ 209), (0, u "java/lang/System$1"), (7, u "props"), (0, u "Ljava/util/Properties;"), (2, u "lineSeparator"), (0, u "Ljava/lang/String;"), (96, .class_ 321), (1, u "java/lang/System$LoggerFinder"), (5, .class_ 328), (0, u "java/lang/System$Logger"), (67, u "err"), (2, u "out"), (91, u "notSupportedJnuEncoding"), (15, u "in"), (17, u "initialIn"), (0, u "Ljava/io/InputStream;"), (35, u "bootLayer"), (0, u "Ljava/lang/ModuleLayer;"), (99, .class_ 664), (0, u "java/lang/System$2"), (9, u "NEVER"), (2, u "MAYBE"), (49, u "arraycopy"), (0, u "(Ljava/lang/Object;ILjava/lang/Object;II)V"), (72, .class_ 802), (0, u "java/lang/System$Logger$Level")] 31

def k17m0 : Method := { name := "<init>", desc := "()V", sig := { parameters := [], returnType := none }, accessFlags := 2, code := none }
def k17m1 : Method := { name := "arraycopy", desc := "(Ljava/lang/Object;ILjava/lang/Object;II)V", sig := { parameters := [(.object "java/lang/Object"), .int, (.object "java/lang/Object"), .int, .int], returnType := none }, accessFlags := 265, code := none }
/-- java/lang/System -/
def k17 : Class := { plain "java/lang/System" (some 0) with
  accessFlags := 49
  interfaces := #[]
  cf := some (fileOf pool17 8 #[.nestMembers #[319, 327, 801, 108, 663, 208]] #[{ accessFlags := 2, nameIndex := 5, descriptorIndex := 6, attributes := #[] }, { accessFlags := 265, nameIndex := 727, descriptorIndex := 728, attributes := #[] }] 49 2 #[] #[{ accessFlags := 25, nameIndex := 507, descriptorIndex := 526, attributes := #[] }, { accessFlags := 25, nameIndex := 399, descriptorIndex := 155, attributes := #[] }, { accessFlags := 25, nameIndex := 396, descriptorIndex := 155, attributes := #[] }, { accessFlags := 10, nameIndex := 525, descriptorIndex := 526, attributes := #[] }, { accessFlags := 26, nameIndex := 674, descriptorIndex := 12, attributes := #[] }, { accessFlags := 26, nameIndex := 677, descriptorIndex := 12, attributes := #[] }, { accessFlags := 10, nameIndex := 11, descriptorIndex := 12, attributes := #[] }, { accessFlags := 74, nameIndex := 175, descriptorIndex := 176, attributes := #[] }, { accessFlags := 10, nameIndex := 491, descriptorIndex := 222, attributes := #[] }, { accessFlags := 74, nameIndex := 29, descriptorIndex := 30, attributes := #[] }, { accessFlags := 74, nameIndex := 154, descriptorIndex := 155, attributes := #[] }, { accessFlags := 10, nameIndex := 217, descriptorIndex := 218, attributes := #[] }, { accessFlags := 10, nameIndex := 221, descriptorIndex := 222, attributes := #[] }, { accessFlags := 8, nameIndex := 562, descriptorIndex := 563, attributes := #[] }])
  fields := #[{ name := "in", type := (.object "java/io/InputStream"), accessFlags := 25, slot := 0, constantValue := 0 }, { name := "out", type := (.object "java/io/PrintStream"), accessFlags := 25, slot := 1, constantValue := 0 }, { name := "err", type := (.object "java/io/PrintStream"), accessFlags := 25, slot := 2, constantValue := 0 }, { name := "initialIn", type := (.object "java/io/InputStream"), accessFlags := 10, slot := 3, constantValue := 0 }, { name := "NEVER", type := .int, accessFlags := 26, slot := 4, constantValue := 0 }, { name := "MAYBE", type := .int, accessFlags := 26, slot := 5, constantValue := 0 }, { name := "allowSecurityManager", type := .int, accessFlags := 10, slot := 6, constantValue := 0 }, { name := "security", type := (.object "java/lang/SecurityManager"), accessFlags := 74, slot := 7, constantValue := 0 }, { name := "notSupportedJnuEncoding", type := (.object "java/lang/String"), accessFlags := 10, slot := 8, constantValue := 0 }, { name := "cons", type := (.object "java/io/Console"), accessFlags := 74, slot := 9, constantValue := 0 }, { name := "initialErrStream", type := (.object "java/io/PrintStream"), accessFlags := 74, slot := 10, constantValue := 0 }, { name := "props", type := (.object "java/util/Properties"), accessFlags := 10, slot := 11, constantValue := 0 }, { name := "lineSeparator", type := (.object "java/lang/String"), accessFlags := 10, slot := 12, constantValue := 0 }, { name := "bootLayer", type := (.object "java/lang/ModuleLayer"), accessFlags := 8, slot := 13, constantValue := 0 }]
  methods := #[k17m0, k17m1]
  instanceTypes := #[]
  staticTypes := #[(.object "java/io/InputStream"), (.object "java/io/PrintStream"), (.object "java/io/PrintStream"), (.object "java/io/InputStream"), .int, .int, .int, (.object "java/lang/SecurityManager"), (.object "java/lang/String"), (.object "java/io/Console"), (.object "java/io/PrintStream"), (.object "java/util/Properties"), (.object "java/lang/String"), (.object "java/lang/ModuleLayer")]
  resolved := Array.replicate 834 none
  statics := none }

def pool18 : Array CpInfo := pool [(2, .class_ 4), (1, u "java/lang/Object"), (0, u "<init>"), (0, u "()V"), (7, .class_ 16), (1, u "java/util/Arrays"), (57, .class_ 76), (1, u "java/util/Arrays$NaturalOrder"), (36, .class_ 115), (1, u "java/util/Arrays$LegacyMergeSort"), (1, u "Z"), (21, u "copyOfRange"), (10, .methodref 151 152), (0, .class_ 153), (0, .nameAndType 154 155), (0, u "java/lang/System"), (0, u "arraycopy"), (0, u "(Ljava/lang/Object;ILjava/lang/Object;II)V"), (148, .methodref 305 306), (0, .class_ 307), (0, .nameAndType 308 309), (0, u "java/lang/Math"), (0, u "min"), (0, u "(II)I"), (29, .methodref 14 340), (0, .nameAndType 341 342), (0, u "copyOfRangeByte"), (0, u "([BII)[B"), (0, .methodref 14 344), (0, .nameAndType 345 346), (0, u "checkLength"), (0, u "(II)V"), (28, .class_ 376), (0, u "java/util/Arrays$ArrayList"), (68, u "$assertionsDisabled"), (269, u "MIN_ARRAY_SORT_GRAN"), (0, u "I"), (2, u "INSERTIONSORT_THRESHOLD"), (255, .class_ 976), (0, u "java/util/Arrays$ArrayItr")] 52

def k18m0 : Method := { name := "<init>", desc := "()V", sig := { parameters := [], returnType := none }, accessFlags := 2, code := none }
def k18c1 : Code := { maxStack := 4, maxLocals := 2, code := jdk_65_method_131_code, exceptionTable := #[], attributes := #[] }
def k18m1 : Method := { name := "checkLength", desc := "(II)V", sig := { parameters := [.int, .int], returnType := none }, accessFlags := 10, code := some k18c1 }
def k18c2 : Code := { maxStack := 3, maxLocals := 3, code := jdk_65_method_132_code, exceptionTable := #[], attributes := #[] }
def k18m2 : Method := { name := "copyOfRange", desc := "([BII)[B", sig := { parameters := [(.array .byte), .int, .int], returnType := some (.array .byte) }, accessFlags := 9, code := some k18c2 }
def k18c3 : Code := { maxStack := 6, maxLocals := 5, code := jdk_65_method_133_code, exceptionTable := #[], attributes := #[] }
def k18m3 : Method := { name := "copyOfRangeByte", desc := "([BII)[B", sig := { parameters := [(.array .byte), .int, .int], returnType := some (.array .byte) }, accessFlags := 10, code := some k18c3 }
/-- java/util/Arrays -/
def k18 : Class := { plain "java/util/Arrays" (some 0) with
  accessFlags := 49
  interfaces := #[]
  cf := some (fileOf pool18 14 #[.nestMembers #[975, 375, 113, 74]] #[{ accessFlags := 2, nameIndex := 5, descriptorIndex := 6, attributes := #[] }, { accessFlags := 10, nameIndex := 345, descriptorIndex := 346, attributes := #[] }, { accessFlags := 9, nameIndex := 139, descriptorIndex := 342, attributes := #[] }, { accessFlags := 10, nameIndex := 341, descriptorIndex := 342, attributes := #[] }] 49 2 #[] #[{ accessFlags := 26, nameIndex := 715, descriptorIndex := 716, attributes := #[] }, { accessFlags := 26, nameIndex := 719, descriptorIndex := 716, attributes := #[] }, { accessFlags := 4120, nameIndex := 445, descriptorIndex := 117, attributes := #[] }])
  fields := #[{ name := "MIN_ARRAY_SORT_GRAN", type := .int, accessFlags := 26, slot := 0, constantValue := 0 }, { name := "INSERTIONSORT_THRESHOLD", type := .int, accessFlags := 26, slot := 1, constantValue := 0 }, { name := "$assertionsDisabled", type := .boolean, accessFlags := 4120, slot := 2, constantValue := 0 }]
  methods := #[k18m0, k18m1, k18m2, k18m3]
  instanceTypes := #[]
  staticTypes := #[.int, .int, .boolean]
  resolved := Array.replicate 1029 none
  statics := none }

def pool19 : Array CpInfo := pool [(1, .class_ 2), (0, u "java/lang/Math"), (1, .class_ 6), (1, u "java/lang/Object"), (0, u "<init>"), (0, u "()V"), (89, .class_ 100), (1, u "java/lang/Math$RandomNumberGeneratorHolder"), (71, u "negativeZeroFloatBits"), (0, u "J"), (2, u "negativeZeroDoubleBits"), (24, u "min"), (43, u "$assertionsDisabled"), (0, u "Z"), (88, u "(II)I"), (2, u "twoToTheDoubleScaleDown"), (0, u "D"), (4, u "twoToTheDoubleScaleUp"), (9, u "E"), (3, u "PI"), (2, u "TAU"), (2, u "DEGREES_TO_RADIANS"), (0, u "RADIANS_TO_DEGREES")] 94

def k19m0 : Method := { name := "<init>", desc := "()V", sig := { parameters := [], returnType := none }, accessFlags := 2, code := none }
def k19c1 : Code := { maxStack := 2, maxLocals := 2, code := jdk_29_method_69_code, exceptionTable := #[], attributes := #[] }
def k19m1 : Method := { name := "min", desc := "(II)I", sig := { parameters := [.int, .int], returnType := some .int }, accessFlags := 9, code := some k19c1 }
/-- java/lang/Math -/
def k19 : Class := { plain "java/lang/Math" (some 0) with
  accessFlags := 49
  interfaces := #[]
  cf := some (fileOf pool19 1 #[.nestMembers #[98]] #[{ accessFlags := 2, nameIndex := 7, descriptorIndex := 8, attributes := #[] }, { accessFlags := 9, nameIndex := 201, descriptorIndex := 335, attributes := #[] }] 49 4 #[] #[{ accessFlags := 25, nameIndex := 354, descriptorIndex := 339, attributes := #[] }, { accessFlags := 25, nameIndex := 358, descriptorIndex := 339, attributes := #[] }, { accessFlags := 25, nameIndex := 361, descriptorIndex := 339, attributes := #[] }, { accessFlags := 26, nameIndex := 364, descriptorIndex := 339, attributes := #[] }, { accessFlags := 26, nameIndex := 365, descriptorIndex := 339, attributes := #[] }, { accessFlags := 26, nameIndex := 172, descriptorIndex := 173, attributes := #[] }, { accessFlags := 26, nameIndex := 176, descriptorIndex := 173, attributes := #[] }, { accessFlags := 8, nameIndex := 344, descriptorIndex := 339, attributes := #[] }, { accessFlags := 8, nameIndex := 338, descriptorIndex := 339, attributes := #[] }, { accessFlags := 4120, nameIndex := 245, descriptorIndex := 246, attributes := #[] }])
  fields := #[{ name := "E", type := .double, accessFlags := 25, slot := 0, constantValue := 0 }, { name := "PI", type := .double, accessFlags := 25, slot := 1, constantValue := 0 }, { name := "TAU", type := .double, accessFlags := 25, slot := 2, constantValue := 0 }, { name := "DEGREES_TO_RADIANS", type := .double, accessFlags := 26, slot := 3, constantValue := 0 }, { name := "RADIANS_TO_DEGREES", type := .double, accessFlags := 26, slot := 4, constantValue := 0 }, { name := "negativeZeroFloatBits", type := .long, accessFlags := 26, slot := 5, constantValue := 0 }, { name := "negativeZeroDoubleBits", type := .long, accessFlags := 26, slot := 6, constantValue := 0 }, { name := "twoToTheDoubleScaleUp", type := .double, accessFlags := 8, slot := 7, constantValue := 0 }, { name := "twoToTheDoubleScaleDown", type := .double, accessFlags := 8, slot := 8, constantValue := 0 }, { name := "$assertionsDisabled", type := .boolean, accessFlags := 4120, slot := 9, constantValue := 0 }]
  methods := #[k19m0, k19m1]
  instanceTypes := #[]
  staticTypes := #[.double, .double, .double, .double, .double, .long, .long, .double, .double, .boolean]
  resolved := Array.replicate 460 none
  statics := none }

def pool20 : Array CpInfo := pool [(4, .class_ 6), (1, u "java/lang/Object"), (0, u "<init>"), (0, u "()V"), (5, .class_ 16), (1, u "java/lang/StringLatin1"), (104, u "$assertionsDisabled"), (0, u "Z"), (98, .class_ 223), (1, u "java/lang/StringLatin1$LinesSpliterator"), (57, u "equals"), (0, u "([B[B)Z"), (107, .class_ 391), (0, u "java/lang/StringLatin1$CharsSpliterator")] 3

def k20m0 : Method := { name := "<init>", desc := "()V", sig := { parameters := [], returnType := none }, accessFlags := 0, code := none }
def k20c1 : Code := { maxStack := 3, maxLocals := 3, code := jdk_43_method_13_code, exceptionTable := #[], attributes := #[] }
def k20m1 : Method := { name := "equals", desc := "([B[B)Z", sig := { parameters := [(.array .byte), (.array .byte)], returnType := some .boolean }, accessFlags := 9, code := some k20c1 }
/-- java/lang/StringLatin1 -/
def k20 : Class := { plain "java/lang/StringLatin1" (some 0) with
  accessFlags := 48
  interfaces := #[]
  cf := some (fileOf pool20 14 #[.nestMembers #[390, 221]] #[{ accessFlags := 0, nameIndex := 7, descriptorIndex := 8, attributes := #[] }, { accessFlags := 9, nameIndex := 281, descriptorIndex := 282, attributes := #[] }] 48 4 #[] #[{ accessFlags := 4120, nameIndex := 121, descriptorIndex := 122, attributes := #[] }])
  fields := #[{ name := "$assertionsDisabled", type := .boolean, accessFlags := 4120, slot := 0, constantValue := 0 }]
  methods := #[k20m0, k20m1]
  instanceTypes := #[]
  staticTypes := #[.boolean]
  resolved := Array.replicate 395 none
  statics := none }

def pool21 : Array CpInfo := pool [(2, .class_ 4), (1, u "java/lang/Object"), (0, u "<init>"), (0, u "()V"), (17, .class_ 26), (1, u "jdk/internal/util/Preconditions"), (28, .class_ 56), (0, u "jdk/internal/util/Preconditions$4"), (57, .class_ 115), (0, u "jdk/internal/util/Preconditions$1"), (7, u "SIOOBE_FORMATTER"), (0, u "Ljava/util/function/BiFunction;"), (0, .class_ 126), (0, u "jdk/internal/util/Preconditions$2"), (3, u "AIOOBE_FORMATTER"), (0, .class_ 132), (0, u "jdk/internal/util/Preconditions$3"), (3, u "IOOBE_FORMATTER")] 57

def k21m0 : Method := { name := "<init>", desc := "()V", sig := { parameters := [], returnType := none }, accessFlags := 1, code := none }
/-- jdk/internal/util/Preconditions -/
def k21 : Class := { plain "jdk/internal/util/Preconditions" (some 0) with
  accessFlags := 33
  interfaces := #[]
  cf := some (fileOf pool21 24 #[.nestMembers #[55, 131, 125, 114]] #[{ accessFlags := 1, nameIndex := 5, descriptorIndex := 6, attributes := #[] }] 33 2 #[] #[{ accessFlags := 25, nameIndex := 123, descriptorIndex := 124, attributes := #[] }, { accessFlags := 25, nameIndex := 130, descriptorIndex := 124, attributes := #[] }, { accessFlags := 25, nameIndex := 136, descriptorIndex := 124, attributes := #[] }])
  fields := #[{ name := "SIOOBE_FORMATTER", type := (.object "java/util/function/BiFunction"), accessFlags := 25, slot := 0, constantValue := 0 }, { name := "AIOOBE_FORMATTER", type := (.object "java/util/function/BiFunction"), accessFlags := 25, slot := 1, constantValue := 0 }, { name := "IOOBE_FORMATTER", type := (.object "java/util/function/BiFunction"), accessFlags := 25, slot := 2, constantValue := 0 }]
  methods := #[k21m0]
  instanceTypes := #[]
  staticTypes := #[(.object "java/util/function/BiFunction"), (.object "java/util/function/BiFunction"), (.object "java/util/function/BiFunction")]
  resolved := Array.replicate 194 none
  statics := some 2 }

def pool22 : Array CpInfo := pool [(9, u "<init>"), (6, .class_ 18), (1, u "java/lang/Object"), (0, u "()V"), (1, .class_ 23), (1, u "jdk/internal/util/ArraysSupport"), (0, u "LOG2_ARRAY_LONG_INDEX_SCALE"), (0, u "I"), (2, u "U"), (0, u "Ljdk/internal/misc/Unsafe;"), (8, u "BIG_ENDIAN"), (0, u "Z"), (8, u "LOG2_BYTE_BIT_SIZE"), (4, u "LOG2_ARRAY_INT_INDEX_SCALE"), (54, u "JLA"), (0, u "Ljdk/internal/access/JavaLangAccess;"), (11, u "LOG2_ARRAY_BOOLEAN_INDEX_SCALE"), (9, u "LOG2_ARRAY_BYTE_INDEX_SCALE"), (5, u "LOG2_ARRAY_CHAR_INDEX_SCALE"), (5, u "LOG2_ARRAY_SHORT_INDEX_SCALE"), (18, u "LOG2_ARRAY_FLOAT_INDEX_SCALE"), (24, u "LOG2_ARRAY_DOUBLE_INDEX_SCALE"), (89, u "T_BOOLEAN"), (2, u "T_CHAR"), (1, u "T_FLOAT"), (1, u "T_DOUBLE"), (1, u "T_BYTE"), (1, u "T_SHORT"), (1, u "T_INT"), (1, u "T_LONG"), (1, u "SOFT_MAX_ARRAY_LENGTH")] 83

def k22m0 : Method := { name := "<init>", desc := "()V", sig := { parameters := [], returnType := none }, accessFlags := 2, code := none }
/-- jdk/internal/util/ArraysSupport -/
def k22 : Class := { plain "jdk/internal/util/ArraysSupport" (some 0) with
  accessFlags := 33
  interfaces := #[]
  cf := some (fileOf pool22 21 #[] #[{ accessFlags := 2, nameIndex := 9, descriptorIndex := 19, attributes := #[] }] 33 16 #[] #[{ accessFlags := 24, nameIndex := 28, descriptorIndex := 29, attributes := #[] }, { accessFlags := 26, nameIndex := 38, descriptorIndex := 39, attributes := #[] }, { accessFlags := 25, nameIndex := 121, descriptorIndex := 25, attributes := #[] }, { accessFlags := 25, nameIndex := 131, descriptorIndex := 25, attributes := #[] }, { accessFlags := 25, nameIndex := 137, descriptorIndex := 25, attributes := #[] }, { accessFlags := 25, nameIndex := 143, descriptorIndex := 25, attributes := #[] }, { accessFlags := 25, nameIndex := 53, descriptorIndex := 25, attributes := #[] }, { accessFlags := 25, nameIndex := 24, descriptorIndex := 25, attributes := #[] }, { accessFlags := 25, nameIndex := 162, descriptorIndex := 25, attributes := #[] }, { accessFlags := 25, nameIndex := 187, descriptorIndex := 25, attributes := #[] }, { accessFlags := 26, nameIndex := 48, descriptorIndex := 25, attributes := #[] }, { accessFlags := 25, nameIndex := 277, descriptorIndex := 25, attributes := #[] }, { accessFlags := 25, nameIndex := 280, descriptorIndex := 25, attributes := #[] }, { accessFlags := 25, nameIndex := 282, descriptorIndex := 25, attributes := #[] }, { accessFlags := 25, nameIndex := 284, descriptorIndex := 25, attributes := #[] }, { accessFlags := 25, nameIndex := 286, descriptorIndex := 25, attributes := #[] }, { accessFlags := 25, nameIndex := 288, descriptorIndex := 25, attributes := #[] }, { accessFlags := 25, nameIndex := 290, descriptorIndex := 25, attributes := #[] }, { accessFlags := 25, nameIndex := 292, descriptorIndex := 25, attributes := #[] }, { accessFlags := 26, nameIndex := 108, descriptorIndex := 109, attributes := #[] }, { accessFlags := 25, nameIndex := 294, descriptorIndex := 25, attributes := #[] }])
  fields := #[{ name := "U", type := (.object "jdk/internal/misc/Unsafe"), accessFlags := 24, slot := 0, constantValue := 0 }, { name := "BIG_ENDIAN", type := .boolean, accessFlags := 26, slot := 1, constantValue := 0 }, { name := "LOG2_ARRAY_BOOLEAN_INDEX_SCALE", type := .int, accessFlags := 25, slot := 2, constantValue := 0 }, { name := "LOG2_ARRAY_BYTE_INDEX_SCALE", type := .int, accessFlags := 25, slot := 3, constantValue := 0 }, { name := "LOG2_ARRAY_CHAR_INDEX_SCALE", type := .int, accessFlags := 25, slot := 4, constantValue := 0 }, { name := "LOG2_ARRAY_SHORT_INDEX_SCALE", type := .int, accessFlags := 25, slot := 5, constantValue := 0 }, { name := "LOG2_ARRAY_INT_INDEX_SCALE", type := .int, accessFlags := 25, slot := 6, constantValue := 0 }, { name := "LOG2_ARRAY_LONG_INDEX_SCALE", type := .int, accessFlags := 25, slot := 7, constantValue := 0 }, { name := "LOG2_ARRAY_FLOAT_INDEX_SCALE", type := .int, accessFlags := 25, slot := 8, constantValue := 0 }, { name := "LOG2_ARRAY_DOUBLE_INDEX_SCALE", type := .int, accessFlags := 25, slot := 9, constantValue := 0 }, { name := "LOG2_BYTE_BIT_SIZE", type := .int, accessFlags := 26, slot := 10, constantValue := 0 }, { name := "T_BOOLEAN", type := .int, accessFlags := 25, slot := 11, constantValue := 0 }, { name := "T_CHAR", type := .int, accessFlags := 25, slot := 12, constantValue := 0 }, { name := "T_FLOAT", type := .int, accessFlags := 25, slot := 13, constantValue := 0 }, { name := "T_DOUBLE", type := .int, accessFlags := 25, slot := 14, constantValue := 0 }, { name := "T_BYTE", type := .int, accessFlags := 25, slot := 15, constantValue := 0 }, { name := "T_SHORT", type := .int, accessFlags := 25, slot := 16, constantValue := 0 }, { name := "T_INT", type := .int, accessFlags := 25, slot := 17, constantValue := 0 }, { name := "T_LONG", type := .int, accessFlags := 25, slot := 18, constantValue := 0 }, { name := "JLA", type := (.object "jdk/internal/access/JavaLangAccess"), accessFlags := 26, slot := 19, constantValue := 0 }, { name := "SOFT_MAX_ARRAY_LENGTH", type := .int, accessFlags := 25, slot := 20, constantValue := 0 }]
  methods := #[k22m0]
  instanceTypes := #[]
  staticTypes := #[(.object "jdk/internal/misc/Unsafe"), .boolean, .int, .int, .int, .int, .int, .int, .int, .int, .int, .int, .int, .int, .int, .int, .int, .int, .int, (.object "jdk/internal/access/JavaLangAccess"), .int]
  resolved := Array.replicate 378 none
  statics := none }

def pool23 : Array CpInfo := pool [(1, u "java/lang/Cloneable"), (0, .class_ 1), (0, u "java/lang/Object"), (0, .class_ 3)] 3

/-- java/lang/Cloneable -/
def k23 : Class := { plain "java/lang/Cloneable" (some 0) with
  accessFlags := 1537
  interfaces := #[]
  cf := some (fileOf pool23 2 #[] #[] 1537 4 #[] #[])
  fields := #[]
  methods := #[]
  instanceTypes := #[]
  staticTypes := #[]
  resolved := Array.replicate 8 none
  statics := none }

/-- the primitive byte -/
def k24 : Class := { plain "byte" none with kind := .primitive 'B', accessFlags := 0x411 }
/-- [B -/
def k25 : Class := { plain "[B" (some 0) with kind := .array 24 .byte, interfaces := #[23, 2], accessFlags := 1041 }

/-- the primitive char -/
def k26 : Class := { plain "char" none with kind := .primitive 'C', accessFlags := 0x411 }
/-- [C -/
def k27 : Class := { plain "[C" (some 0) with kind := .array 26 .char, interfaces := #[23, 2], accessFlags := 1041 }

/-- the primitive int -/
def k28 : Class := { plain "int" none with kind := .primitive 'I', accessFlags := 0x411 }
/-- [I -/
def k29 : Class := { plain "[I" (some 0) with kind := .array 28 .int, interfaces := #[23, 2], accessFlags := 1041 }

def classes0 : Array Class := #[k0, k1, k2, k3, k4, k5, k6, k7, k8, k9, k10, k11, k12, k13, k14, k15, k16, k17, k18, k19, k20, k21, k22, k23, k24, k25, k26, k27, k28, k29]
/-- the class that the rule has made for the site at 5 of com/example/rein/rein/policy/Rule$Target.toString -/
def k30 : Class := Jvm.LamKit.madeRec { classes := classes0 } "com/example/rein/rein/policy/Rule$Target" (Jvm.Lambda.Shape.mk "java/util/function/Function" "apply" (Jvm.ClassFile.MethodDescriptor.mk ([(Jvm.ClassFile.FieldType.object "java/lang/Object")] : List Jvm.ClassFile.FieldType) (Option.some (Jvm.ClassFile.FieldType.object "java/lang/Object"))) ([(Jvm.ClassFile.FieldType.object "com/example/rein/rein/policy/Rule$Target")] : List Jvm.ClassFile.FieldType) (5 : Nat) "com/example/rein/rein/policy/Rule$Target" "lambda$toString$0" (Jvm.ClassFile.MethodDescriptor.mk ([(Jvm.ClassFile.FieldType.object "java/lang/String")] : List Jvm.ClassFile.FieldType) (Option.some (Jvm.ClassFile.FieldType.object "java/lang/String"))) false (Jvm.ClassFile.MethodDescriptor.mk ([(Jvm.ClassFile.FieldType.object "java/lang/String")] : List Jvm.ClassFile.FieldType) (Option.some (Jvm.ClassFile.FieldType.object "java/lang/String")))) 30

def heap : Heap := #[{ cls := 7, slots := #[.long 0, .int 1, .null, .int 0, .null, .int 0, .int 0], vm := .statics 7 },
  { cls := 11, slots := #[.ref 3], vm := .statics 11 },
  { cls := 21, slots := #[.null, .null, .null], vm := .statics 21 },
  { cls := 11, slots := #[.null], vm := .none }]
def classes : Array Class := #[k0, k1, k2, k3, k4, k5, k6, k7, k8, k9, k10, k11, k12, k13, k14, k15, k16, k17, k18, k19, k20, k21, k22, k23, k24, k25, k26, k27, k28, k29, k30]
def interned : List (Array UInt16 × Addr) := []
def slotsUsed : Nat := 12
def theMethod : MethodId := ⟨1, 1⟩
def args0 : Array Value := #[.int 1, .int 2]
def aboutOver (below : List Frame) : State where
  vm := { classes := classes, interned := interned.toArray }
  heap := heap
  slotsUsed := slotsUsed
  threads := #[{ frames := .invoking theMethod args0 :: below }]
def below0 : List Frame := [.native { method := ⟨0, 0⟩, args := #[] }]
def about1 : State := aboutOver below0
def p0 : Program := .bare "" "" ""
def e0 : Env := launch0.env 0 0 0
theorem w_frames : about1.frames = Frame.invoking theMethod args0 :: below0 := rfl
set_option maxRecDepth 65536 in
theorem w_args : argsFit about1.vm theMethod args0 = true := by decide +kernel
set_option maxRecDepth 65536 in
theorem w_heap : heapFits about1 = true := by decide +kernel
set_option maxRecDepth 65536 in
theorem w_runnable : about1.curStatus? = some .runnable := by decide +kernel
set_option maxRecDepth 65536 in
theorem w_alone : about1.alone = true := by decide +kernel
set_option maxRecDepth 65536 in
theorem w_named : about1.methodNamed? x = some theMethod := by decide +kernel
set_option maxRecDepth 65536 in
theorem w_hears : about1.hears theMethod below0 = true := by decide +kernel
set_option maxRecDepth 65536 in
theorem w_ripe : about1.ripe theMethod args0 below0 = true := by decide +kernel
theorem w_running : about1.status = .running := rfl
set_option maxRecDepth 65536 in
theorem w_room : about1.hasRoom e0.platform room_1 = true :=
  launch0.hasRoom_least _ room_1 (by decide +kernel) (by decide +kernel) (by decide +kernel) (by decide +kernel) (by decide +kernel) (by decide +kernel)
theorem allAtoms_all (ts : List Jvm.Cond) (a : Array Jvm.Value) (st : Jvm.State) : (allAtoms ts).before a st = ts.all (fun c => c.before a st) := by
  induction ts with
  | nil => rfl
  | cons c t ih =>
    show (Jvm.Cond.and c (allAtoms t)).before a st = _
    rw [Jvm.Cond.before_and, ih, List.all_cons]
def words1 : List Jvm.Cond := Jvm.Cond.code x code maxLocals ret :: tables_1
/-- a 'code' word, met by the world's own term for the bytes: nothing is compared byte by byte -/
theorem code_word {y : MethodName} {bytes : ByteArray} {mx : Nat} {rt : Option FieldType} {a : Array Value} {s : State} {m : MethodId} {meth : Method} {c : Code} (h1 : s.methodNamed? y = some m) (h2 : s.vm.method? m = some meth) (h3 : meth.code = some c) (h4 : c.code = bytes)
    (h5 : (c.maxLocals == mx && c.exceptionTable.isEmpty && decide (c.maxStack ≤ mostOperands) && decide (meth.sig.returnType = rt) && !meth.locks && decide (parseMethodDescriptor y.desc = some meth.sig)) = true) : (Jvm.Cond.code y bytes mx rt).before a s = true := by
  simp only [Bool.and_eq_true, beq_iff_eq, Bool.not_eq_true', decide_eq_true_eq] at h5
  obtain ⟨⟨⟨⟨⟨g1, g2⟩, g3⟩, g4⟩, g5⟩, g6⟩ := h5
  simp [Cond.before, Cond.holds, Cond.value, h1, h2, h3, h4, g1, g2, g3, g4, g5, g6]
def isCode : Jvm.Cond → Bool
  | .code _ _ _ _ => true
  | _ => false
theorem all_split {L : List Jvm.Cond} {P : Jvm.Cond → Bool} (h1 : L.all (fun c => isCode c || P c) = true) (h2 : ∀ c ∈ L.filter isCode, P c = true) : L.all P = true := by
  refine List.all_eq_true.mpr fun c hc => ?_
  have h := List.all_eq_true.mp h1 c hc
  rcases Bool.eq_false_or_eq_true (isCode c) with hi | hi
  · exact h2 c (List.mem_filter.mpr ⟨hc, hi⟩)
  · simpa [hi] using h
set_option maxRecDepth 65536 in
theorem w_c0 : (Jvm.Cond.code x code maxLocals ret).before args0 about1 = true := code_word (m := ⟨1, 1⟩) (meth := k1m1) (c := k1c1) (by decide +kernel) rfl rfl rfl (by decide +kernel)
set_option maxRecDepth 65536 in
theorem w_c1 : (Jvm.Cond.code ({ cls := "java/lang/String", name := "<init>", desc := "([C)V" } : Jvm.MethodName) jdk_42_method_3_code (2 : Nat) (Option.none : Option Jvm.ClassFile.FieldType)).before args0 about1 = true := code_word (m := ⟨7, 1⟩) (meth := k7m1) (c := k7c1) (by decide +kernel) rfl rfl rfl (by decide +kernel)
set_option maxRecDepth 65536 in
theorem w_c2 : (Jvm.Cond.code ({ cls := "java/lang/String", name := "<init>", desc := "([CIILjava/lang/Void;)V" } : Jvm.MethodName) jdk_42_method_149_code (6 : Nat) (Option.none : Option Jvm.ClassFile.FieldType)).before args0 about1 = true := code_word (m := ⟨7, 6⟩) (meth := k7m6) (c := k7c6) (by decide +kernel) rfl rfl rfl (by decide +kernel)
set_option maxRecDepth 65536 in
theorem w_c3 : (Jvm.Cond.code ({ cls := "java/lang/Object", name := "<init>", desc := "()V" } : Jvm.MethodName) object_method_1_code (1 : Nat) (Option.none : Option Jvm.ClassFile.FieldType)).before args0 about1 = true := code_word (m := ⟨0, 0⟩) (meth := k0m0) (c := k0c0) (by decide +kernel) rfl rfl rfl (by decide +kernel)
set_option maxRecDepth 65536 in
theorem w_c4 : (Jvm.Cond.code ({ cls := "java/lang/StringUTF16", name := "compress", desc := "([CII)[B" } : Jvm.MethodName) jdk_52_method_16_code (6 : Nat) (Option.some (Jvm.ClassFile.FieldType.array Jvm.ClassFile.FieldType.byte))).before args0 about1 = true := code_word (m := ⟨8, 2⟩) (meth := k8m2) (c := k8c2) (by decide +kernel) rfl rfl rfl (by decide +kernel)
set_option maxRecDepth 65536 in
theorem w_c5 : (Jvm.Cond.code ({ cls := "java/lang/StringUTF16", name := "compress", desc := "([CI[BII)I" } : Jvm.MethodName) jdk_52_method_21_code (7 : Nat) (Option.some Jvm.ClassFile.FieldType.int)).before args0 about1 = true := code_word (m := ⟨8, 3⟩) (meth := k8m3) (c := k8c3) (by decide +kernel) rfl rfl rfl (by decide +kernel)
set_option maxRecDepth 65536 in
theorem w_c6 : (Jvm.Cond.code ({ cls := "java/lang/StringUTF16", name := "coderFromArrayLen", desc := "([BI)B" } : Jvm.MethodName) jdk_52_method_15_code (2 : Nat) (Option.some Jvm.ClassFile.FieldType.byte)).before args0 about1 = true := code_word (m := ⟨8, 1⟩) (meth := k8m1) (c := k8c1) (by decide +kernel) rfl rfl rfl (by decide +kernel)
set_option maxRecDepth 65536 in
theorem w_c7 : (Jvm.Cond.code ({ cls := "com/example/rein/rein/policy/Rule$Target", name := "column", desc := "(Ljava/lang/String;Ljava/lang/String;)Lcom/example/rein/rein/policy/Rule$Target;" } : Jvm.MethodName) prog_32_method_2_code (2 : Nat) (Option.some (Jvm.ClassFile.FieldType.object "com/example/rein/rein/policy/Rule$Target"))).before args0 about1 = true := code_word (m := ⟨10, 1⟩) (meth := k10m1) (c := k10c1) (by decide +kernel) rfl rfl rfl (by decide +kernel)
set_option maxRecDepth 65536 in
theorem w_c8 : (Jvm.Cond.code ({ cls := "java/util/Optional", name := "empty", desc := "()Ljava/util/Optional;" } : Jvm.MethodName) jdk_32_method_1_code (1 : Nat) (Option.some (Jvm.ClassFile.FieldType.object "java/util/Optional"))).before args0 about1 = true := code_word (m := ⟨11, 0⟩) (meth := k11m0) (c := k11c0) (by decide +kernel) rfl rfl rfl (by decide +kernel)
set_option maxRecDepth 65536 in
theorem w_c9 : (Jvm.Cond.code ({ cls := "com/example/rein/rein/policy/Rule$Target", name := "<init>", desc := "(Ljava/lang/String;Ljava/lang/String;Ljava/util/Optional;)V" } : Jvm.MethodName) prog_32_method_1_code (4 : Nat) (Option.none : Option Jvm.ClassFile.FieldType)).before args0 about1 = true := code_word (m := ⟨10, 0⟩) (meth := k10m0) (c := k10c0) (by decide +kernel) rfl rfl rfl (by decide +kernel)
set_option maxRecDepth 65536 in
theorem w_c10 : (Jvm.Cond.code ({ cls := "java/lang/Record", name := "<init>", desc := "()V" } : Jvm.MethodName) jdk_30_method_1_code (1 : Nat) (Option.none : Option Jvm.ClassFile.FieldType)).before args0 about1 = true := code_word (m := ⟨9, 0⟩) (meth := k9m0) (c := k9c0) (by decide +kernel) rfl rfl rfl (by decide +kernel)
set_option maxRecDepth 65536 in
theorem w_c11 : (Jvm.Cond.code ({ cls := "java/util/Objects", name := "requireNonNull", desc := "(Ljava/lang/Object;Ljava/lang/String;)Ljava/lang/Object;" } : Jvm.MethodName) jdk_31_method_11_code (2 : Nat) (Option.some (Jvm.ClassFile.FieldType.object "java/lang/Object"))).before args0 about1 = true := code_word (m := ⟨12, 2⟩) (meth := k12m2) (c := k12c2) (by decide +kernel) rfl rfl rfl (by decide +kernel)
set_option maxRecDepth 65536 in
theorem w_c12 : (Jvm.Cond.code ({ cls := "com/example/rein/rein/policy/Rule$Target", name := "collection", desc := "()Ljava/lang/String;" } : Jvm.MethodName) prog_32_method_7_code (1 : Nat) (Option.some (Jvm.ClassFile.FieldType.object "java/lang/String"))).before args0 about1 = true := code_word (m := ⟨10, 3⟩) (meth := k10m3) (c := k10c3) (by decide +kernel) rfl rfl rfl (by decide +kernel)
set_option maxRecDepth 65536 in
theorem w_c13 : (Jvm.Cond.code ({ cls := "java/lang/String", name := "equals", desc := "(Ljava/lang/Object;)Z" } : Jvm.MethodName) jdk_42_method_66_code (3 : Nat) (Option.some Jvm.ClassFile.FieldType.boolean)).before args0 about1 = true := code_word (m := ⟨7, 4⟩) (meth := k7m4) (c := k7c4) (by decide +kernel) rfl rfl rfl (by decide +kernel)
set_option maxRecDepth 65536 in
theorem w_c14 : (Jvm.Cond.code ({ cls := "com/example/rein/rein/policy/Rule$Target", name := "field", desc := "()Ljava/lang/String;" } : Jvm.MethodName) prog_32_method_8_code (1 : Nat) (Option.some (Jvm.ClassFile.FieldType.object "java/lang/String"))).before args0 about1 = true := code_word (m := ⟨10, 4⟩) (meth := k10m4) (c := k10c4) (by decide +kernel) rfl rfl rfl (by decide +kernel)
set_option maxRecDepth 65536 in
theorem w_c15 : (Jvm.Cond.code ({ cls := "com/example/rein/rein/policy/Rule$Target", name := "toString", desc := "()Ljava/lang/String;" } : Jvm.MethodName) prog_32_method_4_code (1 : Nat) (Option.some (Jvm.ClassFile.FieldType.object "java/lang/String"))).before args0 about1 = true := code_word (m := ⟨10, 2⟩) (meth := k10m2) (c := k10c2) (by decide +kernel) rfl rfl rfl (by decide +kernel)
set_option maxRecDepth 65536 in
theorem w_c16 : (Jvm.Cond.code ({ cls := "java/util/Optional", name := "map", desc := "(Ljava/util/function/Function;)Ljava/util/Optional;" } : Jvm.MethodName) jdk_32_method_11_code (2 : Nat) (Option.some (Jvm.ClassFile.FieldType.object "java/util/Optional"))).before args0 about1 = true := code_word (m := ⟨11, 2⟩) (meth := k11m2) (c := k11c2) (by decide +kernel) rfl rfl rfl (by decide +kernel)
set_option maxRecDepth 65536 in
theorem w_c17 : (Jvm.Cond.code ({ cls := "java/util/Objects", name := "requireNonNull", desc := "(Ljava/lang/Object;)Ljava/lang/Object;" } : Jvm.MethodName) jdk_31_method_10_code (1 : Nat) (Option.some (Jvm.ClassFile.FieldType.object "java/lang/Object"))).before args0 about1 = true := code_word (m := ⟨12, 1⟩) (meth := k12m1) (c := k12c1) (by decide +kernel) rfl rfl rfl (by decide +kernel)
set_option maxRecDepth 65536 in
theorem w_c18 : (Jvm.Cond.code ({ cls := "java/util/Optional", name := "isEmpty", desc := "()Z" } : Jvm.MethodName) jdk_32_method_7_code (1 : Nat) (Option.some Jvm.ClassFile.FieldType.boolean)).before args0 about1 = true := code_word (m := ⟨11, 1⟩) (meth := k11m1) (c := k11c1) (by decide +kernel) rfl rfl rfl (by decide +kernel)
set_option maxRecDepth 65536 in
theorem w_c19 : (Jvm.Cond.code ({ cls := "java/lang/StringBuilder", name := "<init>", desc := "()V" } : Jvm.MethodName) jdk_67_method_1_code (1 : Nat) (Option.none : Option Jvm.ClassFile.FieldType)).before args0 about1 = true := code_word (m := ⟨16, 0⟩) (meth := k16m0) (c := k16c0) (by decide +kernel) rfl rfl rfl (by decide +kernel)
set_option maxRecDepth 65536 in
theorem w_c20 : (Jvm.Cond.code ({ cls := "java/lang/AbstractStringBuilder", name := "<init>", desc := "(I)V" } : Jvm.MethodName) jdk_68_method_2_code (2 : Nat) (Option.none : Option Jvm.ClassFile.FieldType)).before args0 about1 = true := code_word (m := ⟨15, 1⟩) (meth := k15m1) (c := k15c1) (by decide +kernel) rfl rfl rfl (by decide +kernel)
set_option maxRecDepth 65536 in
theorem w_c21 : (Jvm.Cond.code ({ cls := "java/lang/StringBuilder", name := "append", desc := "(Ljava/lang/String;)Ljava/lang/StringBuilder;" } : Jvm.MethodName) jdk_67_method_7_code (2 : Nat) (Option.some (Jvm.ClassFile.FieldType.object "java/lang/StringBuilder"))).before args0 about1 = true := code_word (m := ⟨16, 1⟩) (meth := k16m1) (c := k16c1) (by decide +kernel) rfl rfl rfl (by decide +kernel)
set_option maxRecDepth 65536 in
theorem w_c22 : (Jvm.Cond.code ({ cls := "java/lang/AbstractStringBuilder", name := "append", desc := "(Ljava/lang/String;)Ljava/lang/AbstractStringBuilder;" } : Jvm.MethodName) jdk_68_method_22_code (3 : Nat) (Option.some (Jvm.ClassFile.FieldType.object "java/lang/AbstractStringBuilder"))).before args0 about1 = true := code_word (m := ⟨15, 4⟩) (meth := k15m4) (c := k15c4) (by decide +kernel) rfl rfl rfl (by decide +kernel)
set_option maxRecDepth 65536 in
theorem w_c23 : (Jvm.Cond.code ({ cls := "java/lang/String", name := "length", desc := "()I" } : Jvm.MethodName) jdk_42_method_54_code (1 : Nat) (Option.some Jvm.ClassFile.FieldType.int)).before args0 about1 = true := code_word (m := ⟨7, 3⟩) (meth := k7m3) (c := k7c3) (by decide +kernel) rfl rfl rfl (by decide +kernel)
set_option maxRecDepth 65536 in
theorem w_c24 : (Jvm.Cond.code ({ cls := "java/lang/String", name := "coder", desc := "()B" } : Jvm.MethodName) jdk_42_method_152_code (1 : Nat) (Option.some Jvm.ClassFile.FieldType.byte)).before args0 about1 = true := code_word (m := ⟨7, 8⟩) (meth := k7m8) (c := k7c8) (by decide +kernel) rfl rfl rfl (by decide +kernel)
set_option maxRecDepth 65536 in
theorem w_c25 : (Jvm.Cond.code ({ cls := "java/lang/AbstractStringBuilder", name := "ensureCapacityInternal", desc := "(I)V" } : Jvm.MethodName) jdk_68_method_9_code (3 : Nat) (Option.none : Option Jvm.ClassFile.FieldType)).before args0 about1 = true := code_word (m := ⟨15, 3⟩) (meth := k15m3) (c := k15c3) (by decide +kernel) rfl rfl rfl (by decide +kernel)
set_option maxRecDepth 65536 in
theorem w_c26 : (Jvm.Cond.code ({ cls := "java/lang/AbstractStringBuilder", name := "putStringAt", desc := "(ILjava/lang/String;)V" } : Jvm.MethodName) jdk_68_method_73_code (3 : Nat) (Option.none : Option Jvm.ClassFile.FieldType)).before args0 about1 = true := code_word (m := ⟨15, 8⟩) (meth := k15m8) (c := k15c8) (by decide +kernel) rfl rfl rfl (by decide +kernel)
set_option maxRecDepth 65536 in
theorem w_c27 : (Jvm.Cond.code ({ cls := "java/lang/AbstractStringBuilder", name := "inflateIfNeededFor", desc := "(Ljava/lang/String;)V" } : Jvm.MethodName) jdk_68_method_71_code (2 : Nat) (Option.none : Option Jvm.ClassFile.FieldType)).before args0 about1 = true := code_word (m := ⟨15, 7⟩) (meth := k15m7) (c := k15c7) (by decide +kernel) rfl rfl rfl (by decide +kernel)
set_option maxRecDepth 65536 in
theorem w_c28 : (Jvm.Cond.code ({ cls := "java/lang/String", name := "getBytes", desc := "([BIB)V" } : Jvm.MethodName) jdk_42_method_147_code (4 : Nat) (Option.none : Option Jvm.ClassFile.FieldType)).before args0 about1 = true := code_word (m := ⟨7, 5⟩) (meth := k7m5) (c := k7c5) (by decide +kernel) rfl rfl rfl (by decide +kernel)
set_option maxRecDepth 65536 in
theorem w_c29 : (Jvm.Cond.code ({ cls := "java/lang/StringBuilder", name := "toString", desc := "()Ljava/lang/String;" } : Jvm.MethodName) jdk_67_method_42_code (1 : Nat) (Option.some (Jvm.ClassFile.FieldType.object "java/lang/String"))).before args0 about1 = true := code_word (m := ⟨16, 2⟩) (meth := k16m2) (c := k16c2) (by decide +kernel) rfl rfl rfl (by decide +kernel)
set_option maxRecDepth 65536 in
theorem w_c30 : (Jvm.Cond.code ({ cls := "java/lang/String", name := "<init>", desc := "(Ljava/lang/StringBuilder;)V" } : Jvm.MethodName) jdk_42_method_53_code (2 : Nat) (Option.none : Option Jvm.ClassFile.FieldType)).before args0 about1 = true := code_word (m := ⟨7, 2⟩) (meth := k7m2) (c := k7c2) (by decide +kernel) rfl rfl rfl (by decide +kernel)
set_option maxRecDepth 65536 in
theorem w_c31 : (Jvm.Cond.code ({ cls := "java/lang/String", name := "<init>", desc := "(Ljava/lang/AbstractStringBuilder;Ljava/lang/Void;)V" } : Jvm.MethodName) jdk_42_method_150_code (5 : Nat) (Option.none : Option Jvm.ClassFile.FieldType)).before args0 about1 = true := code_word (m := ⟨7, 7⟩) (meth := k7m7) (c := k7c7) (by decide +kernel) rfl rfl rfl (by decide +kernel)
set_option maxRecDepth 65536 in
theorem w_c32 : (Jvm.Cond.code ({ cls := "java/lang/AbstractStringBuilder", name := "getValue", desc := "()[B" } : Jvm.MethodName) jdk_68_method_64_code (1 : Nat) (Option.some (Jvm.ClassFile.FieldType.array Jvm.ClassFile.FieldType.byte))).before args0 about1 = true := code_word (m := ⟨15, 5⟩) (meth := k15m5) (c := k15c5) (by decide +kernel) rfl rfl rfl (by decide +kernel)
set_option maxRecDepth 65536 in
theorem w_c33 : (Jvm.Cond.code ({ cls := "java/lang/StringBuilder", name := "length", desc := "()I" } : Jvm.MethodName) jdk_67_method_93_code (1 : Nat) (Option.some Jvm.ClassFile.FieldType.int)).before args0 about1 = true := code_word (m := ⟨16, 3⟩) (meth := k16m3) (c := k16c3) (by decide +kernel) rfl rfl rfl (by decide +kernel)
set_option maxRecDepth 65536 in
theorem w_c34 : (Jvm.Cond.code ({ cls := "java/lang/AbstractStringBuilder", name := "length", desc := "()I" } : Jvm.MethodName) jdk_68_method_6_code (1 : Nat) (Option.some Jvm.ClassFile.FieldType.int)).before args0 about1 = true := code_word (m := ⟨15, 2⟩) (meth := k15m2) (c := k15c2) (by decide +kernel) rfl rfl rfl (by decide +kernel)
set_option maxRecDepth 65536 in
theorem w_c35 : (Jvm.Cond.code ({ cls := "java/lang/AbstractStringBuilder", name := "isLatin1", desc := "()Z" } : Jvm.MethodName) jdk_68_method_68_code (1 : Nat) (Option.some Jvm.ClassFile.FieldType.boolean)).before args0 about1 = true := code_word (m := ⟨15, 6⟩) (meth := k15m6) (c := k15c6) (by decide +kernel) rfl rfl rfl (by decide +kernel)
set_option maxRecDepth 65536 in
theorem w_c36 : (Jvm.Cond.code ({ cls := "java/util/Arrays", name := "copyOfRange", desc := "([BII)[B" } : Jvm.MethodName) jdk_65_method_132_code (3 : Nat) (Option.some (Jvm.ClassFile.FieldType.array Jvm.ClassFile.FieldType.byte))).before args0 about1 = true := code_word (m := ⟨18, 2⟩) (meth := k18m2) (c := k18c2) (by decide +kernel) rfl rfl rfl (by decide +kernel)
set_option maxRecDepth 65536 in
theorem w_c37 : (Jvm.Cond.code ({ cls := "java/util/Arrays", name := "copyOfRangeByte", desc := "([BII)[B" } : Jvm.MethodName) jdk_65_method_133_code (5 : Nat) (Option.some (Jvm.ClassFile.FieldType.array Jvm.ClassFile.FieldType.byte))).before args0 about1 = true := code_word (m := ⟨18, 3⟩) (meth := k18m3) (c := k18c3) (by decide +kernel) rfl rfl rfl (by decide +kernel)
set_option maxRecDepth 65536 in
theorem w_c38 : (Jvm.Cond.code ({ cls := "java/util/Arrays", name := "checkLength", desc := "(II)V" } : Jvm.MethodName) jdk_65_method_131_code (2 : Nat) (Option.none : Option Jvm.ClassFile.FieldType)).before args0 about1 = true := code_word (m := ⟨18, 1⟩) (meth := k18m1) (c := k18c1) (by decide +kernel) rfl rfl rfl (by decide +kernel)
set_option maxRecDepth 65536 in
theorem w_c39 : (Jvm.Cond.code ({ cls := "java/lang/Math", name := "min", desc := "(II)I" } : Jvm.MethodName) jdk_29_method_69_code (2 : Nat) (Option.some Jvm.ClassFile.FieldType.int)).before args0 about1 = true := code_word (m := ⟨19, 1⟩) (meth := k19m1) (c := k19c1) (by decide +kernel) rfl rfl rfl (by decide +kernel)
set_option maxRecDepth 65536 in
theorem w_c40 : (Jvm.Cond.code ({ cls := "java/util/Optional", name := "orElse", desc := "(Ljava/lang/Object;)Ljava/lang/Object;" } : Jvm.MethodName) jdk_32_method_15_code (2 : Nat) (Option.some (Jvm.ClassFile.FieldType.object "java/lang/Object"))).before args0 about1 = true := code_word (m := ⟨11, 3⟩) (meth := k11m3) (c := k11c3) (by decide +kernel) rfl rfl rfl (by decide +kernel)
set_option maxRecDepth 65536 in
theorem w_c41 : (Jvm.Cond.code ({ cls := "java/lang/StringLatin1", name := "equals", desc := "([B[B)Z" } : Jvm.MethodName) jdk_43_method_13_code (3 : Nat) (Option.some Jvm.ClassFile.FieldType.boolean)).before args0 about1 = true := code_word (m := ⟨20, 1⟩) (meth := k20m1) (c := k20c1) (by decide +kernel) rfl rfl rfl (by decide +kernel)
def codes1 : List Jvm.Cond := [Jvm.Cond.code x code maxLocals ret, Jvm.Cond.code ({ cls := "java/lang/String", name := "<init>", desc := "([C)V" } : Jvm.MethodName) jdk_42_method_3_code (2 : Nat) (Option.none : Option Jvm.ClassFile.FieldType), Jvm.Cond.code ({ cls := "java/lang/String", name := "<init>", desc := "([CIILjava/lang/Void;)V" } : Jvm.MethodName) jdk_42_method_149_code (6 : Nat) (Option.none : Option Jvm.ClassFile.FieldType), Jvm.Cond.code ({ cls := "java/lang/Object", name := "<init>", desc := "()V" } : Jvm.MethodName) object_method_1_code (1 : Nat) (Option.none : Option Jvm.ClassFile.FieldType), Jvm.Cond.code ({ cls := "java/lang/StringUTF16", name := "compress", desc := "([CII)[B" } : Jvm.MethodName) jdk_52_method_16_code (6 : Nat) (Option.some (Jvm.ClassFile.FieldType.array Jvm.ClassFile.FieldType.byte)), Jvm.Cond.code ({ cls := "java/lang/StringUTF16", name := "compress", desc := "([CI[BII)I" } : Jvm.MethodName) jdk_52_method_21_code (7 : Nat) (Option.some Jvm.ClassFile.FieldType.int), Jvm.Cond.code ({ cls := "java/lang/StringUTF16", name := "coderFromArrayLen", desc := "([BI)B" } : Jvm.MethodName) jdk_52_method_15_code (2 : Nat) (Option.some Jvm.ClassFile.FieldType.byte), Jvm.Cond.code ({ cls := "com/example/rein/rein/policy/Rule$Target", name := "column", desc := "(Ljava/lang/String;Ljava/lang/String;)Lcom/example/rein/rein/policy/Rule$Target;" } : Jvm.MethodName) prog_32_method_2_code (2 : Nat) (Option.some (Jvm.ClassFile.FieldType.object "com/example/rein/rein/policy/Rule$Target")), Jvm.Cond.code ({ cls := "java/util/Optional", name := "empty", desc := "()Ljava/util/Optional;" } : Jvm.MethodName) jdk_32_method_1_code (1 : Nat) (Option.some (Jvm.ClassFile.FieldType.object "java/util/Optional")), Jvm.Cond.code ({ cls := "com/example/rein/rein/policy/Rule$Target", name := "<init>", desc := "(Ljava/lang/String;Ljava/lang/String;Ljava/util/Optional;)V" } : Jvm.MethodName) prog_32_method_1_code (4 : Nat) (Option.none : Option Jvm.ClassFile.FieldType), Jvm.Cond.code ({ cls := "java/lang/Record", name := "<init>", desc := "()V" } : Jvm.MethodName) jdk_30_method_1_code (1 : Nat) (Option.none : Option Jvm.ClassFile.FieldType), Jvm.Cond.code ({ cls := "java/util/Objects", name := "requireNonNull", desc := "(Ljava/lang/Object;Ljava/lang/String;)Ljava/lang/Object;" } : Jvm.MethodName) jdk_31_method_11_code (2 : Nat) (Option.some (Jvm.ClassFile.FieldType.object "java/lang/Object")), Jvm.Cond.code ({ cls := "com/example/rein/rein/policy/Rule$Target", name := "collection", desc := "()Ljava/lang/String;" } : Jvm.MethodName) prog_32_method_7_code (1 : Nat) (Option.some (Jvm.ClassFile.FieldType.object "java/lang/String")), Jvm.Cond.code ({ cls := "java/lang/String", name := "equals", desc := "(Ljava/lang/Object;)Z" } : Jvm.MethodName) jdk_42_method_66_code (3 : Nat) (Option.some Jvm.ClassFile.FieldType.boolean), Jvm.Cond.code ({ cls := "com/example/rein/rein/policy/Rule$Target", name := "field", desc := "()Ljava/lang/String;" } : Jvm.MethodName) prog_32_method_8_code (1 : Nat) (Option.some (Jvm.ClassFile.FieldType.object "java/lang/String")), Jvm.Cond.code ({ cls := "com/example/rein/rein/policy/Rule$Target", name := "toString", desc := "()Ljava/lang/String;" } : Jvm.MethodName) prog_32_method_4_code (1 : Nat) (Option.some (Jvm.ClassFile.FieldType.object "java/lang/String")), Jvm.Cond.code ({ cls := "java/util/Optional", name := "map", desc := "(Ljava/util/function/Function;)Ljava/util/Optional;" } : Jvm.MethodName) jdk_32_method_11_code (2 : Nat) (Option.some (Jvm.ClassFile.FieldType.object "java/util/Optional")), Jvm.Cond.code ({ cls := "java/util/Objects", name := "requireNonNull", desc := "(Ljava/lang/Object;)Ljava/lang/Object;" } : Jvm.MethodName) jdk_31_method_10_code (1 : Nat) (Option.some (Jvm.ClassFile.FieldType.object "java/lang/Object")), Jvm.Cond.code ({ cls := "java/util/Optional", name := "isEmpty", desc := "()Z" } : Jvm.MethodName) jdk_32_method_7_code (1 : Nat) (Option.some Jvm.ClassFile.FieldType.boolean), Jvm.Cond.code ({ cls := "java/lang/StringBuilder", name := "<init>", desc := "()V" } : Jvm.MethodName) jdk_67_method_1_code (1 : Nat) (Option.none : Option Jvm.ClassFile.FieldType), Jvm.Cond.code ({ cls := "java/lang/AbstractStringBuilder", name := "<init>", desc := "(I)V" } : Jvm.MethodName) jdk_68_method_2_code (2 : Nat) (Option.none : Option Jvm.ClassFile.FieldType), Jvm.Cond.code ({ cls := "java/lang/StringBuilder", name := "append", desc := "(Ljava/lang/String;)Ljava/lang/StringBuilder;" } : Jvm.MethodName) jdk_67_method_7_code (2 : Nat) (Option.some (Jvm.ClassFile.FieldType.object "java/lang/StringBuilder")), Jvm.Cond.code ({ cls := "java/lang/AbstractStringBuilder", name := "append", desc := "(Ljava/lang/String;)Ljava/lang/AbstractStringBuilder;" } : Jvm.MethodName) jdk_68_method_22_code (3 : Nat) (Option.some (Jvm.ClassFile.FieldType.object "java/lang/AbstractStringBuilder")), Jvm.Cond.code ({ cls := "java/lang/String", name := "length", desc := "()I" } : Jvm.MethodName) jdk_42_method_54_code (1 : Nat) (Option.some Jvm.ClassFile.FieldType.int), Jvm.Cond.code ({ cls := "java/lang/String", name := "coder", desc := "()B" } : Jvm.MethodName) jdk_42_method_152_code (1 : Nat) (Option.some Jvm.ClassFile.FieldType.byte), Jvm.Cond.code ({ cls := "java/lang/AbstractStringBuilder", name := "ensureCapacityInternal", desc := "(I)V" } : Jvm.MethodName) jdk_68_method_9_code (3 : Nat) (Option.none : Option Jvm.ClassFile.FieldType), Jvm.Cond.code ({ cls := "java/lang/AbstractStringBuilder", name := "putStringAt", desc := "(ILjava/lang/String;)V" } : Jvm.MethodName) jdk_68_method_73_code (3 : Nat) (Option.none : Option Jvm.ClassFile.FieldType), Jvm.Cond.code ({ cls := "java/lang/AbstractStringBuilder", name := "inflateIfNeededFor", desc := "(Ljava/lang/String;)V" } : Jvm.MethodName) jdk_68_method_71_code (2 : Nat) (Option.none : Option Jvm.ClassFile.FieldType), Jvm.Cond.code ({ cls := "java/lang/String", name := "getBytes", desc := "([BIB)V" } : Jvm.MethodName) jdk_42_method_147_code (4 : Nat) (Option.none : Option Jvm.ClassFile.FieldType), Jvm.Cond.code ({ cls := "java/lang/StringBuilder", name := "toString", desc := "()Ljava/lang/String;" } : Jvm.MethodName) jdk_67_method_42_code (1 : Nat) (Option.some (Jvm.ClassFile.FieldType.object "java/lang/String")), Jvm.Cond.code ({ cls := "java/lang/String", name := "<init>", desc := "(Ljava/lang/StringBuilder;)V" } : Jvm.MethodName) jdk_42_method_53_code (2 : Nat) (Option.none : Option Jvm.ClassFile.FieldType), Jvm.Cond.code ({ cls := "java/lang/String", name := "<init>", desc := "(Ljava/lang/AbstractStringBuilder;Ljava/lang/Void;)V" } : Jvm.MethodName) jdk_42_method_150_code (5 : Nat) (Option.none : Option Jvm.ClassFile.FieldType), Jvm.Cond.code ({ cls := "java/lang/AbstractStringBuilder", name := "getValue", desc := "()[B" } : Jvm.MethodName) jdk_68_method_64_code (1 : Nat) (Option.some (Jvm.ClassFile.FieldType.array Jvm.ClassFile.FieldType.byte)), Jvm.Cond.code ({ cls := "java/lang/StringBuilder", name := "length", desc := "()I" } : Jvm.MethodName) jdk_67_method_93_code (1 : Nat) (Option.some Jvm.ClassFile.FieldType.int), Jvm.Cond.code ({ cls := "java/lang/AbstractStringBuilder", name := "length", desc := "()I" } : Jvm.MethodName) jdk_68_method_6_code (1 : Nat) (Option.some Jvm.ClassFile.FieldType.int), Jvm.Cond.code ({ cls := "java/lang/AbstractStringBuilder", name := "isLatin1", desc := "()Z" } : Jvm.MethodName) jdk_68_method_68_code (1 : Nat) (Option.some Jvm.ClassFile.FieldType.boolean), Jvm.Cond.code ({ cls := "java/util/Arrays", name := "copyOfRange", desc := "([BII)[B" } : Jvm.MethodName) jdk_65_method_132_code (3 : Nat) (Option.some (Jvm.ClassFile.FieldType.array Jvm.ClassFile.FieldType.byte)), Jvm.Cond.code ({ cls := "java/util/Arrays", name := "copyOfRangeByte", desc := "([BII)[B" } : Jvm.MethodName) jdk_65_method_133_code (5 : Nat) (Option.some (Jvm.ClassFile.FieldType.array Jvm.ClassFile.FieldType.byte)), Jvm.Cond.code ({ cls := "java/util/Arrays", name := "checkLength", desc := "(II)V" } : Jvm.MethodName) jdk_65_method_131_code (2 : Nat) (Option.none : Option Jvm.ClassFile.FieldType), Jvm.Cond.code ({ cls := "java/lang/Math", name := "min", desc := "(II)I" } : Jvm.MethodName) jdk_29_method_69_code (2 : Nat) (Option.some Jvm.ClassFile.FieldType.int), Jvm.Cond.code ({ cls := "java/util/Optional", name := "orElse", desc := "(Ljava/lang/Object;)Ljava/lang/Object;" } : Jvm.MethodName) jdk_32_method_15_code (2 : Nat) (Option.some (Jvm.ClassFile.FieldType.object "java/lang/Object")), Jvm.Cond.code ({ cls := "java/lang/StringLatin1", name := "equals", desc := "([B[B)Z" } : Jvm.MethodName) jdk_43_method_13_code (3 : Nat) (Option.some Jvm.ClassFile.FieldType.boolean)]
set_option maxRecDepth 65536 in
theorem codes_eq : words1.filter isCode = codes1 := rfl
theorem w_codes : ∀ c ∈ words1.filter isCode, c.before args0 about1 = true := by
  rw [codes_eq]
  intro c hc
  simp only [codes1, List.mem_cons, List.not_mem_nil, or_false] at hc
  rcases hc with rfl | rfl | rfl | rfl | rfl | rfl | rfl | rfl | rfl | rfl | rfl | rfl | rfl | rfl | rfl | rfl | rfl | rfl | rfl | rfl | rfl | rfl | rfl | rfl | rfl | rfl | rfl | rfl | rfl | rfl | rfl | rfl | rfl | rfl | rfl | rfl | rfl | rfl | rfl | rfl | rfl | rfl
  · exact w_c0
  · exact w_c1
  · exact w_c2
  · exact w_c3
  · exact w_c4
  · exact w_c5
  · exact w_c6
  · exact w_c7
  · exact w_c8
  · exact w_c9
  · exact w_c10
  · exact w_c11
  · exact w_c12
  · exact w_c13
  · exact w_c14
  · exact w_c15
  · exact w_c16
  · exact w_c17
  · exact w_c18
  · exact w_c19
  · exact w_c20
  · exact w_c21
  · exact w_c22
  · exact w_c23
  · exact w_c24
  · exact w_c25
  · exact w_c26
  · exact w_c27
  · exact w_c28
  · exact w_c29
  · exact w_c30
  · exact w_c31
  · exact w_c32
  · exact w_c33
  · exact w_c34
  · exact w_c35
  · exact w_c36
  · exact w_c37
  · exact w_c38
  · exact w_c39
  · exact w_c40
  · exact w_c41
set_option maxRecDepth 65536 in
theorem w_t1 : (words1.take 24).all (fun c => isCode c || c.before args0 about1) = true := by decide +kernel
set_option maxRecDepth 65536 in
theorem w_t2 : ((words1.drop 24).take 24).all (fun c => isCode c || c.before args0 about1) = true := by decide +kernel
set_option maxRecDepth 65536 in
theorem w_t3 : (((words1.drop 24).drop 24).take 24).all (fun c => isCode c || c.before args0 about1) = true := by decide +kernel
set_option maxRecDepth 65536 in
theorem w_t4 : ((((words1.drop 24).drop 24).drop 24).take 24).all (fun c => isCode c || c.before args0 about1) = true := by decide +kernel
set_option maxRecDepth 65536 in
theorem w_t5 : (((((words1.drop 24).drop 24).drop 24).drop 24).take 24).all (fun c => isCode c || c.before args0 about1) = true := by decide +kernel
set_option maxRecDepth 65536 in
theorem w_t6 : ((((((words1.drop 24).drop 24).drop 24).drop 24).drop 24).take 24).all (fun c => isCode c || c.before args0 about1) = true := by decide +kernel
set_option maxRecDepth 65536 in
theorem w_t7 : (((((((words1.drop 24).drop 24).drop 24).drop 24).drop 24).drop 24).take 24).all (fun c => isCode c || c.before args0 about1) = true := by decide +kernel
set_option maxRecDepth 65536 in
theorem w_t8 : ((((((((words1.drop 24).drop 24).drop 24).drop 24).drop 24).drop 24).drop 24).take 24).all (fun c => isCode c || c.before args0 about1) = true := by decide +kernel
set_option maxRecDepth 65536 in
theorem w_t9 : (((((((((words1.drop 24).drop 24).drop 24).drop 24).drop 24).drop 24).drop 24).drop 24).take 24).all (fun c => isCode c || c.before args0 about1) = true := by decide +kernel
set_option maxRecDepth 65536 in
theorem w_t10 : (((((((((words1.drop 24).drop 24).drop 24).drop 24).drop 24).drop 24).drop 24).drop 24).drop 24).all (fun c => isCode c || c.before args0 about1) = true := by decide +kernel
theorem w_tables : (allAtoms (Jvm.Cond.code x code maxLocals ret :: tables_1)).before args0 about1 = true := by
  rw [allAtoms_all]
  show words1.all (fun c => c.before args0 about1) = true
  refine all_split ?_ w_codes
  rw [← List.take_append_drop 24 words1, List.all_append, w_t1, ← List.take_append_drop 24 (words1.drop 24), List.all_append, w_t2, ← List.take_append_drop 24 ((words1.drop 24).drop 24), List.all_append, w_t3, ← List.take_append_drop 24 (((words1.drop 24).drop 24).drop 24), List.all_append, w_t4, ← List.take_append_drop 24 ((((words1.drop 24).drop 24).drop 24).drop 24), List.all_append, w_t5, ← List.take_append_drop 24 (((((words1.drop 24).drop 24).drop 24).drop 24).drop 24), List.all_append, w_t6, ← List.take_append_drop 24 ((((((words1.drop 24).drop 24).drop 24).drop 24).drop 24).drop 24), List.all_append, w_t7, ← List.take_append_drop 24 (((((((words1.drop 24).drop 24).drop 24).drop 24).drop 24).drop 24).drop 24), List.all_append, w_t8, ← List.take_append_drop 24 ((((((((words1.drop 24).drop 24).drop 24).drop 24).drop 24).drop 24).drop 24).drop 24), List.all_append, w_t9, w_t10]
  rfl
set_option maxRecDepth 65536 in
theorem w_rest : rest_1_c.before args0 about1 = true := by decide +kernel
set_option maxRecDepth 65536 in
theorem w_case : (Jvm.Cond.and given_1 narrow_1).before args0 about1 = true := by decide +kernel
set_option maxRecDepth 65536 in
theorem w_consts : constsHeld consts_1 about1 := Jvm.Lit.constsHeldB_iff.mp (by decide +kernel)
theorem w_applies : (headSpec (Jvm.Cond.code x code maxLocals ret :: tables_1) room_1).applies x e0.platform about1 = true :=
  (Spec.applies_iff w_frames).mpr ⟨w_running, w_runnable, w_alone, w_named, w_hears, w_ripe, w_room, w_tables⟩
theorem atStart : AtStart classFile x code maxLocals ret World_1 tables_1 room_1 Calls_1 rest_1 Pre_1 launch0 p0 e0 about1 theMethod args0 below0 :=
  ⟨lists_1, trivial, launch0.admits_env _ _ _, launch0.least_env, fairChoices_fair.cas, fairChoices_fair.clock, w_frames, w_args, w_heap, w_applies, ⟨w_consts, trivial⟩, w_rest, w_case⟩
end start1
theorem witness_1 : WitnessClaimed_1 := ⟨start1.p0, start1.e0, start1.about1, start1.theMethod, start1.args0, start1.below0, start1.atStart⟩
end Jvm.Pilot.@@N@@
