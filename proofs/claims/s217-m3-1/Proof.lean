import JvmDerived
import JvmDerived.Pilot.@@N@@Statement
import JvmDerived.Pilot.@@N@@Code
set_option linter.unusedVariables false
set_option linter.unusedSimpArgs false
/- laws to paste: Road.backV (cut by pick.py; bodies as the Statement names them) -/
namespace Jvm.Pilot.@@N@@
namespace StrChars
open Jvm Sem ClassFile Op Lib Jvm.Stand Jvm.Free.XT Jvm.Free.ALB Jvm.Free.JM Jvm.Free
open Jvm.Lib.Cold (StaticIs)
/-- a char array whose places are chars -/
def Ch (a : Addr) (A : Cell) (U : State) : Prop := Arr .char a A U ∧ Typed .char A
theorem Ch.mv {a : Addr} {A : Cell} {U U' : State} (h : Ch a A U) (hal : U.vm.Alike U'.vm) (hh : U'.heap = U.heap) : Ch a A U' := ⟨h.1.mv hal hh, h.2⟩
theorem Ch.keep {a : Addr} {A : Cell} {U U' : State} (h : Ch a A U) (hal : U.vm.Alike U'.vm) (hk : U'.heap[a]? = some A) : Ch a A U' := ⟨h.1.keep hal hk, h.2⟩
/-- what place i of a char[]'s cell holds -/
def cv (A : Cell) (i : Nat) : Int32 := match A.slots[i]? with | some (.int x) => x | _ => 0
theorem Ch.get {a : Addr} {A : Cell} {U : State} (h : Ch a A U) {i : Nat} (hi : i < A.slots.size) : A.slots[i]? = some (.int (cv A i)) := by
  have e := Array.getElem?_eq_getElem hi
  have f := h.2 i _ e
  unfold cv; rw [e]
  generalize A.slots[i] = v at f
  cases v <;> simp [fits] at f ⊢
/-- the byte that i2b leaves of a char -/
def lo8 (x : Int32) : Int32 := x.toInt8.toInt32
theorem fits_lo8 (y : Int32) : fits .byte (.int (lo8 y)) = true := by
  have h1 := y.toInt8.le_toInt
  have h2 := y.toInt8.toInt_lt
  simp only [lo8, fits, Bool.and_eq_true, decide_eq_true_eq, Int32.le_iff_toInt_le, Int8.toInt_toInt32, show (-128 : Int32).toInt = -128 from by decide, show (127 : Int32).toInt = 127 from by decide]
  omega
/-- A' is A but that each place j of lo .. hi - 1 holds f j -/
def Laid (A A' : Cell) (lo hi : Nat) (f : Nat → Value) : Prop := A'.cls = A.cls ∧ A'.vm = A.vm ∧ A'.slots.size = A.slots.size ∧ ∀ i, A'.slots[i]? = if lo ≤ i ∧ i < hi then some (f i) else A.slots[i]?
theorem Laid.zero (A : Cell) (lo : Nat) (f : Nat → Value) : Laid A A lo (lo + 0) f := ⟨rfl, rfl, rfl, fun i => by rw [if_neg (by omega)]⟩
theorem Laid.step {A Ak : Cell} {lo k : Nat} {f : Nat → Value} {v : Value} (h : Laid A Ak lo k f) (hlo : lo ≤ k) (hk : k < Ak.slots.size) (hv : v = f k) : Laid A (Ak.setSlot k v) lo (k + 1) f := by
  refine ⟨h.1, h.2.1, by simpa [Cell.setSlot] using h.2.2.1, fun i => ?_⟩
  by_cases e : k = i
  · subst e; rw [Cell.slots_setSlot_self v hk, if_pos (by omega), hv]
  · rw [Cell.slots_setSlot_ne v e, h.2.2.2 i]
    by_cases q : lo ≤ i ∧ i < k
    · rw [if_pos q, if_pos (by omega)]
    · rw [if_neg q, if_neg (by omega)]
def U16 : String := "java/lang/StringUTF16"
namespace Cmp5
def yN : MethodName := ⟨"java/lang/StringUTF16", "compress", "([CI[BII)I"⟩
abbrev yB : ByteArray := jdk_52_method_21_code
theorem d0 : decode yB 0 = .ok (.iconst 0, 1) := by decide +kernel
theorem d1 : decode yB 1 = .ok (.istore 5, 2) := by decide +kernel
theorem d3 : decode yB 3 = .ok (.iload 5, 2) := by decide +kernel
theorem d5 : decode yB 5 = .ok (.iload 4, 2) := by decide +kernel
theorem d7 : decode yB 7 = .ok (.if_icmp (.ge) 37, 3) := by decide +kernel
theorem d10 : decode yB 10 = .ok (.aload_n 0, 1) := by decide +kernel
theorem d11 : decode yB 11 = .ok (.iload_n 1, 1) := by decide +kernel
theorem d12 : decode yB 12 = .ok (.caload, 1) := by decide +kernel
theorem d13 : decode yB 13 = .ok (.istore 6, 2) := by decide +kernel
theorem d15 : decode yB 15 = .ok (.iload 6, 2) := by decide +kernel
theorem d17 : decode yB 17 = .ok (.sipush 255, 3) := by decide +kernel
theorem d20 : decode yB 20 = .ok (.if_icmp (.le) 6, 3) := by decide +kernel
theorem d26 : decode yB 26 = .ok (.aload_n 2, 1) := by decide +kernel
theorem d27 : decode yB 27 = .ok (.iload_n 3, 1) := by decide +kernel
theorem d28 : decode yB 28 = .ok (.iload 6, 2) := by decide +kernel
theorem d30 : decode yB 30 = .ok (.i2b, 1) := by decide +kernel
theorem d31 : decode yB 31 = .ok (.bastore, 1) := by decide +kernel
theorem d32 : decode yB 32 = .ok (.iinc 1 1, 3) := by decide +kernel
theorem d35 : decode yB 35 = .ok (.iinc 3 1, 3) := by decide +kernel
theorem d38 : decode yB 38 = .ok (.iinc 5 1, 3) := by decide +kernel
theorem d41 : decode yB 41 = .ok (.goto (-38), 3) := by decide +kernel
theorem d44 : decode yB 44 = .ok (.iload 4, 2) := by decide +kernel
theorem d46 : decode yB 46 = .ok (.ireturn, 1) := by decide +kernel
def site : List Cond := []
def tab : Cond := tabOf yN yB 7 (some .int) site
def P (b : Addr) (A : Cell) (d : Addr) (B : Cell) (o q len : Nat) (args : Array Value) (s : State) : Prop := args = #[.ref b, .int (Int32.ofNat o), .ref d, .int (Int32.ofNat q), .int (Int32.ofNat len)] ∧ Ch b A s ∧ Arr .byte d B s ∧ b ≠ d ∧ o + len ≤ A.slots.size ∧ q + len ≤ B.slots.size ∧ ∀ i, i < len → ¬ 255 < cv A (o + i)
def E (b : Addr) (A : Cell) (d : Addr) (B : Cell) (o q len : Nat) (r : Option Value) (s u : State) : Prop := r = some (.int (Int32.ofNat len)) ∧ ∃ B', Put d B' s u ∧ Laid B B' q (q + len) (fun j => Value.int (lo8 (cv A (o + (j - q)))))
/-- no char of the range above 255: len; the places written hold each char's low byte -/
theorem law (l : Launch) (b : Addr) (A : Cell) (d : Addr) (B : Cell) (o q len : Nat) : Law l yN 5 5 0 0 yB 7 (some .int) site (P b A d B o q len) (E b A d B o q len) (copyLocs d q len) 0 0 := by
  refine Law.of_walk (plainFor_of_name (by decide +kernel)) (by decide +kernel) (by decide +kernel) (by decide) (fun _ _ h => by rw [h.1]; rfl) (fun _ U U' hal hh h => ⟨h.1, h.2.1.mv hal hh, h.2.2.1.mv hal hh, h.2.2.2⟩) (fun r U U' V V' h1 hal h2 h => ⟨h.1, h.2.elim fun B' q => ⟨B', q.1.mv h1 h2, q.2⟩⟩) ?_
  intro p e s m args below meth c s₁ X0 hexec hbytes hml hret hlk hnm hown hh0 W hP
  obtain ⟨rfl, hA, hB, hne, l1, l2, hp⟩ := hP
  have c1 : Steps p.tables e below (s₁.setTop (entryFrame m #[.ref b, .int (Int32.ofNat o), .ref d, .int (Int32.ofNat q), .int (Int32.ofNat len)] 7)) (s₁.setTop (mkF m 0 #[.val (.ref b), .val (.int (Int32.ofNat o)), .val (.ref d), .val (.int (Int32.ofNat q)), .val (.int (Int32.ofNat len)), .unset, .unset] [])) := entry rfl
  have hA0 := hA.1.mv X0.warmed.alike hh0
  have hB0 := hB.mv X0.warmed.alike hh0
  have a31 := hA.1.2.2.2
  have c2 : Steps p.tables e below (s₁.setTop (entryFrame m #[.ref b, .int (Int32.ofNat o), .ref d, .int (Int32.ofNat q), .int (Int32.ofNat len)] 7)) (s₁.setTop (mkF m 3 #[.val (.ref b), .val (.int (Int32.ofNat o)), .val (.ref d), .val (.int (Int32.ofNat q)), .val (.int (Int32.ofNat len)), .val (.int 0), .unset] [])) := c1.trans (by
    refine iconstV X0.here hexec rfl 0 (hb hbytes d0) (by decide) ?_
    refine XS.istore X0.here hexec rfl (hb hbytes d1) rfl rfl ?_
    exact Steps.refl _)
  have loop : ∀ (r i : Nat), i + r = len → ∀ (z : Slot), (z = .unset ∨ ∃ w, z = .val w ∧ w.category = 1) → ∀ (Tl : State) (Bk : Cell), Stand p l e { frames := 0, locals := 0, cells := 0, slots := 0 } s m #[.ref b, .int (Int32.ofNat o), .ref d, .int (Int32.ofNat q), .int (Int32.ofNat len)] below meth c Tl ([] ++ copyLocs d q i) 0 0 → Put d Bk s₁ Tl → Laid B Bk q (q + i) (fun j => Value.int (lo8 (cv A (o + (j - q))))) →
      Steps p.tables e below (s₁.setTop (entryFrame m #[.ref b, .int (Int32.ofNat o), .ref d, .int (Int32.ofNat q), .int (Int32.ofNat len)] 7)) (Tl.setTop (mkF m 3 #[.val (.ref b), .val (.int (Int32.ofNat (o + i))), .val (.ref d), .val (.int (Int32.ofNat (q + i))), .val (.int (Int32.ofNat len)), .val (.int (Int32.ofNat i)), z] [])) → ∃ (T' : State) (B' : Cell) (z' : Slot), Stand p l e { frames := 0, locals := 0, cells := 0, slots := 0 } s m #[.ref b, .int (Int32.ofNat o), .ref d, .int (Int32.ofNat q), .int (Int32.ofNat len)] below meth c T' ([] ++ copyLocs d q len) 0 0 ∧ Put d B' s₁ T' ∧ Laid B B' q (q + len) (fun j => Value.int (lo8 (cv A (o + (j - q))))) ∧
      Steps p.tables e below (s₁.setTop (entryFrame m #[.ref b, .int (Int32.ofNat o), .ref d, .int (Int32.ofNat q), .int (Int32.ofNat len)] 7)) (T'.setTop (mkF m 3 #[.val (.ref b), .val (.int (Int32.ofNat (o + len))), .val (.ref d), .val (.int (Int32.ofNat (q + len))), .val (.int (Int32.ofNat len)), .val (.int (Int32.ofNat len)), z'] [])) := by
    intro r
    induction r with
    | zero =>
      intro i hi z hz Tl Bk Xl pl fl cl
      have hil : i = len := by omega
      rw [hil] at Xl fl cl
      exact ⟨Tl, Bk, z, Xl, pl, fl, cl⟩
    | succ r ih =>
      intro i hi z hz Tl Bk Xl pl fl cl
      have all := X0.warmed.alike.symm.trans Xl.warmed.alike
      have hAl := hA0.keep all (pl.other hne hA0.1)
      have hBk := hB0.like all pl.1 fl.1 fl.2.1 fl.2.2.1
      have hlt : q + i < Bk.slots.size := by rw [fl.2.2.1]; omega
      have c3 : Steps p.tables e below (s₁.setTop (entryFrame m #[.ref b, .int (Int32.ofNat o), .ref d, .int (Int32.ofNat q), .int (Int32.ofNat len)] 7)) (Tl.setTop (mkF m 12 #[.val (.ref b), .val (.int (Int32.ofNat (o + i))), .val (.ref d), .val (.int (Int32.ofNat (q + i))), .val (.int (Int32.ofNat len)), .val (.int (Int32.ofNat i)), z] [.int (Int32.ofNat (o + i)), .ref b])) := cl.trans (by
        refine XS.iload Xl.here hexec rfl (hb hbytes d3) rfl ?_
        refine XS.iload Xl.here hexec rfl (hb hbytes d5) rfl ?_
        refine XS.icmpNo Xl.here hexec rfl (hb hbytes d7) rfl (ii_ge_f (lt32 (by omega) (by omega))) ?_
        refine XS.aloadN Xl.here hexec rfl (hb hbytes d10) rfl rfl ?_
        refine XS.iloadN Xl.here hexec rfl (hb hbytes d11) rfl ?_
        exact Steps.refl _)
      have c4 : Steps p.tables e below (s₁.setTop (entryFrame m #[.ref b, .int (Int32.ofNat o), .ref d, .int (Int32.ofNat q), .int (Int32.ofNat len)] 7)) (Tl.setTop (mkF m 13 #[.val (.ref b), .val (.int (Int32.ofNat (o + i))), .val (.ref d), .val (.int (Int32.ofNat (q + i))), .val (.int (Int32.ofNat len)), .val (.int (Int32.ofNat i)), z] [.int (cv A (o + i))])) := c3.trans (by
        refine Xl.aget hexec hAl rfl (hA.get (i := o + i) (by omega)) rfl rfl (hb hbytes d12) ?_
        exact Steps.refl _)
      have c5 : Steps p.tables e below (s₁.setTop (entryFrame m #[.ref b, .int (Int32.ofNat o), .ref d, .int (Int32.ofNat q), .int (Int32.ofNat len)] 7)) (Tl.setTop (mkF m 15 #[.val (.ref b), .val (.int (Int32.ofNat (o + i))), .val (.ref d), .val (.int (Int32.ofNat (q + i))), .val (.int (Int32.ofNat len)), .val (.int (Int32.ofNat i)), .val (.int (cv A (o + i)))] [])) := c4.trans (by
        refine XS.istoreS Xl.here hexec rfl (hb hbytes d13) rfl rfl hz ?_
        exact Steps.refl _)
      have c6 : Steps p.tables e below (s₁.setTop (entryFrame m #[.ref b, .int (Int32.ofNat o), .ref d, .int (Int32.ofNat q), .int (Int32.ofNat len)] 7)) (Tl.setTop (mkF m 31 #[.val (.ref b), .val (.int (Int32.ofNat (o + i))), .val (.ref d), .val (.int (Int32.ofNat (q + i))), .val (.int (Int32.ofNat len)), .val (.int (Int32.ofNat i)), .val (.int (cv A (o + i)))] [.int (lo8 (cv A (o + i))), .int (Int32.ofNat (q + i)), .ref d])) := c5.trans (by
        refine XS.iload Xl.here hexec rfl (hb hbytes d15) rfl ?_
        refine sipushV Xl.here hexec rfl 255 (hb hbytes d17) (by decide) ?_
        refine XS.icmpYes Xl.here hexec rfl (pc0 := 20) rfl (hb hbytes d20) rfl (ii_le_t (hp i (by omega))) (by decide) rfl ?_
        refine XS.aloadN Xl.here hexec rfl (hb hbytes d26) rfl rfl ?_
        refine XS.iloadN Xl.here hexec rfl (hb hbytes d27) rfl ?_
        refine XS.iload Xl.here hexec rfl (hb hbytes d28) rfl ?_
        refine i2b Xl.here hexec rfl (hb hbytes d30) rfl ?_
        exact Steps.refl _)
      obtain ⟨T7, X7, p7, st7⟩ := Xl.aput hexec hBk rfl hlt rfl (fits_lo8 (cv A (o + i))) (g := (mkF m 31 #[.val (.ref b), .val (.int (Int32.ofNat (o + i))), .val (.ref d), .val (.int (Int32.ofNat (q + i))), .val (.int (Int32.ofNat len)), .val (.int (Int32.ofNat i)), .val (.int (cv A (o + i)))] [.int (lo8 (cv A (o + i))), .int (Int32.ofNat (q + i)), .ref d])) rfl (rest := []) rfl (hb hbytes d31)
      have c8 : Steps p.tables e below (s₁.setTop (entryFrame m #[.ref b, .int (Int32.ofNat o), .ref d, .int (Int32.ofNat q), .int (Int32.ofNat len)] 7)) (T7.setTop (mkF m 32 #[.val (.ref b), .val (.int (Int32.ofNat (o + i))), .val (.ref d), .val (.int (Int32.ofNat (q + i))), .val (.int (Int32.ofNat len)), .val (.int (Int32.ofNat i)), .val (.int (cv A (o + i)))] [])) := c6.trans (st7 _ (Steps.refl _))
      have c9 : Steps p.tables e below (s₁.setTop (entryFrame m #[.ref b, .int (Int32.ofNat o), .ref d, .int (Int32.ofNat q), .int (Int32.ofNat len)] 7)) (T7.setTop (mkF m 3 #[.val (.ref b), .val (.int (Int32.ofNat (o + i) + 1)), .val (.ref d), .val (.int (Int32.ofNat (q + i) + 1)), .val (.int (Int32.ofNat len)), .val (.int (Int32.ofNat i + 1)), .val (.int (cv A (o + i)))] [])) := c8.trans (by
        refine iincV X7.here hexec rfl 1 (hb hbytes d32) (by decide) rfl rfl ?_
        refine iincV X7.here hexec rfl 1 (hb hbytes d35) (by decide) rfl rfl ?_
        refine iincV X7.here hexec rfl 1 (hb hbytes d38) (by decide) rfl rfl ?_
        refine XS.goto X7.here hexec rfl (pc0 := 41) rfl (hb hbytes d41) (by decide) rfl ?_
        exact Steps.refl _)
      have c10 : Steps p.tables e below (s₁.setTop (entryFrame m #[.ref b, .int (Int32.ofNat o), .ref d, .int (Int32.ofNat q), .int (Int32.ofNat len)] 7)) (T7.setTop (mkF m 3 #[.val (.ref b), .val (.int (Int32.ofNat (o + (i + 1)))), .val (.ref d), .val (.int (Int32.ofNat (q + (i + 1)))), .val (.int (Int32.ofNat len)), .val (.int (Int32.ofNat (i + 1))), .val (.int (cv A (o + i)))] [])) := by
        have := c9
        rw [succ32, succ32, succ32] at this
        exact this
      exact ih (i + 1) (by omega) _ (Or.inr ⟨_, rfl, rfl⟩) T7 _ (by rw [copyLocs_step, ← List.append_assoc]; exact X7) (pl.trans p7) (fl.step (by omega) hlt (by simp)) c10
  obtain ⟨T9, B9, z9, X9, p9, f9, g9⟩ := loop len 0 (by omega) .unset (Or.inl rfl) s₁ B (by simpa [copyLocs] using X0) ⟨hB0.1, fun _ _ => rfl, rfl⟩ (Laid.zero _ _ _) c2
  have c11 : Steps p.tables e below (s₁.setTop (entryFrame m #[.ref b, .int (Int32.ofNat o), .ref d, .int (Int32.ofNat q), .int (Int32.ofNat len)] 7)) (T9.setTop (mkF m 46 #[.val (.ref b), .val (.int (Int32.ofNat (o + len))), .val (.ref d), .val (.int (Int32.ofNat (q + len))), .val (.int (Int32.ofNat len)), .val (.int (Int32.ofNat len)), z9] [.int (Int32.ofNat len)])) := g9.trans (by
    refine XS.iload X9.here hexec rfl (hb hbytes d3) rfl ?_
    refine XS.iload X9.here hexec rfl (hb hbytes d5) rfl ?_
    refine XS.icmpYes X9.here hexec rfl (pc0 := 7) rfl (hb hbytes d7) rfl (ii_ge_t (nlt32 (by omega) (Nat.le_refl _))) (by decide) rfl ?_
    refine XS.iload X9.here hexec rfl (hb hbytes d44) rfl ?_
    exact Steps.refl _)
  exact ⟨T9, some (.int (Int32.ofNat len)), _, _, _, X9, by simp, rfl, rfl, (fun h => by cases h), ⟨rfl, B9, p9.from hh0, f9⟩, fun fs hl => c11.trans (X9.ireturnOut hexec hret rfl (Or.inl rfl) (hb hbytes d46) hl)⟩
end Cmp5
namespace Cmp3
def yN : MethodName := ⟨"java/lang/StringUTF16", "compress", "([CII)[B"⟩
abbrev yB : ByteArray := jdk_52_method_16_code
theorem d0 : decode yB 0 = .ok (.iload_n 2, 1) := by decide +kernel
theorem d1 : decode yB 1 = .ok (.newarray .byte, 2) := by decide +kernel
theorem d3 : decode yB 3 = .ok (.astore_n 3, 1) := by decide +kernel
theorem d4 : decode yB 4 = .ok (.aload_n 0, 1) := by decide +kernel
theorem d5 : decode yB 5 = .ok (.iload_n 1, 1) := by decide +kernel
theorem d6 : decode yB 6 = .ok (.aload_n 3, 1) := by decide +kernel
theorem d7 : decode yB 7 = .ok (.iconst 0, 1) := by decide +kernel
theorem d8 : decode yB 8 = .ok (.iload_n 2, 1) := by decide +kernel
theorem d9 : decode yB 9 = .ok (.invokestatic 115, 3) := by decide +kernel
theorem d12 : decode yB 12 = .ok (.istore 4, 2) := by decide +kernel
theorem d14 : decode yB 14 = .ok (.iload 4, 2) := by decide +kernel
theorem d16 : decode yB 16 = .ok (.iload_n 2, 1) := by decide +kernel
theorem d17 : decode yB 17 = .ok (.if_icmp (.eq) 40, 3) := by decide +kernel
theorem d57 : decode yB 57 = .ok (.aload_n 3, 1) := by decide +kernel
theorem d58 : decode yB 58 = .ok (.areturn, 1) := by decide +kernel
def site : List Cond := [.arrayClass .byte, Cmp5.tab] ++ staticW U16 115 Cmp5.yN
def tab : Cond := tabOf yN yB 6 (some (.array .byte)) site
def P (b : Addr) (A : Cell) (o len : Nat) (args : Array Value) (s : State) : Prop := args = #[.ref b, .int (Int32.ofNat o), .int (Int32.ofNat len)] ∧ Ch b A s ∧ o + len ≤ A.slots.size ∧ len ≤ 536870912 ∧ ∀ i, i < len → ¬ 255 < cv A (o + i)
def E (b : Addr) (A : Cell) (o len : Nat) (r : Option Value) (s u : State) : Prop := NewArr .byte "[B" len (fun j => .int (lo8 (cv A (o + j)))) r s u ∧ u.heap.size = s.heap.size + 1
/-- no char of the range above 255: a new byte[] of their low bytes -/
theorem law (l : Launch) (b : Addr) (A : Cell) (o len : Nat) : Law l yN 3 3 1 18 yB 6 (some (.array .byte)) site (P b A o len) (E b A o len) [] 1 len := by
  refine Law.of_walk (plainFor_of_name (by decide +kernel)) (by decide +kernel) (by decide +kernel) (by decide) (fun _ _ h => by rw [h.1]; rfl) (fun _ U U' hal hh h => ⟨h.1, h.2.1.mv hal hh, h.2.2⟩) (fun r U U' V V' h1 hal h2 h => ⟨NewArr.mv r U U' V V' h1 hal h2 h.1, by rw [h1, h2]; exact h.2⟩) ?_
  intro p e s m args below meth c s₁ X0 hexec hbytes hml hret hlk hnm hown hh0 W hP
  obtain ⟨rfl, hA, l1, l2, hp⟩ := hP
  have a31 := hA.1.2.2.2
  have c1 : Steps p.tables e below (s₁.setTop (entryFrame m #[.ref b, .int (Int32.ofNat o), .int (Int32.ofNat len)] 6)) (s₁.setTop (mkF m 0 #[.val (.ref b), .val (.int (Int32.ofNat o)), .val (.int (Int32.ofNat len)), .unset, .unset, .unset] [])) := entry rfl
  have c2 : Steps p.tables e below (s₁.setTop (entryFrame m #[.ref b, .int (Int32.ofNat o), .int (Int32.ofNat len)] 6)) (s₁.setTop (mkF m 1 #[.val (.ref b), .val (.int (Int32.ofNat o)), .val (.int (Int32.ofNat len)), .unset, .unset, .unset] [.int (Int32.ofNat len)])) := c1.trans (by
    refine XS.iloadN X0.here hexec rfl (hb hbytes d0) rfl ?_
    exact Steps.refl _)
  obtain ⟨T3, B3, X3, ba3, bs3, bv3, bh3, bf3, st3⟩ := X0.anew hexec (atype := .byte) (wk W (.arrayClass .byte)) rfl (by show len * 1 ≤ _; omega) (by omega) (g := (mkF m 1 #[.val (.ref b), .val (.int (Int32.ofNat o)), .val (.int (Int32.ofNat len)), .unset, .unset, .unset] [.int (Int32.ofNat len)])) rfl (hb hbytes d1) (rest := []) rfl (Nat.le_refl _) (by show 0 + len ≤ len; omega)
  rw [hh0] at ba3 st3
  have kp3 : XT.Kept s T3 := (XT.Kept.of_eq hh0).push bh3
  have hA3 := hA.keep X3.warmed.alike (kp3 _ _ hA.1.1)
  have hne : b ≠ s.heap.size := hA.1.ne
  have c4 : Steps p.tables e below (s₁.setTop (entryFrame m #[.ref b, .int (Int32.ofNat o), .int (Int32.ofNat len)] 6)) (T3.setTop (mkF m 3 #[.val (.ref b), .val (.int (Int32.ofNat o)), .val (.int (Int32.ofNat len)), .unset, .unset, .unset] [.ref s.heap.size])) := c2.trans (st3 _ (Steps.refl _))
  have c5 : Steps p.tables e below (s₁.setTop (entryFrame m #[.ref b, .int (Int32.ofNat o), .int (Int32.ofNat len)] 6)) (T3.setTop (mkF m 9 #[.val (.ref b), .val (.int (Int32.ofNat o)), .val (.int (Int32.ofNat len)), .val (.ref s.heap.size), .unset, .unset] [.int (Int32.ofNat len), .int 0, .ref s.heap.size, .int (Int32.ofNat o), .ref b])) := c4.trans (by
    refine XS.astoreN X3.here hexec rfl (hb hbytes d3) rfl rfl rfl ?_
    refine XS.aloadN X3.here hexec rfl (hb hbytes d4) rfl rfl ?_
    refine XS.iloadN X3.here hexec rfl (hb hbytes d5) rfl ?_
    refine XS.aloadN X3.here hexec rfl (hb hbytes d6) rfl rfl ?_
    refine iconstV X3.here hexec rfl 0 (hb hbytes d7) (by decide) ?_
    refine XS.iloadN X3.here hexec rfl (hb hbytes d8) rfl ?_
    exact Steps.refl _)
  obtain ⟨v6, T6, X6, E6, g6⟩ := X3.callS hexec (Cmp5.law l b A s.heap.size B3 o 0 len) hown (wks W (staticW U16 115 Cmp5.yN)) (wk W Cmp5.tab) (W := 0) (Nat.le_of_ble_eq_true rfl) (Nat.le_of_ble_eq_true rfl) (Nat.le_refl _) (by show 0 + len + 0 ≤ len; omega) (g := (mkF m 9 #[.val (.ref b), .val (.int (Int32.ofNat o)), .val (.int (Int32.ofNat len)), .val (.ref s.heap.size), .unset, .unset] [.int (Int32.ofNat len), .int (Int32.ofNat 0), .ref s.heap.size, .int (Int32.ofNat o), .ref b])) rfl (by rw [hml]; rfl) c5 (argsL := [.ref b, .int (Int32.ofNat o), .ref s.heap.size, .int (Int32.ofNat 0), .int (Int32.ofNat len)]) (rest := []) rfl rfl (by show 2 * 0 + 0 ≤ _; decide) (hb hbytes d9) (⟨rfl, hA3, ba3, hne, l1, by rw [bs3]; simp, hp⟩)
  obtain ⟨rfl, B6, p6, f6⟩ := E6
  have c7 : Steps p.tables e below (s₁.setTop (entryFrame m #[.ref b, .int (Int32.ofNat o), .int (Int32.ofNat len)] 6)) (T6.setTop (mkF m 12 #[.val (.ref b), .val (.int (Int32.ofNat o)), .val (.int (Int32.ofNat len)), .val (.ref s.heap.size), .unset, .unset] [.int (Int32.ofNat len)])) := g6
  have c8 : Steps p.tables e below (s₁.setTop (entryFrame m #[.ref b, .int (Int32.ofNat o), .int (Int32.ofNat len)] 6)) (T6.setTop (mkF m 58 #[.val (.ref b), .val (.int (Int32.ofNat o)), .val (.int (Int32.ofNat len)), .val (.ref s.heap.size), .val (.int (Int32.ofNat len)), .unset] [.ref s.heap.size])) := c7.trans (by
    refine XS.istore X6.here hexec rfl (hb hbytes d12) rfl rfl ?_
    refine XS.iload X6.here hexec rfl (hb hbytes d14) rfl ?_
    refine XS.iloadN X6.here hexec rfl (hb hbytes d16) rfl ?_
    refine XS.icmpYes X6.here hexec rfl (pc0 := 17) rfl (hb hbytes d17) rfl (ii_eq_t rfl) (by decide) rfl ?_
    refine XS.aloadN X6.here hexec rfl (hb hbytes d57) rfl rfl ?_
    exact Steps.refl _)
  have X8 := X6.wide (L' := []) (cells' := 1) (slots' := len) (fun x hx hlt => by
    simp only [List.nil_append, copyLocs, List.mem_map, List.mem_range] at hx
    obtain ⟨i, -, rfl⟩ := hx
    exact absurd hlt (Nat.lt_irrefl _)) (Nat.le_refl _) (by omega)
  exact ⟨T6, some (.ref s.heap.size), _, _, _, X8, rfl, rfl, rfl, (fun h => by cases h), ⟨⟨rfl, B6, ba3.like (X3.warmed.alike.symm.trans X6.warmed.alike) p6.1 f6.1 f6.2.1 f6.2.2.1, f6.2.1.trans bv3, by rw [X6.warmed.alike.findClass, f6.1]; exact bf3, by rw [f6.2.2.1, bs3]; simp, fun j hj => by rw [f6.2.2.2 j, if_pos (by omega)]; rfl, kp3.put p6 (Nat.le_refl _)⟩, by rw [p6.2.2, bh3, hh0]; simp⟩, fun fs hl => c8.trans (X8.areturnOut hexec rfl hret rfl (hb hbytes d58) hl)⟩
end Cmp3
namespace CodL
def yN : MethodName := ⟨"java/lang/StringUTF16", "coderFromArrayLen", "([BI)B"⟩
abbrev yB : ByteArray := jdk_52_method_15_code
theorem d0 : decode yB 0 = .ok (.iload_n 1, 1) := by decide +kernel
theorem d1 : decode yB 1 = .ok (.aload_n 0, 1) := by decide +kernel
theorem d2 : decode yB 2 = .ok (.arraylength, 1) := by decide +kernel
theorem d3 : decode yB 3 = .ok (.isub, 1) := by decide +kernel
theorem d4 : decode yB 4 = .ok (.bipush 31, 2) := by decide +kernel
theorem d6 : decode yB 6 = .ok (.iushr, 1) := by decide +kernel
theorem d7 : decode yB 7 = .ok (.i2b, 1) := by decide +kernel
theorem d8 : decode yB 8 = .ok (.ireturn, 1) := by decide +kernel
def site : List Cond := []
def tab : Cond := tabOf yN yB 2 (some .byte) site
def P (d : Addr) (B : Cell) (args : Array Value) (s : State) : Prop := args = #[.ref d, .int (Int32.ofNat B.slots.size)] ∧ Arr .byte d B s
def E (r : Option Value) (s u : State) : Prop := XT.PureE (some (.int 0)) r s u
/-- an array as long as the number of chars: LATIN1 -/
theorem law (l : Launch) (d : Addr) (B : Cell) : Law l yN 2 2 0 0 yB 2 (some .byte) site (P d B) E [] 0 0 := by
  refine Law.of_walk (plainFor_of_name (by decide +kernel)) (by decide +kernel) (by decide +kernel) (by decide) (fun _ _ h => by rw [h.1]; rfl) (fun _ U U' hal hh h => ⟨h.1, h.2.mv hal hh⟩) (fun r U U' V V' h1 hal h2 h => XT.PureE.mv r U U' V V' h1 hal h2 h) ?_
  intro p e s m args below meth c s₁ X0 hexec hbytes hml hret hlk hnm hown hh0 W hP
  obtain ⟨rfl, hB⟩ := hP
  have hB0 := hB.mv X0.warmed.alike hh0
  have c1 : Steps p.tables e below (s₁.setTop (entryFrame m #[.ref d, .int (Int32.ofNat B.slots.size)] 2)) (s₁.setTop (mkF m 0 #[.val (.ref d), .val (.int (Int32.ofNat B.slots.size))] [])) := entry rfl
  have c2 : Steps p.tables e below (s₁.setTop (entryFrame m #[.ref d, .int (Int32.ofNat B.slots.size)] 2)) (s₁.setTop (mkF m 2 #[.val (.ref d), .val (.int (Int32.ofNat B.slots.size))] [.ref d, .int (Int32.ofNat B.slots.size)])) := c1.trans (by
    refine XS.iloadN X0.here hexec rfl (hb hbytes d0) rfl ?_
    refine XS.aloadN X0.here hexec rfl (hb hbytes d1) rfl rfl ?_
    exact Steps.refl _)
  have c3 : Steps p.tables e below (s₁.setTop (entryFrame m #[.ref d, .int (Int32.ofNat B.slots.size)] 2)) (s₁.setTop (mkF m 8 #[.val (.ref d), .val (.int (Int32.ofNat B.slots.size))] [.int (lo8 (ushr (Int32.ofNat B.slots.size - Int32.ofNat B.slots.size) 31))])) := c2.trans (by
    refine X0.alen hexec hB0 rfl rfl (hb hbytes d2) ?_
    refine XS.isub X0.here hexec rfl (hb hbytes d3) rfl ?_
    refine bipushV X0.here hexec rfl 31 (hb hbytes d4) (by decide) ?_
    refine iushr X0.here hexec rfl (hb hbytes d6) rfl ?_
    refine i2b X0.here hexec rfl (hb hbytes d7) rfl ?_
    exact Steps.refl _)
  have e0 : lo8 (ushr (Int32.ofNat B.slots.size - Int32.ofNat B.slots.size) 31) = 0 := by rw [Int32.sub_self]; decide
  rw [e0] at c3
  exact ⟨s₁, some (.int 0), _, _, _, X0, rfl, rfl, rfl, (fun h => by cases h), ⟨rfl, hh0⟩, fun fs hl => c3.trans (X0.ireturnOut hexec hret rfl (Or.inr (Or.inr (Or.inl rfl))) (hb hbytes d8) hl)⟩
end CodL
/-- the String at a is Latin-1 over a new byte[] (the heap's one new cell): the low bytes of the len chars of A from o on; every cell but a is kept -/
def Got (a : Addr) (D : Cell) (fV fC : Field) (A : Cell) (o len : Nat) (r : Option Value) (s u : State) : Prop := r = none ∧ ∃ D' V : Cell, Blank "java/lang/String" a D' u ∧ Same D D' [fV.slot, fC.slot] ∧ D'.slots[fV.slot]? = some (.ref s.heap.size) ∧ D'.slots[fC.slot]? = some (.int 0) ∧ Arr .byte s.heap.size V u ∧ V.vm = .none ∧ u.vm.findClass "[B" = some V.cls ∧ V.slots.size = len ∧ (∀ j, j < len → V.slots[j]? = some (.int (lo8 (cv A (o + j))))) ∧ (∀ (y : Addr) (c : Cell), y ≠ a → s.heap[y]? = some c → u.heap[y]? = some c) ∧ u.heap.size = s.heap.size + 1
theorem Got.mv {a : Addr} {D A : Cell} {fV fC : Field} {o len : Nat} : ∀ r (U U' V V' : State), U'.heap = U.heap → V.vm.Alike V'.vm → V'.heap = V.heap → Got a D fV fC A o len r U V → Got a D fV fC A o len r U' V' :=
  fun r U U' V V' h1 hal h2 ⟨e0, D', X, a1, a2, a3, a4, a5, a6, a7, a8, a9, a10, a11⟩ => ⟨e0, D', X, a1.mv hal h2, a2, by rw [h1]; exact a3, a4, by rw [h1]; exact a5.mv hal h2, a6, by rw [hal.findClass]; exact a7, a8, a9, by rw [h1, h2]; exact a10, by rw [h1, h2]; exact a11⟩
namespace New4
def yN : MethodName := ⟨"java/lang/String", "<init>", "([CIILjava/lang/Void;)V"⟩
abbrev yB : ByteArray := jdk_42_method_149_code
theorem d0 : decode yB 0 = .ok (.aload_n 0, 1) := by decide +kernel
theorem d1 : decode yB 1 = .ok (.invokespecial 1, 3) := by decide +kernel
theorem d4 : decode yB 4 = .ok (.iload_n 3, 1) := by decide +kernel
theorem d5 : decode yB 5 = .ok (.ifCond (.ne) 22, 3) := by decide +kernel
theorem d27 : decode yB 27 = .ok (.getstatic 38, 3) := by decide +kernel
theorem d30 : decode yB 30 = .ok (.ifCond (.eq) 28, 3) := by decide +kernel
theorem d33 : decode yB 33 = .ok (.aload_n 1, 1) := by decide +kernel
theorem d34 : decode yB 34 = .ok (.iload_n 2, 1) := by decide +kernel
theorem d35 : decode yB 35 = .ok (.iload_n 3, 1) := by decide +kernel
theorem d36 : decode yB 36 = .ok (.invokestatic 177, 3) := by decide +kernel
theorem d39 : decode yB 39 = .ok (.astore 5, 2) := by decide +kernel
theorem d41 : decode yB 41 = .ok (.aload_n 0, 1) := by decide +kernel
theorem d42 : decode yB 42 = .ok (.aload 5, 2) := by decide +kernel
theorem d44 : decode yB 44 = .ok (.iload_n 3, 1) := by decide +kernel
theorem d45 : decode yB 45 = .ok (.invokestatic 47, 3) := by decide +kernel
theorem d48 : decode yB 48 = .ok (.putfield 15, 3) := by decide +kernel
theorem d51 : decode yB 51 = .ok (.aload_n 0, 1) := by decide +kernel
theorem d52 : decode yB 52 = .ok (.aload 5, 2) := by decide +kernel
theorem d54 : decode yB 54 = .ok (.putfield 9, 3) := by decide +kernel
theorem d57 : decode yB 57 = .ok (.return_, 1) := by decide +kernel
def site : List Cond := [.fieldLink "java/lang/String" 38 "java/lang/String" "COMPACT_STRINGS" "Z", Cmp3.tab, CodL.tab, .laysFinal "java/lang/String" "java/lang/String" "value" "[B", .fieldLink "java/lang/String" 9 "java/lang/String" "value" "[B", .laysFinal "java/lang/String" "java/lang/String" "coder" "B", .fieldLink "java/lang/String" 15 "java/lang/String" "coder" "B"] ++ objW "java/lang/String" 1 ++ staticW "java/lang/String" 177 Cmp3.yN ++ staticW "java/lang/String" 47 CodL.yN
def tab : Cond := tabOf yN yB 6 none site
def P (a : Addr) (D : Cell) (fV fC : Field) (b : Addr) (A : Cell) (z : Int32) (o len : Nat) (args : Array Value) (s : State) : Prop := args = #[.ref a, .ref b, .int (Int32.ofNat o), .int (Int32.ofNat len), .null] ∧ Blank "java/lang/String" a D s ∧ Found "java/lang/String" "value" "[B" fV s ∧ Found "java/lang/String" "coder" "B" fC s ∧ Ch b A s ∧ StaticIs s "java/lang/String" "COMPACT_STRINGS" "Z" (.int z) ∧ ¬ z = 0 ∧ 0 < len ∧ o + len ≤ A.slots.size ∧ len ≤ 536870912 ∧ ∀ i, i < len → ¬ 255 < cv A (o + i)
def E (a : Addr) (D : Cell) (fV fC : Field) (A : Cell) (o len : Nat) (r : Option Value) (s u : State) : Prop := Got a D fV fC A o len r s u
/-- len > 0, no char of the range above 255: a Latin-1 String of their low bytes -/
theorem law (l : Launch) (a : Addr) (D : Cell) (fV fC : Field) (b : Addr) (A : Cell) (z : Int32) (o len : Nat) : Law l yN 5 4 2 35 yB 6 none site (P a D fV fC b A z o len) (E a D fV fC A o len) [⟨a, fC.slot⟩, ⟨a, fV.slot⟩] 1 len := by
  refine Law.of_walk (plainFor_of_name (by decide +kernel)) (by decide +kernel) (by decide +kernel) (by decide) (fun _ _ h => by rw [h.1]; rfl) (fun _ U U' hal hh h => ⟨h.1, h.2.1.mv hal hh, h.2.2.1.al hal, h.2.2.2.1.al hal, h.2.2.2.2.1.mv hal hh, h.2.2.2.2.2.1.there hal hh, h.2.2.2.2.2.2⟩) (fun r U U' V V' h1 hal h2 h => Got.mv r U U' V V' h1 hal h2 h) ?_
  intro p e s m args below meth c s₁ X0 hexec hbytes hml hret hlk hnm hown hh0 W hP
  obtain ⟨rfl, hB, f1, f2, hA, s1, hz, l0, l1, l2, hp⟩ := hP
  have a31 := hA.1.2.2.2
  have c1 : Steps p.tables e below (s₁.setTop (entryFrame m #[.ref a, .ref b, .int (Int32.ofNat o), .int (Int32.ofNat len), .null] 6)) (s₁.setTop (mkF m 0 #[.val (.ref a), .val (.ref b), .val (.int (Int32.ofNat o)), .val (.int (Int32.ofNat len)), .val .null, .unset] [])) := entry rfl
  have c2 : Steps p.tables e below (s₁.setTop (entryFrame m #[.ref a, .ref b, .int (Int32.ofNat o), .int (Int32.ofNat len), .null] 6)) (s₁.setTop (mkF m 1 #[.val (.ref a), .val (.ref b), .val (.int (Int32.ofNat o)), .val (.int (Int32.ofNat len)), .val .null, .unset] [.ref a])) := c1.trans (by
    refine XS.aloadN X0.here hexec rfl (hb hbytes d0) rfl rfl ?_
    exact Steps.refl _)
  obtain ⟨T3, X3, q3, st3⟩ := X0.oinit hexec hown (wks W (objW "java/lang/String" 1)) (g := (mkF m 1 #[.val (.ref a), .val (.ref b), .val (.int (Int32.ofNat o)), .val (.int (Int32.ofNat len)), .val .null, .unset] [.ref a])) rfl (by rw [hml]; rfl) (rest := []) rfl (hb hbytes d1) (W := 0) (by show 2 * 0 + 0 ≤ _; decide) (Nat.le_of_ble_eq_true rfl) (Nat.le_of_ble_eq_true rfl)
  have hh3 := q3.trans hh0
  have c4 : Steps p.tables e below (s₁.setTop (entryFrame m #[.ref a, .ref b, .int (Int32.ofNat o), .int (Int32.ofNat len), .null] 6)) (T3.setTop (mkF m 27 #[.val (.ref a), .val (.ref b), .val (.int (Int32.ofNat o)), .val (.int (Int32.ofNat len)), .val .null, .unset] [])) := (c2.trans (st3 _ (Steps.refl _))).trans (by
    refine XS.iloadN X3.here hexec rfl (hb hbytes d4) rfl ?_
    refine XS.ifYes X3.here hexec rfl (pc0 := 5) rfl (hb hbytes d5) rfl (i0_ne_t (nz32 (by omega) l0)) (by decide) rfl ?_
    exact Steps.refl _)
  obtain ⟨T5, X5, q5, st5⟩ := X3.sget hexec hown (wk W (.fieldLink "java/lang/String" 38 "java/lang/String" "COMPACT_STRINGS" "Z")) s1 (fun _ _ h => by rw [hh3]; exact h) (g := (mkF m 27 #[.val (.ref a), .val (.ref b), .val (.int (Int32.ofNat o)), .val (.int (Int32.ofNat len)), .val .null, .unset] [])) rfl (hb hbytes d27)
  have hh5 := q5.trans hh3
  have c6 : Steps p.tables e below (s₁.setTop (entryFrame m #[.ref a, .ref b, .int (Int32.ofNat o), .int (Int32.ofNat len), .null] 6)) (T5.setTop (mkF m 30 #[.val (.ref a), .val (.ref b), .val (.int (Int32.ofNat o)), .val (.int (Int32.ofNat len)), .val .null, .unset] [.int z])) := c4.trans (st5 _ (Steps.refl _))
  have c7 : Steps p.tables e below (s₁.setTop (entryFrame m #[.ref a, .ref b, .int (Int32.ofNat o), .int (Int32.ofNat len), .null] 6)) (T5.setTop (mkF m 36 #[.val (.ref a), .val (.ref b), .val (.int (Int32.ofNat o)), .val (.int (Int32.ofNat len)), .val .null, .unset] [.int (Int32.ofNat len), .int (Int32.ofNat o), .ref b])) := c6.trans (by
    refine XS.ifNo X5.here hexec rfl (hb hbytes d30) rfl (i0_eq_f hz) ?_
    refine XS.aloadN X5.here hexec rfl (hb hbytes d33) rfl rfl ?_
    refine XS.iloadN X5.here hexec rfl (hb hbytes d34) rfl ?_
    refine XS.iloadN X5.here hexec rfl (hb hbytes d35) rfl ?_
    exact Steps.refl _)
  obtain ⟨v8, T8, X8, E8, g8⟩ := X5.callS hexec (Cmp3.law l b A o len) hown (wks W (staticW "java/lang/String" 177 Cmp3.yN)) (wk W Cmp3.tab) (W := 0) (Nat.le_of_ble_eq_true rfl) (Nat.le_of_ble_eq_true rfl) (Nat.le_refl _) (by show 0 + len ≤ len; omega) (g := (mkF m 36 #[.val (.ref a), .val (.ref b), .val (.int (Int32.ofNat o)), .val (.int (Int32.ofNat len)), .val .null, .unset] [.int (Int32.ofNat len), .int (Int32.ofNat o), .ref b])) rfl (by rw [hml]; rfl) c7 (argsL := [.ref b, .int (Int32.ofNat o), .int (Int32.ofNat len)]) (rest := []) rfl rfl (by show 2 * 0 + 0 ≤ _; decide) (hb hbytes d36) (⟨rfl, hA.mv X5.warmed.alike hh5, l1, l2, hp⟩)
  obtain ⟨e8, z8⟩ := E8
  obtain ⟨rfl, N, n1, n2, n3, n4, n5, n6⟩ := NewArr.mv _ T5 s _ _ hh5.symm (Vm.Alike.refl _) rfl e8
  rw [hh5] at z8
  have hB1 := hB.keep X8.warmed.alike (n6 _ _ hB.1)
  have hne : s.heap.size ≠ a := (Nat.ne_of_lt (Array.getElem?_eq_some_iff.mp hB.1).1).symm
  have c9 : Steps p.tables e below (s₁.setTop (entryFrame m #[.ref a, .ref b, .int (Int32.ofNat o), .int (Int32.ofNat len), .null] 6)) (T8.setTop (mkF m 39 #[.val (.ref a), .val (.ref b), .val (.int (Int32.ofNat o)), .val (.int (Int32.ofNat len)), .val .null, .unset] [.ref s.heap.size])) := g8
  have c10 : Steps p.tables e below (s₁.setTop (entryFrame m #[.ref a, .ref b, .int (Int32.ofNat o), .int (Int32.ofNat len), .null] 6)) (T8.setTop (mkF m 45 #[.val (.ref a), .val (.ref b), .val (.int (Int32.ofNat o)), .val (.int (Int32.ofNat len)), .val .null, .val (.ref s.heap.size)] [.int (Int32.ofNat N.slots.size), .ref s.heap.size, .ref a])) := by
    have hc : Steps p.tables e below (s₁.setTop (entryFrame m #[.ref a, .ref b, .int (Int32.ofNat o), .int (Int32.ofNat len), .null] 6)) (T8.setTop (mkF m 45 #[.val (.ref a), .val (.ref b), .val (.int (Int32.ofNat o)), .val (.int (Int32.ofNat len)), .val .null, .val (.ref s.heap.size)] [.int (Int32.ofNat len), .ref s.heap.size, .ref a])) := c9.trans (by
      refine XS.astore X8.here hexec rfl (hb hbytes d39) rfl rfl rfl ?_
      refine XS.aloadN X8.here hexec rfl (hb hbytes d41) rfl rfl ?_
      refine XS.aload X8.here hexec rfl (hb hbytes d42) rfl rfl ?_
      refine XS.iloadN X8.here hexec rfl (hb hbytes d44) rfl ?_
      exact Steps.refl _)
    rw [n4]; exact hc
  obtain ⟨v11, T11, X11, E11, g11⟩ := X8.callS hexec (CodL.law l s.heap.size N) hown (wks W (staticW "java/lang/String" 47 CodL.yN)) (wk W CodL.tab) (W := 1) (Nat.le_of_ble_eq_true rfl) (Nat.le_of_ble_eq_true rfl) (Nat.le_refl _) (by show 0 + len + 0 ≤ len; omega) (g := (mkF m 45 #[.val (.ref a), .val (.ref b), .val (.int (Int32.ofNat o)), .val (.int (Int32.ofNat len)), .val .null, .val (.ref s.heap.size)] [.int (Int32.ofNat N.slots.size), .ref s.heap.size, .ref a])) rfl (by rw [hml]; rfl) c10 (argsL := [.ref s.heap.size, .int (Int32.ofNat N.slots.size)]) (rest := [.ref a]) rfl rfl (by show 2 * 0 + (1 + 0) ≤ _; decide) (hb hbytes d45) (⟨rfl, n1⟩)
  obtain ⟨rfl, q11⟩ := E11
  have hB11 := hB1.mv (X8.warmed.alike.symm.trans X11.warmed.alike) q11
  have c12 : Steps p.tables e below (s₁.setTop (entryFrame m #[.ref a, .ref b, .int (Int32.ofNat o), .int (Int32.ofNat len), .null] 6)) (T11.setTop (mkF m 48 #[.val (.ref a), .val (.ref b), .val (.int (Int32.ofNat o)), .val (.int (Int32.ofNat len)), .val .null, .val (.ref s.heap.size)] [.int 0, .ref a])) := g11
  obtain ⟨T13, X13, p13, bl13, sl13, st13⟩ := X11.finit hexec hown (wk W (.fieldLink "java/lang/String" 15 "java/lang/String" "coder" "B")) (Or.inr ⟨_, (wk W (.laysFinal "java/lang/String" "java/lang/String" "coder" "B"))⟩) (Or.inl ⟨rfl, hnm⟩) f2 (Or.inl rfl) hB11 (t := .byte) (by decide +kernel) rfl (g := (mkF m 48 #[.val (.ref a), .val (.ref b), .val (.int (Int32.ofNat o)), .val (.int (Int32.ofNat len)), .val .null, .val (.ref s.heap.size)] [.int 0, .ref a])) rfl (rest := []) rfl (hb hbytes d48)
  have c14 : Steps p.tables e below (s₁.setTop (entryFrame m #[.ref a, .ref b, .int (Int32.ofNat o), .int (Int32.ofNat len), .null] 6)) (T13.setTop (mkF m 54 #[.val (.ref a), .val (.ref b), .val (.int (Int32.ofNat o)), .val (.int (Int32.ofNat len)), .val .null, .val (.ref s.heap.size)] [.ref s.heap.size, .ref a])) := (c12.trans (st13 _ (Steps.refl _))).trans (by
    refine XS.aloadN X13.here hexec rfl (hb hbytes d51) rfl rfl ?_
    refine XS.aload X13.here hexec rfl (hb hbytes d52) rfl rfl ?_
    exact Steps.refl _)
  obtain ⟨T15, X15, p15, bl15, sl15, st15⟩ := X13.finit hexec hown (wk W (.fieldLink "java/lang/String" 9 "java/lang/String" "value" "[B")) (Or.inr ⟨_, (wk W (.laysFinal "java/lang/String" "java/lang/String" "value" "[B"))⟩) (Or.inl ⟨rfl, hnm⟩) f1 (Or.inl rfl) bl13 (t := (.array .byte)) (by decide +kernel) rfl (g := (mkF m 54 #[.val (.ref a), .val (.ref b), .val (.int (Int32.ofNat o)), .val (.int (Int32.ofNat len)), .val .null, .val (.ref s.heap.size)] [.ref s.heap.size, .ref a])) rfl (rest := []) rfl (hb hbytes d54)
  have c16 : Steps p.tables e below (s₁.setTop (entryFrame m #[.ref a, .ref b, .int (Int32.ofNat o), .int (Int32.ofNat len), .null] 6)) (T15.setTop (mkF m 57 #[.val (.ref a), .val (.ref b), .val (.int (Int32.ofNat o)), .val (.int (Int32.ofNat len)), .val .null, .val (.ref s.heap.size)] [])) := c14.trans (st15 _ (Steps.refl _))
  have ap := apart (Or.inr ⟨_, (wk W (.laysFinal "java/lang/String" "java/lang/String" "value" "[B"))⟩) (Or.inr ⟨_, (wk W (.laysFinal "java/lang/String" "java/lang/String" "coder" "B"))⟩) f1 f2 (t₁ := .array .byte) (t₂ := .byte) (by decide +kernel) (by decide +kernel) (by decide)
  have al := X8.warmed.alike.symm.trans X15.warmed.alike
  have n7 : T11.heap[s.heap.size]? = some N := by rw [q11]; exact n1.1
  exact ⟨T15, none, _, _, _, X15, by simp, rfl, by omega, (fun _ => rfl), ⟨rfl, _, N, bl15, ((Same.refl D _).set _ (by simp)).set _ (by simp), sl15, (Cell.slots_setSlot_ne _ ap).trans sl13, n1.keep al (p15.other hne (p13.other hne n7)), n2, by rw [al.findClass]; exact n3, n4, n5, fun y c h1 h2 => p15.other h1 (p13.other h1 (by rw [q11]; exact n6 y c h2)), by rw [p15.2.2, p13.2.2, q11]; exact z8⟩, fun fs hl => c16.trans (X15.returnOut hexec hret (hb hbytes d57) hl)⟩
end New4
namespace New1
def yN : MethodName := ⟨"java/lang/String", "<init>", "([C)V"⟩
abbrev yB : ByteArray := jdk_42_method_3_code
theorem d0 : decode yB 0 = .ok (.aload_n 0, 1) := by decide +kernel
theorem d1 : decode yB 1 = .ok (.aload_n 1, 1) := by decide +kernel
theorem d2 : decode yB 2 = .ok (.iconst 0, 1) := by decide +kernel
theorem d3 : decode yB 3 = .ok (.aload_n 1, 1) := by decide +kernel
theorem d4 : decode yB 4 = .ok (.arraylength, 1) := by decide +kernel
theorem d5 : decode yB 5 = .ok (.aconst_null, 1) := by decide +kernel
theorem d6 : decode yB 6 = .ok (.invokespecial 27, 3) := by decide +kernel
theorem d9 : decode yB 9 = .ok (.return_, 1) := by decide +kernel
def site : List Cond := [New4.tab] ++ initW "java/lang/String" 27 New4.yN
def tab : Cond := tabOf yN yB 2 none site
def P (a : Addr) (D : Cell) (fV fC : Field) (b : Addr) (A : Cell) (z : Int32) (args : Array Value) (s : State) : Prop := args = #[.ref a, .ref b] ∧ Blank "java/lang/String" a D s ∧ Found "java/lang/String" "value" "[B" fV s ∧ Found "java/lang/String" "coder" "B" fC s ∧ Ch b A s ∧ StaticIs s "java/lang/String" "COMPACT_STRINGS" "Z" (.int z) ∧ ¬ z = 0 ∧ 0 < A.slots.size ∧ A.slots.size ≤ 536870912 ∧ ∀ i, i < A.slots.size → ¬ 255 < cv A i
def E (a : Addr) (D : Cell) (fV fC : Field) (A : Cell) (r : Option Value) (s u : State) : Prop := Got a D fV fC A 0 A.slots.size r s u
/-- new String(chars), not empty, no char above 255: a Latin-1 String of their low bytes -/
theorem law (l : Launch) (a : Addr) (D : Cell) (fV fC : Field) (b : Addr) (A : Cell) (z : Int32) : Law l yN 2 1 3 52 yB 2 none site (P a D fV fC b A z) (E a D fV fC A) [⟨a, fC.slot⟩, ⟨a, fV.slot⟩] 1 A.slots.size := by
  refine Law.of_walk (plainFor_of_name (by decide +kernel)) (by decide +kernel) (by decide +kernel) (by decide) (fun _ _ h => by rw [h.1]; rfl) (fun _ U U' hal hh h => ⟨h.1, h.2.1.mv hal hh, h.2.2.1.al hal, h.2.2.2.1.al hal, h.2.2.2.2.1.mv hal hh, h.2.2.2.2.2.1.there hal hh, h.2.2.2.2.2.2⟩) (fun r U U' V V' h1 hal h2 h => Got.mv r U U' V V' h1 hal h2 h) ?_
  intro p e s m args below meth c s₁ X0 hexec hbytes hml hret hlk hnm hown hh0 W hP
  obtain ⟨rfl, hB, f1, f2, hA, s1, hz, l0, l2, hp⟩ := hP
  have c1 : Steps p.tables e below (s₁.setTop (entryFrame m #[.ref a, .ref b] 2)) (s₁.setTop (mkF m 0 #[.val (.ref a), .val (.ref b)] [])) := entry rfl
  have c2 : Steps p.tables e below (s₁.setTop (entryFrame m #[.ref a, .ref b] 2)) (s₁.setTop (mkF m 6 #[.val (.ref a), .val (.ref b)] [.null, .int (Int32.ofNat A.slots.size), .int 0, .ref b, .ref a])) := c1.trans (by
    refine XS.aloadN X0.here hexec rfl (hb hbytes d0) rfl rfl ?_
    refine XS.aloadN X0.here hexec rfl (hb hbytes d1) rfl rfl ?_
    refine iconstV X0.here hexec rfl 0 (hb hbytes d2) (by decide) ?_
    refine XS.aloadN X0.here hexec rfl (hb hbytes d3) rfl rfl ?_
    refine X0.alen hexec (hA.1.mv X0.warmed.alike hh0) rfl rfl (hb hbytes d4) ?_
    refine XS.aconstNull X0.here hexec rfl (hb hbytes d5) ?_
    exact Steps.refl _)
  obtain ⟨v3, T3, X3, E3, g3⟩ := X0.callN hexec (New4.law l a D fV fC b A z 0 A.slots.size) rfl hown (wks W (initW "java/lang/String" 27 New4.yN)) (W New4.tab (by simp only [site, List.mem_cons, List.mem_append, true_or, or_true])) (W := 0) (Nat.le_of_ble_eq_true rfl) (Nat.le_of_ble_eq_true rfl) (Nat.le_refl _) (by show 0 + A.slots.size ≤ A.slots.size; omega) (g := (mkF m 6 #[.val (.ref a), .val (.ref b)] [.null, .int (Int32.ofNat A.slots.size), .int (Int32.ofNat 0), .ref b, .ref a])) rfl (by rw [hml]; rfl) c2 (argsL := [.ref b, .int (Int32.ofNat 0), .int (Int32.ofNat A.slots.size), .null]) (rest := []) rfl rfl (by show 2 * 0 + 0 ≤ _; decide) (hb hbytes d6) (⟨rfl, hB.mv X0.warmed.alike hh0, f1.al X0.warmed.alike, f2.al X0.warmed.alike, hA.mv X0.warmed.alike hh0, s1.there X0.warmed.alike hh0, hz, l0, by omega, l2, fun i hi => by rw [Nat.zero_add]; exact hp i hi⟩)
  have e0 := Got.mv _ s₁ s _ _ hh0.symm (Vm.Alike.refl _) rfl E3
  obtain rfl := e0.1
  have c4 : Steps p.tables e below (s₁.setTop (entryFrame m #[.ref a, .ref b] 2)) (T3.setTop (mkF m 9 #[.val (.ref a), .val (.ref b)] [])) := g3
  exact ⟨T3, none, _, _, _, X3, by simp, rfl, by omega, (fun _ => rfl), e0, fun fs hl => c4.trans (X3.returnOut hexec hret (hb hbytes d9) hl)⟩
theorem pays {l : Launch} {R : Room} {p : Program} {e : Env} {below : List Frame} {s : State} {sargs : Array Value} {len W : Nat} (a : Addr) (D : Cell) (fV fC : Field) (b : Addr) (A : Cell) (z : Int32) (htab : tab.before sargs s = true) (hfr : 4 ≤ R.frames) (hlo : W + 65 ≤ R.locals) :
    Back l R p e below s sargs yN len W (fun A₁ a₁ => A₁.cells + 1 ≤ R.cells ∧ A₁.slots + A.slots.size ≤ R.slots ∧ P a D fV fC b A z a₁ A₁.U) (fun A₁ _ v₁ B₁ => E a D fV fC A v₁ A₁.U B₁.U ∧ B₁.locs = A₁.locs ++ [⟨a, fC.slot⟩, ⟨a, fV.slot⟩] ∧ B₁.cells = A₁.cells + 1 ∧ B₁.slots = A₁.slots + A.slots.size) :=
  (law l a D fV fC b A z).pays htab hfr (by omega)
end New1
end StrChars
namespace StrChars.Road
open Jvm Sem ClassFile Op Lib Jvm.Stand Jvm.Free Jvm.Free.XT
open Jvm.Lib.Cold (StaticIs)
abbrev ST : String := "java/lang/String"
/-- every table word that New1's law asks, flat -/
abbrev words : List Jvm.Cond := [.code New1.yN New1.yB 2 none, .initialized ST, .methodLink ST 27 New4.yN, .instanceMethod New4.yN,
  .code New4.yN New4.yB 6 none, .fieldLink ST 38 ST "COMPACT_STRINGS" "Z", .laysFinal ST ST "value" "[B", .fieldLink ST 9 ST "value" "[B", .laysFinal ST ST "coder" "B", .fieldLink ST 15 ST "coder" "B",
  .methodLink ST 1 Lib.objectInit, .instanceMethod Lib.objectInit, .code Lib.objectInit ⟨#[0xb1]⟩ 1 none, .methodLink ST 177 Cmp3.yN, .static Cmp3.yN, .methodLink ST 47 CodL.yN, .static CodL.yN,
  .code Cmp3.yN Cmp3.yB 6 (some (.array .byte)), .initialized U16, .arrayClass .byte, .methodLink U16 115 Cmp5.yN, .static Cmp5.yN, .code Cmp5.yN Cmp5.yB 7 (some .int), .code CodL.yN CodL.yB 2 (some .byte)]
theorem tab_of {a : Array Value} {s : State} (h : ∀ w ∈ words, w.before a s = true) : New1.tab.before a s = true := by
  have h5 : Cmp5.tab.before a s = true := unparts (wk h (.code Cmp5.yN Cmp5.yB 7 (some .int))) (wks h (.initialized Cmp5.yN.cls :: Cmp5.site))
  have hc : CodL.tab.before a s = true := unparts (wk h (.code CodL.yN CodL.yB 2 (some .byte))) (wks h (.initialized CodL.yN.cls :: CodL.site))
  have q5 : ∀ w ∈ Cmp5.tab :: words, w.before a s = true := fun w hw => (List.mem_cons.mp hw).elim (fun e => e ▸ h5) (h w)
  have h3 : Cmp3.tab.before a s = true := unparts (wk q5 (.code Cmp3.yN Cmp3.yB 6 (some (.array .byte)))) (wks q5 (.initialized Cmp3.yN.cls :: Cmp3.site))
  have q3 : ∀ w ∈ Cmp3.tab :: CodL.tab :: words, w.before a s = true := fun w hw => (List.mem_cons.mp hw).elim (fun e => e ▸ h3) fun hw => (List.mem_cons.mp hw).elim (fun e => e ▸ hc) (h w)
  have h4 : New4.tab.before a s = true := unparts (wk q3 (.code New4.yN New4.yB 6 none)) (wks q3 (.initialized New4.yN.cls :: New4.site))
  have q4 : ∀ w ∈ New4.tab :: words, w.before a s = true := fun w hw => (List.mem_cons.mp hw).elim (fun e => e ▸ h4) (h w)
  exact unparts (wk q4 (.code New1.yN New1.yB 2 none)) (wks q4 (.initialized New1.yN.cls :: New1.site))
/-- the words ride from the start Z to the walk's own state -/
theorem moved {Z s : State} {a0 args : Array Value} (hZ : Z.Warmed39 s.vm) (hw : ∀ d ∈ words, d.before a0 Z = true) : ∀ d ∈ words, d.before args s = true := fun d hd => by
  have q := hw d hd
  have t : ∀ d ∈ words, d = .arrayClass .byte ∨ (d.onTables && d.keepsFace) = true := by decide +kernel
  rcases t d hd with rfl | t
  · exact RoadKit.mvA hZ q
  · exact RoadKit.mv hZ q t
/-- WHAT COMES BACK, over the tables of the start Z: h the heap at the call, h' behind it -/
def Q (Z : State) (x : Addr) (A : Cell) (h : Heap) (v : Option Value) (h' : Heap) (L : List Loc) : Prop := v = none ∧ (∀ y ∈ L, y.base = x) ∧ RoadKit.Keep h h' [x] ∧ h'.size = h.size + 1 ∧ RoadKit.Exa Z h' x ST ∧ RoadKit.Fld Z h' x ST "value" "[B" (.ref h.size) ∧ RoadKit.Fld Z h' x ST "coder" "B" (.int 0) ∧
  (∃ V : Cell, RoadKit.Arr Z h' h.size V .byte ∧ V.vm = .none ∧ Z.vm.findClass "[B" = some V.cls ∧ V.slots.size = A.slots.size ∧ ∀ j, j < A.slots.size → V.slots[j]? = some (.int (lo8 (cv A j)))) ∧
  ∀ (O n d : String) (w : Value), RoadKit.Fld Z h x O n d w → RoadKit.slotOf Z O n d ≠ RoadKit.slotOf Z ST "value" "[B" → RoadKit.slotOf Z O n d ≠ RoadKit.slotOf Z ST "coder" "B" → RoadKit.Fld Z h' x O n d w
/-- **new String(chars) AT A CALL, IN THE ROAD'S FORM**: for specialBack behind newO: x the fresh String, b the char[] with the cell A -/
theorem back {p : Program} {l : Launch} {e : Env} {R : Room} {s : State} {args : Array Value} {below : List Frame} {len W : Nat} {Z : State} {a0 : Array Value} {h : Heap} (hZ : Z.Warmed39 s.vm) (hw : ∀ d ∈ words, d.before a0 Z = true) {kI : Nat} (wi : (Jvm.Cond.instantiable ST kI).before a0 Z = true)
    {x b : Addr} {A : Cell} {z : Int32} {v0 c0 : Value} (E : RoadKit.Exa Z h x ST) (V : RoadKit.Fld Z h x ST "value" "[B" v0) (C : RoadKit.Fld Z h x ST "coder" "B" c0) (K : RoadKit.Arr Z h b A .char) (hty : Typed .char A) (S : RoadKit.Sta Z h ST "COMPACT_STRINGS" "Z" (.int z)) (hz : ¬ z = 0)
    (l0 : 0 < A.slots.size) (l2 : A.slots.size ≤ 536870912) (hp : ∀ i, i < A.slots.size → ¬ 255 < cv A i) (hfr : 4 ≤ R.frames) (hlo : W + 65 ≤ R.locals) :
    Back l R p e below s args New1.yN len W (fun P a => a = #[.ref x, .ref b] ∧ P.U.heap = h ∧ P.cells + 1 ≤ R.cells ∧ P.slots + A.slots.size ≤ R.slots)
      (fun P _ v B => ∃ L, Q Z x A h v B.U.heap L ∧ B.locs = P.locs ++ L ∧ B.cells = P.cells + 1 ∧ B.slots = P.slots + A.slots.size) := by
  intro m meth c P g ig mk a X hg hsize hdg hW hn hp'
  obtain ⟨rfl, rfl, r1, r2⟩ := hp'
  have al : Z.vm.Alike P.U.vm := hZ.alike.trans X.warmed.alike
  obtain ⟨D, cfV, kV, iV, fV, hD, gV, stV, knV, obV, asV, slV⟩ := id V
  obtain ⟨D', cfC, kC, iC, fC, hD', gC, stC, -, -, asC, slC⟩ := id C
  cases hD.symm.trans hD'
  obtain ⟨D2, kD, e1, e2, e3, e4, e5⟩ := id E
  cases hD.symm.trans e1
  obtain ⟨c2, k2, i1, i2, i3, -⟩ := Cond.instantiable_spec wi
  cases e2.symm.trans i1
  cases e3.symm.trans i2
  obtain ⟨kU, u1, u2⟩ := al.2.2 _ _ e3
  have hB : Blank ST x D P.U := ⟨hD, ⟨knV, fun q hq => by rw [hq] at obV; cases obV⟩, by rw [al.findClass]; exact e2, kU, u1, by rw [u2]; exact i3, by rw [u2]; exact e5 i3⟩
  have F1 : Found ST "value" "[B" fV P.U := ⟨SBG.found_only al ⟨cfV, kV, iV, gV⟩, stV⟩
  have F2 : Found ST "coder" "B" fC P.U := ⟨SBG.found_only al ⟨cfC, kC, iC, gC⟩, stC⟩
  have hA : Ch b A P.U := ⟨⟨K.1, State.isArrayOf_alike al K.2.1, K.2.2, by omega⟩, hty⟩
  have hS : StaticIs P.U ST "COMPACT_STRINGS" "Z" (.int z) := by
    obtain ⟨cfS, iS, kS, fS, st, cS, t1, t2, t3, t4, t5, t6, t7⟩ := S
    exact StaticIs.there (s := { Z with heap := P.U.heap }) ⟨cfS, iS, kS, fS, st, cS, t1, t2, t3, t4, t5, (fun q => by rw [q] at t6; cases t6), t7⟩ al rfl
  obtain ⟨v, B, X', ⟨⟨hv, E', V', q1, q2, q3, q4, q5, q6, q7, q8, q9, q10, q11⟩, hl, hc, hs⟩, st⟩ := New1.pays x D fV fC b A z (tab_of (moved hZ hw)) hfr hlo m meth c P g ig mk _ X hg hsize hdg hW hn ⟨r1, r2, rfl, hB, F1, F2, hA, hS, hz, l0, l2, hp⟩
  have al' : Z.vm.Alike B.U.vm := hZ.alike.trans X'.warmed.alike
  have hsz : E'.slots.size = D.slots.size := by
    obtain ⟨-, -, -, kB, w1, w2, w3⟩ := q1
    obtain ⟨kB', y1, y2⟩ := al'.2.2 _ _ e3
    rw [q2.2.1] at w1
    cases w1.symm.trans y1
    rw [w3, e5 i3, y2]
  refine ⟨v, B, X', ⟨_, ⟨hv, ?_, ⟨by omega, fun y cy hy hn' => q10 y cy (by simpa using hn') hy, fun y cy hy => ?_⟩, q11, ⟨E', _, q1.1, by rw [q2.2.1]; exact e2, by rw [q2.2.1]; exact e3, by rw [q2.1]; exact obV, fun _ => by rw [hsz]; exact e5 i3⟩,
    ⟨E', cfV, kV, iV, fV, q1.1, gV, stV, by rw [q2.1]; exact knV, by rw [q2.1]; exact obV, by rw [q2.2.1]; exact asV, q3⟩, ⟨E', cfC, kC, iC, fC, q1.1, gC, stC, by rw [q2.1]; exact knV, by rw [q2.1]; exact obV, by rw [q2.2.1]; exact asC, q4⟩,
    ⟨V', ⟨q5.1, State.isArrayOf_alike al'.symm q5.2.1, q5.2.2.1⟩, q6, by rw [← al'.findClass]; exact q7, q8, fun j hj => by have := q9 j hj; rwa [Nat.zero_add] at this⟩, fun O n d w F n1 n2 => ?_⟩, hl, hc, hs⟩, st⟩
  · intro y hy
    simp only [List.mem_cons, List.not_mem_nil, or_false] at hy
    rcases hy with rfl | rfl <;> rfl
  · by_cases q : y = x
    · subst q
      cases hD.symm.trans hy
      exact ⟨E', q1.1, q2.2.1, q2.1, hsz⟩
    · exact ⟨cy, q10 y cy q hy, rfl, rfl, rfl⟩
  · obtain ⟨D3, cf, k, i, f, g1, g2, g3, g4, g5, g6, g7⟩ := F
    cases hD.symm.trans g1
    simp only [RoadKit.slotOf, g2, gV, gC, Option.map_some, Option.getD_some] at n1 n2
    exact ⟨E', cf, k, i, f, q1.1, g2, g3, by rw [q2.1]; exact g4, by rw [q2.1]; exact g5, by rw [q2.2.1]; exact g6, by rw [q2.2.2 f.slot (by simp [n1, n2])]; exact g7⟩
end StrChars.Road
namespace StrChars.Road
open Jvm Sem ClassFile Op Lib Jvm.Stand Jvm.Free Jvm.Free.XT
/-- WHAT COMES BACK, the byte[] as a list of values -/
def QA (Z : State) (x : Addr) (zn : Int32) (cs : List Int32) (h : Heap) (v : Option Value) (h' : Heap) (L : List Loc) : Prop := v = none ∧ (∀ y ∈ L, y.base = x) ∧ RoadKit.Keep h h' [x] ∧ h'.size = h.size + 1 ∧ RoadKit.Exa Z h' x ST ∧ RoadKit.Fld Z h' x ST "value" "[B" (.ref h.size) ∧ RoadKit.Fld Z h' x ST "coder" "B" (.int 0) ∧
  (∃ kb, Z.vm.findClass "[B" = some kb ∧ RoadKit.Arv Z h' h.size kb .byte zn (cs.map fun c => .int (lo8 c)) (.int 0)) ∧
  ∀ (O n d : String) (w : Value), RoadKit.Fld Z h x O n d w → RoadKit.slotOf Z O n d ≠ RoadKit.slotOf Z ST "value" "[B" → RoadKit.slotOf Z O n d ≠ RoadKit.slotOf Z ST "coder" "B" → RoadKit.Fld Z h' x O n d w
/-- **new String(chars) AT A CALL, THE ARRAYS AS LISTS**: the char[] at b holds cs, not empty, no char above 255 -/
theorem backArv {p : Program} {l : Launch} {e : Env} {R : Room} {s : State} {args : Array Value} {below : List Frame} {len W : Nat} {Z : State} {a0 : Array Value} {h : Heap} (hZ : Z.Warmed39 s.vm) (hw : ∀ d ∈ words, d.before a0 Z = true) {kI : Nat} (wi : (Jvm.Cond.instantiable ST kI).before a0 Z = true)
    {x b : Addr} {k : ClassId} {zn z : Int32} {cs : List Int32} {dv v0 c0 : Value} (E : RoadKit.Exa Z h x ST) (V : RoadKit.Fld Z h x ST "value" "[B" v0) (C : RoadKit.Fld Z h x ST "coder" "B" c0) (K : RoadKit.Arv Z h b k .char zn (cs.map Value.int) dv) (S : RoadKit.Sta Z h ST "COMPACT_STRINGS" "Z" (.int z)) (hz : ¬ z = 0)
    (hlen : zn.toNatClampNeg = cs.length) (h0 : 0 < cs.length) (hbig : cs.length ≤ 536870912) (hall : ∀ c ∈ cs, ¬ 255 < c) (hfr : 4 ≤ R.frames) (hlo : W + 65 ≤ R.locals) :
    Back l R p e below s args New1.yN len W (fun P a => a = #[.ref x, .ref b] ∧ P.U.heap = h ∧ P.cells + 1 ≤ R.cells ∧ P.slots + cs.length ≤ R.slots)
      (fun P _ v B => ∃ L, QA Z x zn cs h v B.U.heap L ∧ B.locs = P.locs ++ L ∧ B.cells = P.cells + 1 ∧ B.slots = P.slots + cs.length) := by
  obtain ⟨A, K1, K2, K3, K4, K5, K6⟩ := K
  have e : A.slots.size = cs.length := K3.trans hlen
  have hat : ∀ (i : Nat) (hi : i < cs.length), A.slots[i]? = some (.int cs[i]) := fun i hi => by rw [K5 i (by omega)]; simp [List.getD_eq_getElem?_getD, hi]
  have hcv : ∀ (i : Nat) (hi : i < cs.length), cv A i = cs[i] := fun i hi => by unfold cv; rw [hat i hi]
  have hty : Typed .char A := fun i v hv => by
    have hi : i < A.slots.size := (Array.getElem?_eq_some_iff.mp hv).1
    have q := K5 i hi
    rw [hv] at q
    rw [Option.some.inj q]
    exact K6 i hi
  refine Back.mono (back hZ hw wi E V C K1 hty S hz (by omega) (by omega) (fun i hi => by rw [hcv i (by omega)]; exact hall _ (List.getElem_mem _)) hfr hlo) (fun P a hp => ⟨hp.1, hp.2.1, hp.2.2.1, by rw [e]; exact hp.2.2.2⟩) (fun P a v B hp hq => ?_)
  obtain ⟨L, ⟨q1, q2, q3, q4, q5, q6, q7, ⟨V', v1, v2, v3, v4, v5⟩, q9⟩, hl, hc, hs⟩ := hq
  refine ⟨L, ⟨q1, q2, q3, q4, q5, q6, q7, ⟨V'.cls, v3, V', v1, rfl, by rw [v4, e, hlen], K4, fun i hi => ?_, fun i hi => ?_⟩, q9⟩, hl, hc, by rw [hs, e]⟩
  · have hi' : i < cs.length := by omega
    rw [v5 i (by omega), hcv i hi']; simp [List.getD_eq_getElem?_getD, hi']
  · have hi' : i < cs.length := by omega
    simp only [List.getD_eq_getElem?_getD, List.getElem?_map, List.getElem?_eq_getElem hi', Option.map_some, Option.getD_some]
    exact fits_lo8 _
end StrChars.Road
namespace StrChars.Road
open Jvm Sem ClassFile Op Lib Jvm.Stand Jvm.Free Jvm.Free.XT
/-- WHAT COMES BACK, in the writer's own shape -/
def QV (Z : State) (x : Addr) (N : Int32) (bs : List Int32) (h : Heap) (n0 : Nat) (v : Option Value) (h' : Heap) (L : List Loc) : Prop := v = none ∧ RoadKit.Fr n0 L ∧ RoadKit.Keep h h' [x] ∧ RoadKit.Exa Z h' x ST ∧ RoadKit.Fld Z h' x ST "coder" "B" (.int 0) ∧
  ∃ (t : Addr) (kb : ClassId), n0 ≤ t ∧ h.size ≤ t ∧ ¬ t = x ∧ RoadKit.Fld Z h' x ST "value" "[B" (.ref t) ∧ RoadKit.Arv Z h' t kb .byte N (bs.map Value.int) (.int 0)
/-- **new String(chars) AT A CALL, FOR THE WRITER**: a char[] of n known ints, each 0 to 255 -/
theorem backV {p : Program} {l : Launch} {e : Env} {R : Room} {s : State} {args : Array Value} {below : List Frame} {len W : Nat} {Z : State} {a0 : Array Value} {h : Heap} (hZ : Z.Warmed39 s.vm) (hw : ∀ d ∈ words, d.before a0 Z = true) {kI : Nat} (wi : (Jvm.Cond.instantiable ST kI).before a0 Z = true)
    {x b : Addr} {kC : ClassId} {cs bs : List Int32} {d v0 c0 : Value} {z N : Int32} {n n0 : Nat} (hx0 : n0 ≤ x) (hh0 : n0 ≤ h.size) (E : RoadKit.Exa Z h x ST) (V : RoadKit.Fld Z h x ST "value" "[B" v0) (C : RoadKit.Fld Z h x ST "coder" "B" c0) (K : RoadKit.Arv Z h b kC .char N (cs.map Value.int) d) (S : RoadKit.Sta Z h ST "COMPACT_STRINGS" "Z" (.int z)) (hz : ¬ z = 0)
    (hn : cs.length = n) (hN : N = Int32.ofNat n) (l0 : 0 < n) (l2 : n ≤ 4000) (hp : ∀ c ∈ cs, ¬ c < 0 ∧ ¬ (255 : Int32) < c) (hb : bs = cs.map (fun c => c.toInt8.toInt32)) (hfr : 4 ≤ R.frames) (hlo : W + 65 ≤ R.locals) :
    Back l R p e below s args (⟨"java/lang/String", "<init>", "([C)V"⟩ : MethodName) len W (fun P a => a = #[.ref x, .ref b] ∧ P.U.heap = h ∧ P.cells + 1 ≤ R.cells ∧ P.slots + n ≤ R.slots)
      (fun P _ v B => ∃ L, QV Z x N bs h n0 v B.U.heap L ∧ B.locs = P.locs ++ L ∧ B.cells = P.cells + 1 ∧ B.slots = P.slots + n) := by
  subst hn hN hb
  refine Back.mono (backArv hZ hw wi E V C K S hz (n32 (by omega)) l0 (by omega) (fun c hc => (hp c hc).2) hfr hlo) (fun P a hp => hp) (fun P a v B hp hq => ?_)
  obtain ⟨L, ⟨q1, q2, q3, q4, q5, q6, q7, ⟨kb, v1, v2⟩, q9⟩, hl, hc, hs⟩ := hq
  exact ⟨L, ⟨q1, fun y hy => by rw [q2 y hy]; exact hx0, q3, q5, q7, h.size, kb, hh0, Nat.le_refl _, Nat.ne_of_gt E.lt, q6, by rw [List.map_map]; exact v2⟩, hl, hc, hs⟩
end StrChars.Road
end Jvm.Pilot.@@N@@
namespace Jvm.Pilot.@@N@@
open Jvm Jvm.ClassFile Sem Op Lib Jvm.Free Jvm.Stand Jvm.LawKit Jvm.RoadKit Bundle Jvm.Pilot.@@N@@.Jvm.D
section Own
variable {p : Program} {l : Launch} {e : Env} {R : Room} {s : State} {m : MethodId} {args : Array Value} {below : List Frame} {meth : Method} {c : Code} {T T' : State} {locs : List Loc} {cells slots : Nat}
/-- from the frame f on the run returns, and what it leaves is said by Q -/
def Go (p : Program) (e : Env) (below : List Frame) (s : State) (Q : Option Value → Heap → List Loc → Prop) (cs ss : Nat) (T : State) (f : JFrame) : Prop :=
  ∃ s₂ o, Steps p.tables e below (T.setTop f) s₂ ∧ s₂.status = .running ∧ Ended s₂ below o ∧ ∃ v L, o = .returned v ∧ Q v s₂.heap L ∧ FrameEnd s o s₂ L cs ss
theorem Go.st {Q : Option Value → Heap → List Loc → Prop} {cs ss : Nat} {f f' : JFrame} (k : ∀ t, Steps p.tables e below (T'.setTop f') t → Steps p.tables e below (T.setTop f) t) (h : Go p e below s Q cs ss T' f') : Go p e below s Q cs ss T f := by
  obtain ⟨s₂, o, h1, h2⟩ := h
  exact ⟨s₂, o, k _ h1, h2⟩
theorem Go.start {Q : Option Value → Heap → List Loc → Prop} {cs ss ml : Nat} {f : JFrame} (hf : entryFrame m args ml = f) (h : Go p e below s Q cs ss T f) :
    ∃ s₂ o, Steps p.tables e below (T.setTop (entryFrame m args ml)) s₂ ∧ s₂.status = .running ∧ Ended s₂ below o ∧ ∃ v L, o = .returned v ∧ Q v s₂.heap L ∧ FrameEnd s o s₂ L cs ss := by
  subst hf; exact h
theorem Go.fr {Q : Option Value → Heap → List Loc → Prop} {cs ss : Nat} {f f' : JFrame} (q : f = f') (h : Go p e below s Q cs ss T f') : Go p e below s Q cs ss T f := by
  subst q; exact h
theorem Go.ret {Q : Option Value → Heap → List Loc → Prop} {cs ss : Nat} {f : JFrame} (X : Stand p l e R s m args below meth c T locs cells slots) (hlk : meth.locks = false) {v : Option Value} (hv : meth.sig.returnType = none → v = none)
    (k : ∀ fs, (∀ (f : JFrame) (acts : List Action), f.method = m → f.locked = none → f.entered = [] → (doReturn e (T.setTop f) acts v).1 = T.setFrames fs) → Steps p.tables e below (T.setTop f) (T.setFrames fs))
    (hQ : Q v T.heap locs) (hc : cells ≤ cs) (hs : slots ≤ ss) : Go p e below s Q cs ss T f := by
  obtain ⟨fs, hr, hrun, hended, hW, hsame⟩ := X.leave (v := v) hv hlk
  exact ⟨_, _, k fs hr, hrun, hended, _, _, rfl, hQ, ⟨_, rfl⟩, hW, hsame.mono hc hs⟩
theorem own_fld {t : Term} {a : Addr} {C n d : String} {k : Int32} (ev : t.eval args s none [] s = some (.ref a)) (h : (Jvm.Cond.eq (.field t C n d) (.int k)).value args s none s [] = some true) : Fld s s.heap a C n d (.int k) := by
  have q : (Term.field t C n d).eval args s none [] s = s.fieldOf? a C n d := fld_at ev
  have q2 : (Term.field t C n d).eval args s none [] s = some (.int k) := Cond.eq_int (Cond.before_iff.mpr h) rfl
  exact Fld.start (q.symm.trans q2)
theorem own_sta {Z : State} {h h' : Heap} {C n d : String} {v : Value} {ws : List Addr} (F : Sta Z h C n d v) (K : Keep h h' ws) (q : ∀ x ∈ ws, ∃ c : Cell, h[x]? = some c ∧ ∀ q, c.vm ≠ .statics q) : Sta Z h' C n d v := by
  obtain ⟨cf, i, k, f, st, cell, h1, h2, h3, h4, h5, h6, h7⟩ := F
  refine ⟨cf, i, k, f, st, cell, h1, h2, h3, h4, K.2.1 st cell h5 fun hm => ?_, h6, h7⟩
  obtain ⟨c, hc, hn⟩ := q st hm
  cases hc.symm.trans h5
  cases hv : cell.vm <;> simp [hv, VmData.isStatics] at h6 hn
theorem own_bb (x : Int32) : x.toInt8.toInt32.toInt8.toInt32 = x.toInt8.toInt32 := by simp
theorem own_arvcell {Z : State} {h : Heap} {a : Addr} {k : ClassId} {ty : FieldType} {z : Int32} {vs : List Value} {dv : Value} (F : Arv Z h a k ty z vs dv) : ∃ c : Cell, h[a]? = some c ∧ ∀ q, c.vm ≠ .statics q := by
  obtain ⟨c, A, -⟩ := F
  exact ⟨c, A.1, fun q hq => by have := A.plain; simp [hq, VmData.isStatics] at this⟩
/-- a static that holds a reference or null -/
def StaR (Z : State) (h : Heap) (C n d : String) : Prop := Sta Z h C n d .null ∨ ∃ a, Sta Z h C n d (.ref a)
theorem StaR.ext {Z : State} {h h' : Heap} {C n d : String} (F : StaR Z h C n d) (E : Ext h h') : StaR Z h' C n d := F.imp (fun q => q.ext E) fun ⟨a, q⟩ => ⟨a, q.ext E⟩
theorem StaR.wr {Z : State} {h h' : Heap} {C n d : String} {a : Addr} {sl : Nat} {v : Value} (F : StaR Z h C n d) (W : Wr h h' a sl v) : StaR Z h' C n d := F.imp (fun q => q.wr W) fun ⟨a, q⟩ => ⟨a, q.wr W⟩
theorem own_staR {Z : State} {h h' : Heap} {C n d : String} {ws : List Addr} (F : StaR Z h C n d) (K : Keep h h' ws) (q : ∀ x ∈ ws, ∃ c : Cell, h[x]? = some c ∧ ∀ q, c.vm ≠ .statics q) : StaR Z h' C n d := F.imp (fun r => own_sta r K q) fun ⟨a, r⟩ => ⟨a, own_sta r K q⟩
end Own
section OwnW
variable {p : Program} {l : Launch} {e : Env} {R : Room} {s : State} {m : MethodId} {args : Array Value} {below : List Frame} {meth : Method} {c : Code} {T T' : State} {locs : List Loc} {cells slots : Nat}
/-- as Go, where String constants may have been resolved meanwhile -/
def GoW (p : Program) (e : Env) (below : List Frame) (s : State) (Q : Option Value → Heap → List Loc → Prop) (cs ss : Nat) (T : State) (f : JFrame) : Prop :=
  ∃ s₂ o, Steps p.tables e below (T.setTop f) s₂ ∧ s₂.status = .running ∧ Ended s₂ below o ∧ ∃ v L, o = .returned v ∧ Q v s₂.heap L ∧ ReturnedEndW s o s₂ L cs ss
theorem GoW.st {Q : Option Value → Heap → List Loc → Prop} {cs ss : Nat} {f f' : JFrame} (k : ∀ t, Steps p.tables e below (T'.setTop f') t → Steps p.tables e below (T.setTop f) t) (h : GoW p e below s Q cs ss T' f') : GoW p e below s Q cs ss T f := by
  obtain ⟨s₂, o, h1, h2⟩ := h
  exact ⟨s₂, o, k _ h1, h2⟩
theorem GoW.start {Q : Option Value → Heap → List Loc → Prop} {cs ss ml : Nat} {f : JFrame} (hf : entryFrame m args ml = f) (h : GoW p e below s Q cs ss T f) :
    ∃ s₂ o, Steps p.tables e below (T.setTop (entryFrame m args ml)) s₂ ∧ s₂.status = .running ∧ Ended s₂ below o ∧ ∃ v L, o = .returned v ∧ Q v s₂.heap L ∧ ReturnedEndW s o s₂ L cs ss := by
  subst hf; exact h
theorem GoW.fr {Q : Option Value → Heap → List Loc → Prop} {cs ss : Nat} {f f' : JFrame} (q : f = f') (h : GoW p e below s Q cs ss T f') : GoW p e below s Q cs ss T f := by
  subst q; exact h
theorem GoW.ret {vm₁ : Vm} {n : Nat} {Q : Option Value → Heap → List Loc → Prop} {cs ss : Nat} {f : JFrame} (X : Stand p l e R (s.setVm vm₁) m args below meth c T locs cells slots) (hS : s.Since vm₁ n) (hn : n ≤ T.heap.size) (hlk : meth.locks = false) {v : Option Value} (hv : meth.sig.returnType = none → v = none)
    (k : ∀ fs, (∀ (f : JFrame) (acts : List Action), f.method = m → f.locked = none → f.entered = [] → (doReturn e (T.setTop f) acts v).1 = T.setFrames fs) → Steps p.tables e below (T.setTop f) (T.setFrames fs))
    (hQ : Q v T.heap locs) (hc : cells ≤ cs) (hs : slots ≤ ss) : GoW p e below s Q cs ss T f := by
  obtain ⟨fs, hr, hrun, hended, h1, h2, h3, h4⟩ := X.leaveW hS hn (v := v) hv hlk
  exact ⟨_, _, k fs hr, hrun, hended, _, _, rfl, hQ, h1, h2, h3, h4.mono hc hs⟩
end OwnW
theorem own_root {Z : State} {a0 : Array Value} {O K : String} {n : Nat} (w : (Jvm.Cond.noSuperclass O).before a0 Z = true) (wk : (Jvm.Cond.instantiable K n).before a0 Z = true) (hn : O ≠ K) : NS Z O K := by
  obtain ⟨c, k, h1, h2, h3, -, -⟩ := Cond.noSuperclass_spec w
  obtain ⟨t, -, g1, -⟩ := Cond.instantiable_spec wk
  have ne := ids_ne h1 g1 hn
  refine ⟨c, t, h1, g1, fun fuel => ?_⟩
  cases fuel with
  | zero => rfl
  | succ f => simp [Vm.isSubclassAux, ne, h2, h3]
theorem own_no {Z : State} {a0 : Array Value} {C S K : String} {n : Nat} (w : (Jvm.Cond.superclass C S).before a0 Z = true) (wk : (Jvm.Cond.instantiable K n).before a0 Z = true) (hs : NS Z C K) (hn : C ≠ K) : ∃ c t, Z.vm.findClass C = some c ∧ Z.vm.findClass K = some t ∧ Z.vm.assignable c t = false := by
  obtain ⟨c, t, h0, g0, n3⟩ := hs
  obtain ⟨p, k, kp, h1, h2, h3, h4, h5, -, h7⟩ := Cond.superclass_spec h0 w
  obtain ⟨t', k', g1, g2, g5, g7, -⟩ := Cond.instantiable_spec wk
  cases g0.symm.trans g1
  have g8 : k'.isInterface = false := by simp only [Bool.or_eq_false_iff] at g7; exact g7.1
  have ne := ids_ne h0 g0 hn
  refine ⟨c, t, h0, g0, ?_⟩
  show Z.vm.assignableAux (255 + 1) c t = false
  simp [Vm.assignableAux, ne, h2, g2, h5, g5, g8, Vm.isSubclass, n3]
theorem own_nd {P Q : Prop} (h : P ↔ Q) : ¬ P → ¬ Q := mt h.mpr
theorem own_and255 (x : Int32) : ¬ (x &&& 255) < 0 ∧ ¬ (255 : Int32) < (x &&& 255) := by
  have h := c_mask x 255 8 (by decide) (by decide)
  have e0 : (0 : Int32).toInt = 0 := by decide
  have e1 : (255 : Int32).toInt = 255 := by decide
  rw [Int32.lt_iff_toInt_lt, Int32.lt_iff_toInt_lt]
  omega
theorem pn_com_example_prudent_checker_prudentchecker_language_Expression : plainName "com/example/prudent_checker/prudentchecker/language/Expression" = true := by first | (simp [plainName, overriddenIn]; done) | decide +kernel
theorem pn_com_example_prudent_checker_prudentchecker_language_Variable : plainName "com/example/prudent_checker/prudentchecker/language/Variable" = true := by first | (simp [plainName, overriddenIn]; done) | decide +kernel
theorem pd_0 : parseMethodDescriptor "()V" = some ⟨[], none⟩ := by decide +kernel
theorem pn_com_example_prudent_checker_prudentchecker_language_VariableReference : plainName "com/example/prudent_checker/prudentchecker/language/VariableReference" = true := by first | (simp [plainName, overriddenIn]; done) | decide +kernel
theorem pd_1 : parseMethodDescriptor "(Ljava/lang/String;Lcom/example/prudent_checker/prudentchecker/language/ScalarType;ILjava/lang/String;)V" = some ⟨[(.object "java/lang/String"), (.object "com/example/prudent_checker/prudentchecker/language/ScalarType"), .int, (.object "java/lang/String")], none⟩ := by decide +kernel
theorem pd_2 : parseMethodDescriptor "(Lcom/example/prudent_checker/prudentchecker/language/Variable;)V" = some ⟨[(.object "com/example/prudent_checker/prudentchecker/language/Variable")], none⟩ := by decide +kernel
theorem pd_3 : parseMethodDescriptor "(Ljava/lang/Object;)Z" = some ⟨[(.object "java/lang/Object")], some .boolean⟩ := by decide +kernel
theorem pd_4 : parseMethodDescriptor "([C)V" = some ⟨[(.array .char)], none⟩ := by decide +kernel
theorem pn_com_example_prudent_checker_prudentchecker_language_VariableReferenceEqualsPinLaw : plainName "com/example/prudent_checker/prudentchecker/language/VariableReferenceEqualsPinLaw" = true := by first | (simp [plainName, overriddenIn]; done) | decide +kernel
theorem own_rem (x k : Int32) (hk : 0 < k.toInt) : 0 ≤ ((x &&& 2147483647) % k).toInt ∧ ((x &&& 2147483647) % k).toInt < k.toInt := by
  have h := c_mask x 2147483647 31 (by decide) (by decide)
  have h0 : 0 ≤ (x &&& 2147483647).toInt := by rw [h]; omega
  have h2 := (c_iremV (x &&& 2147483647) k).1 h0 hk
  exact ⟨h2.1, h2.2.1⟩
theorem own_i32 {x : Int32} {k : Int} (h : x.toInt = k) (y : Int32) (hy : y.toInt = k) : x = y := Int32.toInt_inj.mp (h.trans hy.symm)
theorem own_mod3 (x : Int32) : (x &&& 2147483647) % 3 = 0 ∨ (x &&& 2147483647) % 3 = 1 ∨ (x &&& 2147483647) % 3 = 2 := by
  have h := own_rem x 3 (by decide)
  have h3 : (3 : Int32).toInt = 3 := by decide
  rw [h3] at h
  generalize (x &&& 2147483647) % 3 = y at h ⊢
  have : y.toInt = 0 ∨ y.toInt = 1 ∨ y.toInt = 2 := by omega
  rcases this with h | h | h
  · exact Or.inl (own_i32 h 0 (by decide))
  · exact Or.inr (Or.inl (own_i32 h 1 (by decide)))
  · exact Or.inr (Or.inr ((own_i32 h 2 (by decide))))
theorem own_mod6 (x : Int32) : (x &&& 2147483647) % 6 = 0 ∨ (x &&& 2147483647) % 6 = 1 ∨ (x &&& 2147483647) % 6 = 2 ∨ (x &&& 2147483647) % 6 = 3 ∨ (x &&& 2147483647) % 6 = 4 ∨ (x &&& 2147483647) % 6 = 5 := by
  have h := own_rem x 6 (by decide)
  have h3 : (6 : Int32).toInt = 6 := by decide
  rw [h3] at h
  generalize (x &&& 2147483647) % 6 = y at h ⊢
  have : y.toInt = 0 ∨ y.toInt = 1 ∨ y.toInt = 2 ∨ y.toInt = 3 ∨ y.toInt = 4 ∨ y.toInt = 5 := by omega
  rcases this with h | h | h | h | h | h
  · exact Or.inl (own_i32 h 0 (by decide))
  · exact Or.inr (Or.inl (own_i32 h 1 (by decide)))
  · exact Or.inr (Or.inr (Or.inl (own_i32 h 2 (by decide))))
  · exact Or.inr (Or.inr (Or.inr (Or.inl (own_i32 h 3 (by decide)))))
  · exact Or.inr (Or.inr (Or.inr (Or.inr (Or.inl (own_i32 h 4 (by decide))))))
  · exact Or.inr (Or.inr (Or.inr (Or.inr (Or.inr ((own_i32 h 5 (by decide)))))))
theorem d9_0 : decode prog_43_method_1_code 0 = .ok (.aload_n 0, 1) := by decide +kernel
theorem d9_1 : decode prog_43_method_1_code 1 = .ok (.invokespecial 1, 3) := by decide +kernel
theorem d9_4 : decode prog_43_method_1_code 4 = .ok (.return_, 1) := by decide +kernel
theorem ef_9 (m : MethodId) (o0 : Addr) : entryFrame m #[(.ref o0)] 1 = mkF m 0 #[.val (.ref o0)] [] := by first | (simp [entryFrame, mkF, argsToLocals, Value.category]; done) | rfl
def Q9 (Z : State) (o0 : Addr) (h0 : Heap) (n0 : Nat) (v : Option Value) (h : Heap) (L : List Loc) : Prop := v = none ∧ Fr n0 L ∧ h = h0
set_option maxRecDepth 65536 in
set_option maxHeartbeats 40000000 in
theorem rm9 (l : Launch) (Z : State) (a0 : Array Value) (hw : ∀ d ∈ tables_1, d.before a0 Z = true) (ws : List Jvm.Cond) (o0 : Addr) (h0 : Heap) (n0 : Nat) (Z0 : n0 ≤ h0.size) :
    MetFree l (⟨"com/example/prudent_checker/prudentchecker/language/Expression", "<init>", "()V"⟩ : MethodName) (head1 (Jvm.Cond.code (⟨"com/example/prudent_checker/prudentchecker/language/Expression", "<init>", "()V"⟩ : MethodName) prog_43_method_1_code 1 none :: ws) ({ frames := 1, cells := 0, slots := 0, locals := 12 } : Room)) (fun a U => a = #[(.ref o0)] ∧ Z.Warmed39 U.vm ∧ U.heap = h0) (fun _ _ _ _ _ => True) (fun _ U o U' => ∃ v L, o = .returned v ∧ Q9 Z o0 h0 n0 v U'.heap L ∧ FrameEnd U o U' L ({ frames := 1, cells := 0, slots := 0, locals := 12 } : Room).cells ({ frames := 1, cells := 0, slots := 0, locals := 12 } : Room).slots) := by
  refine MetFree.of_bodySF (plainFor_of_name pn_com_example_prudent_checker_prudentchecker_language_Expression) hisR ?_
  intro p e s m args below meth c s₁ Bd hml0 hP hK
  obtain ⟨rfl, hZ, hh⟩ := hP
  have hx := Bd.exec
  have hby := Bd.bytes
  have hlk : meth.locks = false := BodyLoose.notSynchronized Bd
  have hret := Bd.returns
  have hml : c.maxLocals = 1 := hml0
  have hown : s.vm.findClass "com/example/prudent_checker/prudentchecker/language/Expression" = some m.cls := findClass_of_methodNamed Bd.named
  have hnm := (name_of_methodNamed Bd.named Bd.method).1
  have X0 : Stand p l e ({ frames := 1, cells := 0, slots := 0, locals := 12 } : Room) s m #[(.ref o0)] below meth c s₁ [] 0 0 := Stand.of_body Bd
  have e0 : s₁.heap = h0 := by rw [← hh, Bd.state]; rfl
  have N0 := Fr.nil n0
  refine Go.start (Q := Q9 Z o0 h0 n0) (ef_9 m o0) ?_
  show Go _ _ _ _ _ _ _ s₁ (mkF m 0 #[.val (.ref o0)] [])
  refine Go.st (fun _ k => XS.aloadN X0.here hx rfl (hb hby d9_0) rfl rfl k) ?_
  show Go _ _ _ _ _ _ _ s₁ (mkF m 1 #[.val (.ref o0)] [(.ref o0)])
  obtain ⟨T1, X1, e1, st1⟩ := initO X0 hx hZ hown (hw _ (List.mem_of_getElem? (i := 65) rfl)) (hw _ (List.mem_of_getElem? (i := 12) rfl)) (hw _ (List.mem_of_getElem? (i := 13) rfl)) e0 (g := (mkF m 1 #[.val (.ref o0)] [(.ref o0)])) rfl (by rw [hml]; rfl) rfl (hb hby d9_1) (by decide) (W := 0) (by show 2 * 0 + _ ≤ _; exact Nat.le_of_eq rfl) (by decide)
  refine Go.st st1 ?_
  show Go _ _ _ _ _ _ _ T1 (mkF m 4 #[.val (.ref o0)] [])
  refine Go.ret X1 hlk (v := none) (fun _ => rfl) (fun fs hr => X1.returnOut hx hret (hb hby d9_4) hr) ?_ (by decide) (by decide)
  show Q9 Z o0 h0 n0 (none) T1.heap _
  rw [e1]
  exact ⟨rfl, N0, rfl⟩
theorem d7_0 : decode prog_69_method_1_code 0 = .ok (.aload_n 0, 1) := by decide +kernel
theorem d7_1 : decode prog_69_method_1_code 1 = .ok (.invokespecial 1, 3) := by decide +kernel
theorem d7_4 : decode prog_69_method_1_code 4 = .ok (.aload_n 0, 1) := by decide +kernel
theorem d7_5 : decode prog_69_method_1_code 5 = .ok (.aload_n 1, 1) := by decide +kernel
theorem d7_6 : decode prog_69_method_1_code 6 = .ok (.putfield 7, 3) := by decide +kernel
theorem d7_9 : decode prog_69_method_1_code 9 = .ok (.aload_n 0, 1) := by decide +kernel
theorem d7_10 : decode prog_69_method_1_code 10 = .ok (.aload_n 2, 1) := by decide +kernel
theorem d7_11 : decode prog_69_method_1_code 11 = .ok (.putfield 13, 3) := by decide +kernel
theorem d7_14 : decode prog_69_method_1_code 14 = .ok (.aload_n 0, 1) := by decide +kernel
theorem d7_15 : decode prog_69_method_1_code 15 = .ok (.iload_n 3, 1) := by decide +kernel
theorem d7_16 : decode prog_69_method_1_code 16 = .ok (.putfield 17, 3) := by decide +kernel
theorem d7_19 : decode prog_69_method_1_code 19 = .ok (.aload_n 0, 1) := by decide +kernel
theorem d7_20 : decode prog_69_method_1_code 20 = .ok (.aload 4, 2) := by decide +kernel
theorem d7_22 : decode prog_69_method_1_code 22 = .ok (.putfield 21, 3) := by decide +kernel
theorem d7_25 : decode prog_69_method_1_code 25 = .ok (.return_, 1) := by decide +kernel
theorem ef_7n (m : MethodId) (o0 : Addr) (o1 : Addr) (o2 : Addr) (p3 : Int32) : entryFrame m #[(.ref o0), (.ref o1), (.ref o2), (.int p3), .null] 5 = mkF m 0 #[.val (.ref o0), .val (.ref o1), .val (.ref o2), .val (.int p3), .val .null] [] := by first | (simp [entryFrame, mkF, argsToLocals, Value.category]; done) | rfl
def Q7n (Z : State) (o0 : Addr) (o1 : Addr) (o2 : Addr) (p3 : Int32) (u_n : Value) (u_t : Value) (u_i : Int32) (u_p : Value) (h0 : Heap) (n0 : Nat) (v : Option Value) (h : Heap) (L : List Loc) : Prop := v = none ∧ Fr n0 L ∧ Keep h0 h [o0] ∧ Exa Z h o0 "com/example/prudent_checker/prudentchecker/language/Variable"
set_option maxRecDepth 65536 in
set_option maxHeartbeats 40000000 in
theorem rm7n (l : Launch) (Z : State) (a0 : Array Value) (hw : ∀ d ∈ tables_1, d.before a0 Z = true) (ws : List Jvm.Cond) (o0 : Addr) (o1 : Addr) (o2 : Addr) (p3 : Int32) (u_n : Value) (u_t : Value) (u_i : Int32) (u_p : Value) (h0 : Heap) (n0 : Nat) (Z0 : n0 ≤ h0.size) (E_o0 : Exa Z h0 o0 "com/example/prudent_checker/prudentchecker/language/Variable") (F_name_o0 : Fld Z h0 o0 "com/example/prudent_checker/prudentchecker/language/Variable" "name" "Ljava/lang/String;" u_n) (F_type_o0 : Fld Z h0 o0 "com/example/prudent_checker/prudentchecker/language/Variable" "type" "Lcom/example/prudent_checker/prudentchecker/language/ScalarType;" u_t) (F_initialValue_o0 : Fld Z h0 o0 "com/example/prudent_checker/prudentchecker/language/Variable" "initialValue" "I" (.int u_i)) (F_process_o0 : Fld Z h0 o0 "com/example/prudent_checker/prudentchecker/language/Variable" "process" "Ljava/lang/String;" u_p) (g_o0 : n0 ≤ o0) :
    MetFree l (⟨"com/example/prudent_checker/prudentchecker/language/Variable", "<init>", "(Ljava/lang/String;Lcom/example/prudent_checker/prudentchecker/language/ScalarType;ILjava/lang/String;)V"⟩ : MethodName) (head1 (Jvm.Cond.code (⟨"com/example/prudent_checker/prudentchecker/language/Variable", "<init>", "(Ljava/lang/String;Lcom/example/prudent_checker/prudentchecker/language/ScalarType;ILjava/lang/String;)V"⟩ : MethodName) prog_69_method_1_code 5 none :: ws) ({ frames := 1, cells := 0, slots := 0, locals := 12 } : Room)) (fun a U => a = #[(.ref o0), (.ref o1), (.ref o2), (.int p3), .null] ∧ Z.Warmed39 U.vm ∧ U.heap = h0) (fun _ _ _ _ _ => True) (fun _ U o U' => ∃ v L, o = .returned v ∧ Q7n Z o0 o1 o2 p3 u_n u_t u_i u_p h0 n0 v U'.heap L ∧ FrameEnd U o U' L ({ frames := 1, cells := 0, slots := 0, locals := 12 } : Room).cells ({ frames := 1, cells := 0, slots := 0, locals := 12 } : Room).slots) := by
  refine MetFree.of_bodySF (plainFor_of_name pn_com_example_prudent_checker_prudentchecker_language_Variable) hisR ?_
  intro p e s m args below meth c s₁ Bd hml0 hP hK
  obtain ⟨rfl, hZ, hh⟩ := hP
  have hx := Bd.exec
  have hby := Bd.bytes
  have hlk : meth.locks = false := BodyLoose.notSynchronized Bd
  have hret := Bd.returns
  have hml : c.maxLocals = 5 := hml0
  have hown : s.vm.findClass "com/example/prudent_checker/prudentchecker/language/Variable" = some m.cls := findClass_of_methodNamed Bd.named
  have hnm := (name_of_methodNamed Bd.named Bd.method).1
  have X0 : Stand p l e ({ frames := 1, cells := 0, slots := 0, locals := 12 } : Room) s m #[(.ref o0), (.ref o1), (.ref o2), (.int p3), .null] below meth c s₁ [] 0 0 := Stand.of_body Bd
  have e0 : s₁.heap = h0 := by rw [← hh, Bd.state]; rfl
  have N0 := Fr.nil n0
  refine Go.start (Q := Q7n Z o0 o1 o2 p3 u_n u_t u_i u_p h0 n0) (ef_7n m o0 o1 o2 p3) ?_
  show Go _ _ _ _ _ _ _ s₁ (mkF m 0 #[.val (.ref o0), .val (.ref o1), .val (.ref o2), .val (.int p3), .val .null] [])
  refine Go.st (fun _ k => XS.aloadN X0.here hx rfl (hb hby d7_0) rfl rfl k) ?_
  show Go _ _ _ _ _ _ _ s₁ (mkF m 1 #[.val (.ref o0), .val (.ref o1), .val (.ref o2), .val (.int p3), .val .null] [(.ref o0)])
  obtain ⟨T1, X1, e1, st1⟩ := initO X0 hx hZ hown (hw _ (List.mem_of_getElem? (i := 40) rfl)) (hw _ (List.mem_of_getElem? (i := 12) rfl)) (hw _ (List.mem_of_getElem? (i := 13) rfl)) e0 (g := (mkF m 1 #[.val (.ref o0), .val (.ref o1), .val (.ref o2), .val (.int p3), .val .null] [(.ref o0)])) rfl (by rw [hml]; rfl) rfl (hb hby d7_1) (by decide) (W := 0) (by show 2 * 0 + _ ≤ _; exact Nat.le_of_eq rfl) (by decide)
  refine Go.st st1 ?_
  show Go _ _ _ _ _ _ _ T1 (mkF m 4 #[.val (.ref o0), .val (.ref o1), .val (.ref o2), .val (.int p3), .val .null] [])
  refine Go.st (fun _ k => XS.aloadN X1.here hx rfl (hb hby d7_4) rfl rfl k) ?_
  show Go _ _ _ _ _ _ _ T1 (mkF m 5 #[.val (.ref o0), .val (.ref o1), .val (.ref o2), .val (.int p3), .val .null] [(.ref o0)])
  refine Go.st (fun _ k => XS.aloadN X1.here hx rfl (hb hby d7_5) rfl rfl k) ?_
  show Go _ _ _ _ _ _ _ T1 (mkF m 6 #[.val (.ref o0), .val (.ref o1), .val (.ref o2), .val (.int p3), .val .null] [(.ref o1), (.ref o0)])
  obtain ⟨T2, h2, X2, e2, W2, st2⟩ := putF X1 hx hZ hown (host := "") (Or.inl (hw _ (List.mem_of_getElem? (i := 41) rfl))) Via.refl e1 F_name_o0 E_o0 (Or.inr ⟨(hw _ (List.mem_of_getElem? (i := 42) rfl)), rfl, hnm⟩) (hw _ (List.mem_of_getElem? (i := 35) rfl)) (ty := (.object "java/lang/String")) (by decide) rfl rfl (g := (mkF m 6 #[.val (.ref o0), .val (.ref o1), .val (.ref o2), .val (.int p3), .val .null] [(.ref o1), (.ref o0)])) rfl rfl (hb hby d7_6)
  have F_name_o0__2 : Fld Z h2 o0 "com/example/prudent_checker/prudentchecker/language/Variable" "name" "Ljava/lang/String;" (.ref o1) := F_name_o0.same W2
  have E_o0__2 := E_o0.wr W2
  have F_type_o0__2 := F_type_o0.other W2 (Or.inr (slot_ne (Or.inr (hw _ (List.mem_of_getElem? (i := 44) rfl))) (Or.inr (hw _ (List.mem_of_getElem? (i := 42) rfl))) (by decide) (t := (.object "com/example/prudent_checker/prudentchecker/language/ScalarType")) (t' := (.object "java/lang/String")) (by decide) (by decide)))
  have F_initialValue_o0__2 := F_initialValue_o0.other W2 (Or.inr (slot_ne (Or.inr (hw _ (List.mem_of_getElem? (i := 46) rfl))) (Or.inr (hw _ (List.mem_of_getElem? (i := 42) rfl))) (by decide) (t := .int) (t' := (.object "java/lang/String")) (by decide) (by decide)))
  have F_process_o0__2 := F_process_o0.other W2 (Or.inr (slot_ne (Or.inr (hw _ (List.mem_of_getElem? (i := 48) rfl))) (Or.inr (hw _ (List.mem_of_getElem? (i := 42) rfl))) (by decide) (t := (.object "java/lang/String")) (t' := (.object "java/lang/String")) (by decide) (by decide)))
  have Z2 : n0 ≤ h2.size := Nat.le_trans Z0 (Keep.of_wr W2).1
  have KK2 : Keep h0 h2 [o0] := (Keep.refl h0 [o0]).wr W2 (Or.inl (List.mem_of_getElem? (i := 0) rfl))
  have N2 := Fr.snoc X2 N0 g_o0
  refine Go.st st2 ?_
  show Go _ _ _ _ _ _ _ T2 (mkF m 9 #[.val (.ref o0), .val (.ref o1), .val (.ref o2), .val (.int p3), .val .null] [])
  refine Go.st (fun _ k => XS.aloadN X2.here hx rfl (hb hby d7_9) rfl rfl k) ?_
  show Go _ _ _ _ _ _ _ T2 (mkF m 10 #[.val (.ref o0), .val (.ref o1), .val (.ref o2), .val (.int p3), .val .null] [(.ref o0)])
  refine Go.st (fun _ k => XS.aloadN X2.here hx rfl (hb hby d7_10) rfl rfl k) ?_
  show Go _ _ _ _ _ _ _ T2 (mkF m 11 #[.val (.ref o0), .val (.ref o1), .val (.ref o2), .val (.int p3), .val .null] [(.ref o2), (.ref o0)])
  obtain ⟨T3, h3, X3, e3, W3, st3⟩ := putF X2 hx hZ hown (host := "") (Or.inl (hw _ (List.mem_of_getElem? (i := 43) rfl))) Via.refl e2 F_type_o0__2 E_o0__2 (Or.inr ⟨(hw _ (List.mem_of_getElem? (i := 44) rfl)), rfl, hnm⟩) (hw _ (List.mem_of_getElem? (i := 35) rfl)) (ty := (.object "com/example/prudent_checker/prudentchecker/language/ScalarType")) (by decide) rfl rfl (g := (mkF m 11 #[.val (.ref o0), .val (.ref o1), .val (.ref o2), .val (.int p3), .val .null] [(.ref o2), (.ref o0)])) rfl rfl (hb hby d7_11)
  have F_type_o0__3 : Fld Z h3 o0 "com/example/prudent_checker/prudentchecker/language/Variable" "type" "Lcom/example/prudent_checker/prudentchecker/language/ScalarType;" (.ref o2) := F_type_o0__2.same W3
  have E_o0__3 := E_o0__2.wr W3
  have F_initialValue_o0__3 := F_initialValue_o0__2.other W3 (Or.inr (slot_ne (Or.inr (hw _ (List.mem_of_getElem? (i := 46) rfl))) (Or.inr (hw _ (List.mem_of_getElem? (i := 44) rfl))) (by decide) (t := .int) (t' := (.object "com/example/prudent_checker/prudentchecker/language/ScalarType")) (by decide) (by decide)))
  have F_process_o0__3 := F_process_o0__2.other W3 (Or.inr (slot_ne (Or.inr (hw _ (List.mem_of_getElem? (i := 48) rfl))) (Or.inr (hw _ (List.mem_of_getElem? (i := 44) rfl))) (by decide) (t := (.object "java/lang/String")) (t' := (.object "com/example/prudent_checker/prudentchecker/language/ScalarType")) (by decide) (by decide)))
  have F_name_o0__3 := F_name_o0__2.other W3 (Or.inr (slot_ne (Or.inr (hw _ (List.mem_of_getElem? (i := 42) rfl))) (Or.inr (hw _ (List.mem_of_getElem? (i := 44) rfl))) (by decide) (t := (.object "java/lang/String")) (t' := (.object "com/example/prudent_checker/prudentchecker/language/ScalarType")) (by decide) (by decide)))
  have Z3 : n0 ≤ h3.size := Nat.le_trans Z2 (Keep.of_wr W3).1
  have KK3 : Keep h0 h3 [o0] := KK2.wr W3 (Or.inl (List.mem_of_getElem? (i := 0) rfl))
  have N3 := Fr.snoc X3 N2 g_o0
  refine Go.st st3 ?_
  show Go _ _ _ _ _ _ _ T3 (mkF m 14 #[.val (.ref o0), .val (.ref o1), .val (.ref o2), .val (.int p3), .val .null] [])
  refine Go.st (fun _ k => XS.aloadN X3.here hx rfl (hb hby d7_14) rfl rfl k) ?_
  show Go _ _ _ _ _ _ _ T3 (mkF m 15 #[.val (.ref o0), .val (.ref o1), .val (.ref o2), .val (.int p3), .val .null] [(.ref o0)])
  refine Go.st (fun _ k => XS.iloadN X3.here hx rfl (hb hby d7_15) rfl k) ?_
  show Go _ _ _ _ _ _ _ T3 (mkF m 16 #[.val (.ref o0), .val (.ref o1), .val (.ref o2), .val (.int p3), .val .null] [(.int p3), (.ref o0)])
  obtain ⟨T4, h4, X4, e4, W4, st4⟩ := putF X3 hx hZ hown (host := "") (Or.inl (hw _ (List.mem_of_getElem? (i := 45) rfl))) Via.refl e3 F_initialValue_o0__3 E_o0__3 (Or.inr ⟨(hw _ (List.mem_of_getElem? (i := 46) rfl)), rfl, hnm⟩) (hw _ (List.mem_of_getElem? (i := 35) rfl)) (ty := .int) (by decide) rfl rfl (g := (mkF m 16 #[.val (.ref o0), .val (.ref o1), .val (.ref o2), .val (.int p3), .val .null] [(.int p3), (.ref o0)])) rfl rfl (hb hby d7_16)
  have F_initialValue_o0__4 : Fld Z h4 o0 "com/example/prudent_checker/prudentchecker/language/Variable" "initialValue" "I" (.int p3) := F_initialValue_o0__3.same W4
  have E_o0__4 := E_o0__3.wr W4
  have F_process_o0__4 := F_process_o0__3.other W4 (Or.inr (slot_ne (Or.inr (hw _ (List.mem_of_getElem? (i := 48) rfl))) (Or.inr (hw _ (List.mem_of_getElem? (i := 46) rfl))) (by decide) (t := (.object "java/lang/String")) (t' := .int) (by decide) (by decide)))
  have F_name_o0__4 := F_name_o0__3.other W4 (Or.inr (slot_ne (Or.inr (hw _ (List.mem_of_getElem? (i := 42) rfl))) (Or.inr (hw _ (List.mem_of_getElem? (i := 46) rfl))) (by decide) (t := (.object "java/lang/String")) (t' := .int) (by decide) (by decide)))
  have F_type_o0__4 := F_type_o0__3.other W4 (Or.inr (slot_ne (Or.inr (hw _ (List.mem_of_getElem? (i := 44) rfl))) (Or.inr (hw _ (List.mem_of_getElem? (i := 46) rfl))) (by decide) (t := (.object "com/example/prudent_checker/prudentchecker/language/ScalarType")) (t' := .int) (by decide) (by decide)))
  have Z4 : n0 ≤ h4.size := Nat.le_trans Z3 (Keep.of_wr W4).1
  have KK4 : Keep h0 h4 [o0] := KK3.wr W4 (Or.inl (List.mem_of_getElem? (i := 0) rfl))
  have N4 := Fr.snoc X4 N3 g_o0
  refine Go.st st4 ?_
  show Go _ _ _ _ _ _ _ T4 (mkF m 19 #[.val (.ref o0), .val (.ref o1), .val (.ref o2), .val (.int p3), .val .null] [])
  refine Go.st (fun _ k => XS.aloadN X4.here hx rfl (hb hby d7_19) rfl rfl k) ?_
  show Go _ _ _ _ _ _ _ T4 (mkF m 20 #[.val (.ref o0), .val (.ref o1), .val (.ref o2), .val (.int p3), .val .null] [(.ref o0)])
  refine Go.st (fun _ k => XS.aload X4.here hx rfl (hb hby d7_20) rfl rfl k) ?_
  show Go _ _ _ _ _ _ _ T4 (mkF m 22 #[.val (.ref o0), .val (.ref o1), .val (.ref o2), .val (.int p3), .val .null] [.null, (.ref o0)])
  obtain ⟨T5, h5, X5, e5, W5, st5⟩ := putF X4 hx hZ hown (host := "") (Or.inl (hw _ (List.mem_of_getElem? (i := 47) rfl))) Via.refl e4 F_process_o0__4 E_o0__4 (Or.inr ⟨(hw _ (List.mem_of_getElem? (i := 48) rfl)), rfl, hnm⟩) (hw _ (List.mem_of_getElem? (i := 35) rfl)) (ty := (.object "java/lang/String")) (by decide) rfl rfl (g := (mkF m 22 #[.val (.ref o0), .val (.ref o1), .val (.ref o2), .val (.int p3), .val .null] [.null, (.ref o0)])) rfl rfl (hb hby d7_22)
  have F_process_o0__5 : Fld Z h5 o0 "com/example/prudent_checker/prudentchecker/language/Variable" "process" "Ljava/lang/String;" .null := F_process_o0__4.same W5
  have E_o0__5 := E_o0__4.wr W5
  have F_name_o0__5 := F_name_o0__4.other W5 (Or.inr (slot_ne (Or.inr (hw _ (List.mem_of_getElem? (i := 42) rfl))) (Or.inr (hw _ (List.mem_of_getElem? (i := 48) rfl))) (by decide) (t := (.object "java/lang/String")) (t' := (.object "java/lang/String")) (by decide) (by decide)))
  have F_type_o0__5 := F_type_o0__4.other W5 (Or.inr (slot_ne (Or.inr (hw _ (List.mem_of_getElem? (i := 44) rfl))) (Or.inr (hw _ (List.mem_of_getElem? (i := 48) rfl))) (by decide) (t := (.object "com/example/prudent_checker/prudentchecker/language/ScalarType")) (t' := (.object "java/lang/String")) (by decide) (by decide)))
  have F_initialValue_o0__5 := F_initialValue_o0__4.other W5 (Or.inr (slot_ne (Or.inr (hw _ (List.mem_of_getElem? (i := 46) rfl))) (Or.inr (hw _ (List.mem_of_getElem? (i := 48) rfl))) (by decide) (t := .int) (t' := (.object "java/lang/String")) (by decide) (by decide)))
  have Z5 : n0 ≤ h5.size := Nat.le_trans Z4 (Keep.of_wr W5).1
  have KK5 : Keep h0 h5 [o0] := KK4.wr W5 (Or.inl (List.mem_of_getElem? (i := 0) rfl))
  have N5 := Fr.snoc X5 N4 g_o0
  refine Go.st st5 ?_
  show Go _ _ _ _ _ _ _ T5 (mkF m 25 #[.val (.ref o0), .val (.ref o1), .val (.ref o2), .val (.int p3), .val .null] [])
  refine Go.ret X5 hlk (v := none) (fun _ => rfl) (fun fs hr => X5.returnOut hx hret (hb hby d7_25) hr) ?_ (by decide) (by decide)
  show Q7n Z o0 o1 o2 p3 u_n u_t u_i u_p h0 n0 (none) T5.heap _
  rw [e5]
  exact ⟨rfl, N5, KK5, E_o0__5⟩
theorem ef_7 (m : MethodId) (o0 : Addr) (o1 : Addr) (o2 : Addr) (p3 : Int32) (o4 : Addr) : entryFrame m #[(.ref o0), (.ref o1), (.ref o2), (.int p3), (.ref o4)] 5 = mkF m 0 #[.val (.ref o0), .val (.ref o1), .val (.ref o2), .val (.int p3), .val (.ref o4)] [] := by first | (simp [entryFrame, mkF, argsToLocals, Value.category]; done) | rfl
def Q7 (Z : State) (o0 : Addr) (o1 : Addr) (o2 : Addr) (p3 : Int32) (o4 : Addr) (u_n : Value) (u_t : Value) (u_i : Int32) (u_p : Value) (h0 : Heap) (n0 : Nat) (v : Option Value) (h : Heap) (L : List Loc) : Prop := v = none ∧ Fr n0 L ∧ Keep h0 h [o0] ∧ Exa Z h o0 "com/example/prudent_checker/prudentchecker/language/Variable"
set_option maxRecDepth 65536 in
set_option maxHeartbeats 40000000 in
theorem rm7 (l : Launch) (Z : State) (a0 : Array Value) (hw : ∀ d ∈ tables_1, d.before a0 Z = true) (ws : List Jvm.Cond) (o0 : Addr) (o1 : Addr) (o2 : Addr) (p3 : Int32) (o4 : Addr) (u_n : Value) (u_t : Value) (u_i : Int32) (u_p : Value) (h0 : Heap) (n0 : Nat) (Z0 : n0 ≤ h0.size) (E_o0 : Exa Z h0 o0 "com/example/prudent_checker/prudentchecker/language/Variable") (F_name_o0 : Fld Z h0 o0 "com/example/prudent_checker/prudentchecker/language/Variable" "name" "Ljava/lang/String;" u_n) (F_type_o0 : Fld Z h0 o0 "com/example/prudent_checker/prudentchecker/language/Variable" "type" "Lcom/example/prudent_checker/prudentchecker/language/ScalarType;" u_t) (F_initialValue_o0 : Fld Z h0 o0 "com/example/prudent_checker/prudentchecker/language/Variable" "initialValue" "I" (.int u_i)) (F_process_o0 : Fld Z h0 o0 "com/example/prudent_checker/prudentchecker/language/Variable" "process" "Ljava/lang/String;" u_p) (g_o0 : n0 ≤ o0) :
    MetFree l (⟨"com/example/prudent_checker/prudentchecker/language/Variable", "<init>", "(Ljava/lang/String;Lcom/example/prudent_checker/prudentchecker/language/ScalarType;ILjava/lang/String;)V"⟩ : MethodName) (head1 (Jvm.Cond.code (⟨"com/example/prudent_checker/prudentchecker/language/Variable", "<init>", "(Ljava/lang/String;Lcom/example/prudent_checker/prudentchecker/language/ScalarType;ILjava/lang/String;)V"⟩ : MethodName) prog_69_method_1_code 5 none :: ws) ({ frames := 1, cells := 0, slots := 0, locals := 12 } : Room)) (fun a U => a = #[(.ref o0), (.ref o1), (.ref o2), (.int p3), (.ref o4)] ∧ Z.Warmed39 U.vm ∧ U.heap = h0) (fun _ _ _ _ _ => True) (fun _ U o U' => ∃ v L, o = .returned v ∧ Q7 Z o0 o1 o2 p3 o4 u_n u_t u_i u_p h0 n0 v U'.heap L ∧ FrameEnd U o U' L ({ frames := 1, cells := 0, slots := 0, locals := 12 } : Room).cells ({ frames := 1, cells := 0, slots := 0, locals := 12 } : Room).slots) := by
  refine MetFree.of_bodySF (plainFor_of_name pn_com_example_prudent_checker_prudentchecker_language_Variable) hisR ?_
  intro p e s m args below meth c s₁ Bd hml0 hP hK
  obtain ⟨rfl, hZ, hh⟩ := hP
  have hx := Bd.exec
  have hby := Bd.bytes
  have hlk : meth.locks = false := BodyLoose.notSynchronized Bd
  have hret := Bd.returns
  have hml : c.maxLocals = 5 := hml0
  have hown : s.vm.findClass "com/example/prudent_checker/prudentchecker/language/Variable" = some m.cls := findClass_of_methodNamed Bd.named
  have hnm := (name_of_methodNamed Bd.named Bd.method).1
  have X0 : Stand p l e ({ frames := 1, cells := 0, slots := 0, locals := 12 } : Room) s m #[(.ref o0), (.ref o1), (.ref o2), (.int p3), (.ref o4)] below meth c s₁ [] 0 0 := Stand.of_body Bd
  have e0 : s₁.heap = h0 := by rw [← hh, Bd.state]; rfl
  have N0 := Fr.nil n0
  refine Go.start (Q := Q7 Z o0 o1 o2 p3 o4 u_n u_t u_i u_p h0 n0) (ef_7 m o0 o1 o2 p3 o4) ?_
  show Go _ _ _ _ _ _ _ s₁ (mkF m 0 #[.val (.ref o0), .val (.ref o1), .val (.ref o2), .val (.int p3), .val (.ref o4)] [])
  refine Go.st (fun _ k => XS.aloadN X0.here hx rfl (hb hby d7_0) rfl rfl k) ?_
  show Go _ _ _ _ _ _ _ s₁ (mkF m 1 #[.val (.ref o0), .val (.ref o1), .val (.ref o2), .val (.int p3), .val (.ref o4)] [(.ref o0)])
  obtain ⟨T1, X1, e1, st1⟩ := initO X0 hx hZ hown (hw _ (List.mem_of_getElem? (i := 40) rfl)) (hw _ (List.mem_of_getElem? (i := 12) rfl)) (hw _ (List.mem_of_getElem? (i := 13) rfl)) e0 (g := (mkF m 1 #[.val (.ref o0), .val (.ref o1), .val (.ref o2), .val (.int p3), .val (.ref o4)] [(.ref o0)])) rfl (by rw [hml]; rfl) rfl (hb hby d7_1) (by decide) (W := 0) (by show 2 * 0 + _ ≤ _; exact Nat.le_of_eq rfl) (by decide)
  refine Go.st st1 ?_
  show Go _ _ _ _ _ _ _ T1 (mkF m 4 #[.val (.ref o0), .val (.ref o1), .val (.ref o2), .val (.int p3), .val (.ref o4)] [])
  refine Go.st (fun _ k => XS.aloadN X1.here hx rfl (hb hby d7_4) rfl rfl k) ?_
  show Go _ _ _ _ _ _ _ T1 (mkF m 5 #[.val (.ref o0), .val (.ref o1), .val (.ref o2), .val (.int p3), .val (.ref o4)] [(.ref o0)])
  refine Go.st (fun _ k => XS.aloadN X1.here hx rfl (hb hby d7_5) rfl rfl k) ?_
  show Go _ _ _ _ _ _ _ T1 (mkF m 6 #[.val (.ref o0), .val (.ref o1), .val (.ref o2), .val (.int p3), .val (.ref o4)] [(.ref o1), (.ref o0)])
  obtain ⟨T2, h2, X2, e2, W2, st2⟩ := putF X1 hx hZ hown (host := "") (Or.inl (hw _ (List.mem_of_getElem? (i := 41) rfl))) Via.refl e1 F_name_o0 E_o0 (Or.inr ⟨(hw _ (List.mem_of_getElem? (i := 42) rfl)), rfl, hnm⟩) (hw _ (List.mem_of_getElem? (i := 35) rfl)) (ty := (.object "java/lang/String")) (by decide) rfl rfl (g := (mkF m 6 #[.val (.ref o0), .val (.ref o1), .val (.ref o2), .val (.int p3), .val (.ref o4)] [(.ref o1), (.ref o0)])) rfl rfl (hb hby d7_6)
  have F_name_o0__2 : Fld Z h2 o0 "com/example/prudent_checker/prudentchecker/language/Variable" "name" "Ljava/lang/String;" (.ref o1) := F_name_o0.same W2
  have E_o0__2 := E_o0.wr W2
  have F_type_o0__2 := F_type_o0.other W2 (Or.inr (slot_ne (Or.inr (hw _ (List.mem_of_getElem? (i := 44) rfl))) (Or.inr (hw _ (List.mem_of_getElem? (i := 42) rfl))) (by decide) (t := (.object "com/example/prudent_checker/prudentchecker/language/ScalarType")) (t' := (.object "java/lang/String")) (by decide) (by decide)))
  have F_initialValue_o0__2 := F_initialValue_o0.other W2 (Or.inr (slot_ne (Or.inr (hw _ (List.mem_of_getElem? (i := 46) rfl))) (Or.inr (hw _ (List.mem_of_getElem? (i := 42) rfl))) (by decide) (t := .int) (t' := (.object "java/lang/String")) (by decide) (by decide)))
  have F_process_o0__2 := F_process_o0.other W2 (Or.inr (slot_ne (Or.inr (hw _ (List.mem_of_getElem? (i := 48) rfl))) (Or.inr (hw _ (List.mem_of_getElem? (i := 42) rfl))) (by decide) (t := (.object "java/lang/String")) (t' := (.object "java/lang/String")) (by decide) (by decide)))
  have Z2 : n0 ≤ h2.size := Nat.le_trans Z0 (Keep.of_wr W2).1
  have KK2 : Keep h0 h2 [o0] := (Keep.refl h0 [o0]).wr W2 (Or.inl (List.mem_of_getElem? (i := 0) rfl))
  have N2 := Fr.snoc X2 N0 g_o0
  refine Go.st st2 ?_
  show Go _ _ _ _ _ _ _ T2 (mkF m 9 #[.val (.ref o0), .val (.ref o1), .val (.ref o2), .val (.int p3), .val (.ref o4)] [])
  refine Go.st (fun _ k => XS.aloadN X2.here hx rfl (hb hby d7_9) rfl rfl k) ?_
  show Go _ _ _ _ _ _ _ T2 (mkF m 10 #[.val (.ref o0), .val (.ref o1), .val (.ref o2), .val (.int p3), .val (.ref o4)] [(.ref o0)])
  refine Go.st (fun _ k => XS.aloadN X2.here hx rfl (hb hby d7_10) rfl rfl k) ?_
  show Go _ _ _ _ _ _ _ T2 (mkF m 11 #[.val (.ref o0), .val (.ref o1), .val (.ref o2), .val (.int p3), .val (.ref o4)] [(.ref o2), (.ref o0)])
  obtain ⟨T3, h3, X3, e3, W3, st3⟩ := putF X2 hx hZ hown (host := "") (Or.inl (hw _ (List.mem_of_getElem? (i := 43) rfl))) Via.refl e2 F_type_o0__2 E_o0__2 (Or.inr ⟨(hw _ (List.mem_of_getElem? (i := 44) rfl)), rfl, hnm⟩) (hw _ (List.mem_of_getElem? (i := 35) rfl)) (ty := (.object "com/example/prudent_checker/prudentchecker/language/ScalarType")) (by decide) rfl rfl (g := (mkF m 11 #[.val (.ref o0), .val (.ref o1), .val (.ref o2), .val (.int p3), .val (.ref o4)] [(.ref o2), (.ref o0)])) rfl rfl (hb hby d7_11)
  have F_type_o0__3 : Fld Z h3 o0 "com/example/prudent_checker/prudentchecker/language/Variable" "type" "Lcom/example/prudent_checker/prudentchecker/language/ScalarType;" (.ref o2) := F_type_o0__2.same W3
  have E_o0__3 := E_o0__2.wr W3
  have F_initialValue_o0__3 := F_initialValue_o0__2.other W3 (Or.inr (slot_ne (Or.inr (hw _ (List.mem_of_getElem? (i := 46) rfl))) (Or.inr (hw _ (List.mem_of_getElem? (i := 44) rfl))) (by decide) (t := .int) (t' := (.object "com/example/prudent_checker/prudentchecker/language/ScalarType")) (by decide) (by decide)))
  have F_process_o0__3 := F_process_o0__2.other W3 (Or.inr (slot_ne (Or.inr (hw _ (List.mem_of_getElem? (i := 48) rfl))) (Or.inr (hw _ (List.mem_of_getElem? (i := 44) rfl))) (by decide) (t := (.object "java/lang/String")) (t' := (.object "com/example/prudent_checker/prudentchecker/language/ScalarType")) (by decide) (by decide)))
  have F_name_o0__3 := F_name_o0__2.other W3 (Or.inr (slot_ne (Or.inr (hw _ (List.mem_of_getElem? (i := 42) rfl))) (Or.inr (hw _ (List.mem_of_getElem? (i := 44) rfl))) (by decide) (t := (.object "java/lang/String")) (t' := (.object "com/example/prudent_checker/prudentchecker/language/ScalarType")) (by decide) (by decide)))
  have Z3 : n0 ≤ h3.size := Nat.le_trans Z2 (Keep.of_wr W3).1
  have KK3 : Keep h0 h3 [o0] := KK2.wr W3 (Or.inl (List.mem_of_getElem? (i := 0) rfl))
  have N3 := Fr.snoc X3 N2 g_o0
  refine Go.st st3 ?_
  show Go _ _ _ _ _ _ _ T3 (mkF m 14 #[.val (.ref o0), .val (.ref o1), .val (.ref o2), .val (.int p3), .val (.ref o4)] [])
  refine Go.st (fun _ k => XS.aloadN X3.here hx rfl (hb hby d7_14) rfl rfl k) ?_
  show Go _ _ _ _ _ _ _ T3 (mkF m 15 #[.val (.ref o0), .val (.ref o1), .val (.ref o2), .val (.int p3), .val (.ref o4)] [(.ref o0)])
  refine Go.st (fun _ k => XS.iloadN X3.here hx rfl (hb hby d7_15) rfl k) ?_
  show Go _ _ _ _ _ _ _ T3 (mkF m 16 #[.val (.ref o0), .val (.ref o1), .val (.ref o2), .val (.int p3), .val (.ref o4)] [(.int p3), (.ref o0)])
  obtain ⟨T4, h4, X4, e4, W4, st4⟩ := putF X3 hx hZ hown (host := "") (Or.inl (hw _ (List.mem_of_getElem? (i := 45) rfl))) Via.refl e3 F_initialValue_o0__3 E_o0__3 (Or.inr ⟨(hw _ (List.mem_of_getElem? (i := 46) rfl)), rfl, hnm⟩) (hw _ (List.mem_of_getElem? (i := 35) rfl)) (ty := .int) (by decide) rfl rfl (g := (mkF m 16 #[.val (.ref o0), .val (.ref o1), .val (.ref o2), .val (.int p3), .val (.ref o4)] [(.int p3), (.ref o0)])) rfl rfl (hb hby d7_16)
  have F_initialValue_o0__4 : Fld Z h4 o0 "com/example/prudent_checker/prudentchecker/language/Variable" "initialValue" "I" (.int p3) := F_initialValue_o0__3.same W4
  have E_o0__4 := E_o0__3.wr W4
  have F_process_o0__4 := F_process_o0__3.other W4 (Or.inr (slot_ne (Or.inr (hw _ (List.mem_of_getElem? (i := 48) rfl))) (Or.inr (hw _ (List.mem_of_getElem? (i := 46) rfl))) (by decide) (t := (.object "java/lang/String")) (t' := .int) (by decide) (by decide)))
  have F_name_o0__4 := F_name_o0__3.other W4 (Or.inr (slot_ne (Or.inr (hw _ (List.mem_of_getElem? (i := 42) rfl))) (Or.inr (hw _ (List.mem_of_getElem? (i := 46) rfl))) (by decide) (t := (.object "java/lang/String")) (t' := .int) (by decide) (by decide)))
  have F_type_o0__4 := F_type_o0__3.other W4 (Or.inr (slot_ne (Or.inr (hw _ (List.mem_of_getElem? (i := 44) rfl))) (Or.inr (hw _ (List.mem_of_getElem? (i := 46) rfl))) (by decide) (t := (.object "com/example/prudent_checker/prudentchecker/language/ScalarType")) (t' := .int) (by decide) (by decide)))
  have Z4 : n0 ≤ h4.size := Nat.le_trans Z3 (Keep.of_wr W4).1
  have KK4 : Keep h0 h4 [o0] := KK3.wr W4 (Or.inl (List.mem_of_getElem? (i := 0) rfl))
  have N4 := Fr.snoc X4 N3 g_o0
  refine Go.st st4 ?_
  show Go _ _ _ _ _ _ _ T4 (mkF m 19 #[.val (.ref o0), .val (.ref o1), .val (.ref o2), .val (.int p3), .val (.ref o4)] [])
  refine Go.st (fun _ k => XS.aloadN X4.here hx rfl (hb hby d7_19) rfl rfl k) ?_
  show Go _ _ _ _ _ _ _ T4 (mkF m 20 #[.val (.ref o0), .val (.ref o1), .val (.ref o2), .val (.int p3), .val (.ref o4)] [(.ref o0)])
  refine Go.st (fun _ k => XS.aload X4.here hx rfl (hb hby d7_20) rfl rfl k) ?_
  show Go _ _ _ _ _ _ _ T4 (mkF m 22 #[.val (.ref o0), .val (.ref o1), .val (.ref o2), .val (.int p3), .val (.ref o4)] [(.ref o4), (.ref o0)])
  obtain ⟨T5, h5, X5, e5, W5, st5⟩ := putF X4 hx hZ hown (host := "") (Or.inl (hw _ (List.mem_of_getElem? (i := 47) rfl))) Via.refl e4 F_process_o0__4 E_o0__4 (Or.inr ⟨(hw _ (List.mem_of_getElem? (i := 48) rfl)), rfl, hnm⟩) (hw _ (List.mem_of_getElem? (i := 35) rfl)) (ty := (.object "java/lang/String")) (by decide) rfl rfl (g := (mkF m 22 #[.val (.ref o0), .val (.ref o1), .val (.ref o2), .val (.int p3), .val (.ref o4)] [(.ref o4), (.ref o0)])) rfl rfl (hb hby d7_22)
  have F_process_o0__5 : Fld Z h5 o0 "com/example/prudent_checker/prudentchecker/language/Variable" "process" "Ljava/lang/String;" (.ref o4) := F_process_o0__4.same W5
  have E_o0__5 := E_o0__4.wr W5
  have F_name_o0__5 := F_name_o0__4.other W5 (Or.inr (slot_ne (Or.inr (hw _ (List.mem_of_getElem? (i := 42) rfl))) (Or.inr (hw _ (List.mem_of_getElem? (i := 48) rfl))) (by decide) (t := (.object "java/lang/String")) (t' := (.object "java/lang/String")) (by decide) (by decide)))
  have F_type_o0__5 := F_type_o0__4.other W5 (Or.inr (slot_ne (Or.inr (hw _ (List.mem_of_getElem? (i := 44) rfl))) (Or.inr (hw _ (List.mem_of_getElem? (i := 48) rfl))) (by decide) (t := (.object "com/example/prudent_checker/prudentchecker/language/ScalarType")) (t' := (.object "java/lang/String")) (by decide) (by decide)))
  have F_initialValue_o0__5 := F_initialValue_o0__4.other W5 (Or.inr (slot_ne (Or.inr (hw _ (List.mem_of_getElem? (i := 46) rfl))) (Or.inr (hw _ (List.mem_of_getElem? (i := 48) rfl))) (by decide) (t := .int) (t' := (.object "java/lang/String")) (by decide) (by decide)))
  have Z5 : n0 ≤ h5.size := Nat.le_trans Z4 (Keep.of_wr W5).1
  have KK5 : Keep h0 h5 [o0] := KK4.wr W5 (Or.inl (List.mem_of_getElem? (i := 0) rfl))
  have N5 := Fr.snoc X5 N4 g_o0
  refine Go.st st5 ?_
  show Go _ _ _ _ _ _ _ T5 (mkF m 25 #[.val (.ref o0), .val (.ref o1), .val (.ref o2), .val (.int p3), .val (.ref o4)] [])
  refine Go.ret X5 hlk (v := none) (fun _ => rfl) (fun fs hr => X5.returnOut hx hret (hb hby d7_25) hr) ?_ (by decide) (by decide)
  show Q7 Z o0 o1 o2 p3 o4 u_n u_t u_i u_p h0 n0 (none) T5.heap _
  rw [e5]
  exact ⟨rfl, N5, KK5, E_o0__5⟩
theorem d8_0 : decode prog_70_method_1_code 0 = .ok (.aload_n 0, 1) := by decide +kernel
theorem d8_1 : decode prog_70_method_1_code 1 = .ok (.invokespecial 1, 3) := by decide +kernel
theorem d8_4 : decode prog_70_method_1_code 4 = .ok (.aload_n 0, 1) := by decide +kernel
theorem d8_5 : decode prog_70_method_1_code 5 = .ok (.aload_n 1, 1) := by decide +kernel
theorem d8_6 : decode prog_70_method_1_code 6 = .ok (.putfield 7, 3) := by decide +kernel
theorem d8_9 : decode prog_70_method_1_code 9 = .ok (.return_, 1) := by decide +kernel
def val_8_variable (o0 : Addr) (o1 : Addr) (u_v : Value) : Value := (.ref o1)
theorem ef_8 (m : MethodId) (o0 : Addr) (o1 : Addr) : entryFrame m #[(.ref o0), (.ref o1)] 2 = mkF m 0 #[.val (.ref o0), .val (.ref o1)] [] := by first | (simp [entryFrame, mkF, argsToLocals, Value.category]; done) | rfl
def Q8 (Z : State) (o0 : Addr) (o1 : Addr) (u_v : Value) (h0 : Heap) (n0 : Nat) (v : Option Value) (h : Heap) (L : List Loc) : Prop := v = none ∧ Fr n0 L ∧ Keep h0 h [o0] ∧ Exa Z h o0 "com/example/prudent_checker/prudentchecker/language/VariableReference" ∧ Fld Z h o0 "com/example/prudent_checker/prudentchecker/language/VariableReference" "variable" "Lcom/example/prudent_checker/prudentchecker/language/Variable;" (val_8_variable o0 o1 u_v)
set_option maxRecDepth 65536 in
set_option maxHeartbeats 40000000 in
theorem rm8 (l : Launch) (Z : State) (a0 : Array Value) (hw : ∀ d ∈ tables_1, d.before a0 Z = true) (ws : List Jvm.Cond) (o0 : Addr) (o1 : Addr) (u_v : Value) (h0 : Heap) (n0 : Nat) (Z0 : n0 ≤ h0.size) (E_o0 : Exa Z h0 o0 "com/example/prudent_checker/prudentchecker/language/VariableReference") (F_variable_o0 : Fld Z h0 o0 "com/example/prudent_checker/prudentchecker/language/VariableReference" "variable" "Lcom/example/prudent_checker/prudentchecker/language/Variable;" u_v) (g_o0 : n0 ≤ o0) :
    MetFree l (⟨"com/example/prudent_checker/prudentchecker/language/VariableReference", "<init>", "(Lcom/example/prudent_checker/prudentchecker/language/Variable;)V"⟩ : MethodName) (head1 (Jvm.Cond.code (⟨"com/example/prudent_checker/prudentchecker/language/VariableReference", "<init>", "(Lcom/example/prudent_checker/prudentchecker/language/Variable;)V"⟩ : MethodName) prog_70_method_1_code 2 none :: ws) ({ frames := 2, cells := 0, slots := 0, locals := 24 } : Room)) (fun a U => a = #[(.ref o0), (.ref o1)] ∧ Z.Warmed39 U.vm ∧ U.heap = h0) (fun _ _ _ _ _ => True) (fun _ U o U' => ∃ v L, o = .returned v ∧ Q8 Z o0 o1 u_v h0 n0 v U'.heap L ∧ FrameEnd U o U' L ({ frames := 2, cells := 0, slots := 0, locals := 24 } : Room).cells ({ frames := 2, cells := 0, slots := 0, locals := 24 } : Room).slots) := by
  refine MetFree.of_bodySF (plainFor_of_name pn_com_example_prudent_checker_prudentchecker_language_VariableReference) hisR ?_
  intro p e s m args below meth c s₁ Bd hml0 hP hK
  obtain ⟨rfl, hZ, hh⟩ := hP
  have hx := Bd.exec
  have hby := Bd.bytes
  have hlk : meth.locks = false := BodyLoose.notSynchronized Bd
  have hret := Bd.returns
  have hml : c.maxLocals = 2 := hml0
  have hown : s.vm.findClass "com/example/prudent_checker/prudentchecker/language/VariableReference" = some m.cls := findClass_of_methodNamed Bd.named
  have hnm := (name_of_methodNamed Bd.named Bd.method).1
  have X0 : Stand p l e ({ frames := 2, cells := 0, slots := 0, locals := 24 } : Room) s m #[(.ref o0), (.ref o1)] below meth c s₁ [] 0 0 := Stand.of_body Bd
  have e0 : s₁.heap = h0 := by rw [← hh, Bd.state]; rfl
  have N0 := Fr.nil n0
  refine Go.start (Q := Q8 Z o0 o1 u_v h0 n0) (ef_8 m o0 o1) ?_
  show Go _ _ _ _ _ _ _ s₁ (mkF m 0 #[.val (.ref o0), .val (.ref o1)] [])
  refine Go.st (fun _ k => XS.aloadN X0.here hx rfl (hb hby d8_0) rfl rfl k) ?_
  show Go _ _ _ _ _ _ _ s₁ (mkF m 1 #[.val (.ref o0), .val (.ref o1)] [(.ref o0)])
  obtain ⟨_, _, ⟨T1, L1, k1, n1⟩, -, X1, ⟨Lc1, hQ1, l1, y1, z1⟩, st1⟩ := X0.specialBack hx (y := (⟨"com/example/prudent_checker/prudentchecker/language/Expression", "<init>", "()V"⟩ : MethodName)) rfl hown (mvT hZ (hw _ (List.mem_of_getElem? (i := 60) rfl))) (mvT hZ (hw _ (List.mem_of_getElem? (i := 61) rfl))) (mvT hZ (hw _ (List.mem_of_getElem? (i := 64) rfl))) (by decide) (backOf (W := 0) (rm9 l Z a0 hw [] o0  h0 n0 Z0 ) hZ (hw _ (List.mem_of_getElem? (i := 64) rfl)) (hw _ (List.mem_of_getElem? (i := 63) rfl)) (by decide) (by decide)) (g := (mkF m 1 #[.val (.ref o0), .val (.ref o1)] [(.ref o0)])) rfl (by rw [hml]; rfl) (Steps.refl _) (a := o0) (argsL := []) (rest := []) (lenOf pd_0 rfl) rfl (by show 2 * 0 + _ ≤ _; exact Nat.le_of_eq rfl) (hb hby d8_1) (fun _ _ => ⟨rfl, e0, (by decide : 0 + 0 ≤ _), (by decide : 0 + 0 ≤ _)⟩)
  dsimp only [Pt.U, Pt.locs, Pt.cells, Pt.slots] at X1 l1 y1 z1 st1 hQ1
  subst l1 y1 z1
  obtain ⟨rfl, N1q, e1⟩ := hQ1
  have N1 := Fr.app N0 N1q
  refine Go.st (fun _ k => st1.trans k) ?_
  show Go _ _ _ _ _ _ _ T1 (mkF m 4 #[.val (.ref o0), .val (.ref o1)] [])
  refine Go.st (fun _ k => XS.aloadN X1.here hx rfl (hb hby d8_4) rfl rfl k) ?_
  show Go _ _ _ _ _ _ _ T1 (mkF m 5 #[.val (.ref o0), .val (.ref o1)] [(.ref o0)])
  refine Go.st (fun _ k => XS.aloadN X1.here hx rfl (hb hby d8_5) rfl rfl k) ?_
  show Go _ _ _ _ _ _ _ T1 (mkF m 6 #[.val (.ref o0), .val (.ref o1)] [(.ref o1), (.ref o0)])
  obtain ⟨T2, h2, X2, e2, W2, st2⟩ := putF X1 hx hZ hown (host := "") (Or.inl (hw _ (List.mem_of_getElem? (i := 66) rfl))) Via.refl e1 F_variable_o0 E_o0 (Or.inr ⟨(hw _ (List.mem_of_getElem? (i := 67) rfl)), rfl, hnm⟩) (hw _ (List.mem_of_getElem? (i := 55) rfl)) (ty := (.object "com/example/prudent_checker/prudentchecker/language/Variable")) (by decide) rfl rfl (g := (mkF m 6 #[.val (.ref o0), .val (.ref o1)] [(.ref o1), (.ref o0)])) rfl rfl (hb hby d8_6)
  have F_variable_o0__2 : Fld Z h2 o0 "com/example/prudent_checker/prudentchecker/language/VariableReference" "variable" "Lcom/example/prudent_checker/prudentchecker/language/Variable;" (.ref o1) := F_variable_o0.same W2
  have E_o0__2 := E_o0.wr W2
  have Z2 : n0 ≤ h2.size := Nat.le_trans Z0 (Keep.of_wr W2).1
  have KK2 : Keep h0 h2 [o0] := (Keep.refl h0 [o0]).wr W2 (Or.inl (List.mem_of_getElem? (i := 0) rfl))
  have N2 := Fr.snoc X2 N1 g_o0
  refine Go.st st2 ?_
  show Go _ _ _ _ _ _ _ T2 (mkF m 9 #[.val (.ref o0), .val (.ref o1)] [])
  refine Go.ret X2 hlk (v := none) (fun _ => rfl) (fun fs hr => X2.returnOut hx hret (hb hby d8_9) hr) ?_ (by decide) (by decide)
  show Q8 Z o0 o1 u_v h0 n0 (none) T2.heap _
  rw [e2]
  have R_variable : (val_8_variable o0 o1 u_v) = (.ref o1) := by unfold val_8_variable; rfl
  exact ⟨rfl, N2, KK2, E_o0__2, (by rw [R_variable]; exact F_variable_o0__2)⟩
theorem d10_0 : decode prog_70_method_8_code 0 = .ok (.aload_n 1, 1) := by decide +kernel
theorem d10_1 : decode prog_70_method_8_code 1 = .ok (.instanceof 8, 3) := by decide +kernel
theorem d10_4 : decode prog_70_method_8_code 4 = .ok (.ifCond .eq 23, 3) := by decide +kernel
theorem d10_7 : decode prog_70_method_8_code 7 = .ok (.aload_n 1, 1) := by decide +kernel
theorem d10_8 : decode prog_70_method_8_code 8 = .ok (.checkcast 8, 3) := by decide +kernel
theorem d10_11 : decode prog_70_method_8_code 11 = .ok (.astore_n 2, 1) := by decide +kernel
theorem d10_12 : decode prog_70_method_8_code 12 = .ok (.aload_n 0, 1) := by decide +kernel
theorem d10_13 : decode prog_70_method_8_code 13 = .ok (.getfield 7, 3) := by decide +kernel
theorem d10_16 : decode prog_70_method_8_code 16 = .ok (.aload_n 2, 1) := by decide +kernel
theorem d10_17 : decode prog_70_method_8_code 17 = .ok (.getfield 7, 3) := by decide +kernel
theorem d10_20 : decode prog_70_method_8_code 20 = .ok (.if_acmp .ne 7, 3) := by decide +kernel
theorem d10_23 : decode prog_70_method_8_code 23 = .ok (.iconst 1, 1) := by decide +kernel
theorem d10_24 : decode prog_70_method_8_code 24 = .ok (.goto 4, 3) := by decide +kernel
theorem d10_27 : decode prog_70_method_8_code 27 = .ok (.iconst 0, 1) := by decide +kernel
theorem d10_28 : decode prog_70_method_8_code 28 = .ok (.ireturn, 1) := by decide +kernel
def val_10r (o0 : Addr) (o1 : Addr) (x0 : Addr) (x1 : Addr) : Int32 := (if x0 = x1 then (1 : Int32) else (0 : Int32))
theorem ef_10r (m : MethodId) (o0 : Addr) (o1 : Addr) : entryFrame m #[(.ref o0), (.ref o1)] 3 = mkF m 0 #[.val (.ref o0), .val (.ref o1), .unset] [] := by first | (simp [entryFrame, mkF, argsToLocals, Value.category]; done) | rfl
def Q10r (Z : State) (o0 : Addr) (o1 : Addr) (x0 : Addr) (x1 : Addr) (h0 : Heap) (n0 : Nat) (v : Option Value) (h : Heap) (L : List Loc) : Prop := v = some (.int (val_10r o0 o1 x0 x1)) ∧ Fr n0 L ∧ h = h0
set_option maxRecDepth 65536 in
set_option maxHeartbeats 40000000 in
theorem rm10r (l : Launch) (Z : State) (a0 : Array Value) (hw : ∀ d ∈ tables_1, d.before a0 Z = true) (ws : List Jvm.Cond) (o0 : Addr) (o1 : Addr) (x0 : Addr) (x1 : Addr) (h0 : Heap) (n0 : Nat) (Z0 : n0 ≤ h0.size) (E_o1 : Exa Z h0 o1 "com/example/prudent_checker/prudentchecker/language/VariableReference") (F_variable_o0 : Fld Z h0 o0 "com/example/prudent_checker/prudentchecker/language/VariableReference" "variable" "Lcom/example/prudent_checker/prudentchecker/language/Variable;" (.ref x0)) (F_variable_o1 : Fld Z h0 o1 "com/example/prudent_checker/prudentchecker/language/VariableReference" "variable" "Lcom/example/prudent_checker/prudentchecker/language/Variable;" (.ref x1)) :
    MetFree l (⟨"com/example/prudent_checker/prudentchecker/language/VariableReference", "equals", "(Ljava/lang/Object;)Z"⟩ : MethodName) (head1 (Jvm.Cond.code (⟨"com/example/prudent_checker/prudentchecker/language/VariableReference", "equals", "(Ljava/lang/Object;)Z"⟩ : MethodName) prog_70_method_8_code 3 (some .boolean) :: ws) ({ frames := 0, cells := 0, slots := 0, locals := 0 } : Room)) (fun a U => a = #[(.ref o0), (.ref o1)] ∧ Z.Warmed39 U.vm ∧ U.heap = h0) (fun _ _ _ _ _ => True) (fun _ U o U' => ∃ v L, o = .returned v ∧ Q10r Z o0 o1 x0 x1 h0 n0 v U'.heap L ∧ FrameEnd U o U' L ({ frames := 0, cells := 0, slots := 0, locals := 0 } : Room).cells ({ frames := 0, cells := 0, slots := 0, locals := 0 } : Room).slots) := by
  refine MetFree.of_bodySF (plainFor_of_name pn_com_example_prudent_checker_prudentchecker_language_VariableReference) hisR ?_
  intro p e s m args below meth c s₁ Bd hml0 hP hK
  obtain ⟨rfl, hZ, hh⟩ := hP
  have hx := Bd.exec
  have hby := Bd.bytes
  have hlk : meth.locks = false := BodyLoose.notSynchronized Bd
  have hret := Bd.returns
  have hml : c.maxLocals = 3 := hml0
  have hown : s.vm.findClass "com/example/prudent_checker/prudentchecker/language/VariableReference" = some m.cls := findClass_of_methodNamed Bd.named
  have hnm := (name_of_methodNamed Bd.named Bd.method).1
  have X0 : Stand p l e ({ frames := 0, cells := 0, slots := 0, locals := 0 } : Room) s m #[(.ref o0), (.ref o1)] below meth c s₁ [] 0 0 := Stand.of_body Bd
  have e0 : s₁.heap = h0 := by rw [← hh, Bd.state]; rfl
  have N0 := Fr.nil n0
  refine Go.start (Q := Q10r Z o0 o1 x0 x1 h0 n0) (ef_10r m o0 o1) ?_
  show Go _ _ _ _ _ _ _ s₁ (mkF m 0 #[.val (.ref o0), .val (.ref o1), .unset] [])
  refine Go.st (fun _ k => XS.aloadN X0.here hx rfl (hb hby d10_0) rfl rfl k) ?_
  show Go _ _ _ _ _ _ _ s₁ (mkF m 1 #[.val (.ref o0), .val (.ref o1), .unset] [(.ref o1)])
  obtain ⟨T1, X1, e1, st1⟩ := instY X0 hx hZ hown (hw _ (List.mem_of_getElem? (i := 73) rfl)) e0 (Ins.self E_o1) (g := (mkF m 1 #[.val (.ref o0), .val (.ref o1), .unset] [(.ref o1)])) rfl rfl (hb hby d10_1)
  refine Go.st st1 ?_
  show Go _ _ _ _ _ _ _ T1 (mkF m 4 #[.val (.ref o0), .val (.ref o1), .unset] [(.int (1 : Int32))])
  refine Go.st (fun _ k => XS.ifNo X1.here hx rfl (hb hby d10_4) rfl ((if0 _ _).trans (feq (by decide : ¬ ((1 : Int32) = (0 : Int32)))).1) k) ?_
  show Go _ _ _ _ _ _ _ T1 (mkF m 7 #[.val (.ref o0), .val (.ref o1), .unset] [])
  refine Go.st (fun _ k => XS.aloadN X1.here hx rfl (hb hby d10_7) rfl rfl k) ?_
  show Go _ _ _ _ _ _ _ T1 (mkF m 8 #[.val (.ref o0), .val (.ref o1), .unset] [(.ref o1)])
  obtain ⟨T2, X2, e2, st2⟩ := castY X1 hx hZ hown (hw _ (List.mem_of_getElem? (i := 73) rfl)) e1 (Ins.self E_o1) (g := (mkF m 8 #[.val (.ref o0), .val (.ref o1), .unset] [(.ref o1)])) rfl rfl (hb hby d10_8)
  refine Go.st st2 ?_
  show Go _ _ _ _ _ _ _ T2 (mkF m 11 #[.val (.ref o0), .val (.ref o1), .unset] [(.ref o1)])
  refine Go.st (fun _ k => XS.astoreN X2.here hx rfl (hb hby d10_11) rfl rfl (l' := #[.val (.ref o0), .val (.ref o1), .val (.ref o1)]) rfl k) ?_
  show Go _ _ _ _ _ _ _ T2 (mkF m 12 #[.val (.ref o0), .val (.ref o1), .val (.ref o1)] [])
  refine Go.st (fun _ k => XS.aloadN X2.here hx rfl (hb hby d10_12) rfl rfl k) ?_
  show Go _ _ _ _ _ _ _ T2 (mkF m 13 #[.val (.ref o0), .val (.ref o1), .val (.ref o1)] [(.ref o0)])
  obtain ⟨T3, X3, e3, st3⟩ := getF X2 hx hZ hown (host := "") (Or.inl (hw _ (List.mem_of_getElem? (i := 66) rfl))) Via.refl e2 F_variable_o0 (g := (mkF m 13 #[.val (.ref o0), .val (.ref o1), .val (.ref o1)] [(.ref o0)])) rfl rfl (hb hby d10_13)
  refine Go.st st3 ?_
  show Go _ _ _ _ _ _ _ T3 (mkF m 16 #[.val (.ref o0), .val (.ref o1), .val (.ref o1)] [(.ref x0)])
  refine Go.st (fun _ k => XS.aloadN X3.here hx rfl (hb hby d10_16) rfl rfl k) ?_
  show Go _ _ _ _ _ _ _ T3 (mkF m 17 #[.val (.ref o0), .val (.ref o1), .val (.ref o1)] [(.ref o1), (.ref x0)])
  obtain ⟨T4, X4, e4, st4⟩ := getF X3 hx hZ hown (host := "") (Or.inl (hw _ (List.mem_of_getElem? (i := 66) rfl))) Via.refl e3 F_variable_o1 (g := (mkF m 17 #[.val (.ref o0), .val (.ref o1), .val (.ref o1)] [(.ref o1), (.ref x0)])) rfl rfl (hb hby d10_17)
  refine Go.st st4 ?_
  show Go _ _ _ _ _ _ _ T4 (mkF m 20 #[.val (.ref o0), .val (.ref o1), .val (.ref o1)] [(.ref x1), (.ref x0)])
  by_cases ha5 : x0 = x1
  · refine Go.st (fun _ k => Jvm.RoadKit.acmp (g := (mkF m 20 #[.val (.ref o0), .val (.ref o1), .val (.ref o1)] [(.ref x1), (.ref x0)])) X4 hx rfl rfl rfl (pc0 := 20) (pc' := 23) (same := true) rfl (hb hby d10_20) rfl (decide_eq_true (congrArg Value.ref ha5)) (by decide) (by decide) k) ?_
    show Go _ _ _ _ _ _ _ T4 (mkF m 23 #[.val (.ref o0), .val (.ref o1), .val (.ref o1)] [])
    refine Go.st (fun _ k => XS.iconst X4.here hx rfl (hb hby d10_23) k) ?_
    show Go _ _ _ _ _ _ _ T4 (mkF m 24 #[.val (.ref o0), .val (.ref o1), .val (.ref o1)] [(.int (1 : Int32))])
    refine Go.st (fun _ k => XS.goto X4.here hx rfl (pc0 := 24) (pc' := 28) rfl (hb hby d10_24) (by decide) (by decide) k) ?_
    show Go _ _ _ _ _ _ _ T4 (mkF m 28 #[.val (.ref o0), .val (.ref o1), .val (.ref o1)] [(.int (1 : Int32))])
    refine Go.ret X4 hlk (v := some (.int (1 : Int32))) (fun h => by rw [hret] at h; cases h) (fun fs hr => retN X4 hx (t := .boolean) hret (by simp) (hb hby d10_28) hr) ?_ (by decide) (by decide)
    show Q10r Z o0 o1 x0 x1 h0 n0 (some (.int (1 : Int32))) T4.heap _
    rw [e4]
    refine ⟨?_, N0, rfl⟩
    unfold val_10r
    rw [if_pos ha5]
  · refine Go.st (fun _ k => Jvm.RoadKit.acmp (g := (mkF m 20 #[.val (.ref o0), .val (.ref o1), .val (.ref o1)] [(.ref x1), (.ref x0)])) X4 hx rfl rfl rfl (pc0 := 20) (pc' := 27) (same := false) rfl (hb hby d10_20) rfl (decide_eq_false fun q => ha5 (Value.ref.inj q)) (by decide) (by decide) k) ?_
    show Go _ _ _ _ _ _ _ T4 (mkF m 27 #[.val (.ref o0), .val (.ref o1), .val (.ref o1)] [])
    refine Go.st (fun _ k => XS.iconst X4.here hx rfl (hb hby d10_27) k) ?_
    show Go _ _ _ _ _ _ _ T4 (mkF m 28 #[.val (.ref o0), .val (.ref o1), .val (.ref o1)] [(.int (0 : Int32))])
    refine Go.ret X4 hlk (v := some (.int (0 : Int32))) (fun h => by rw [hret] at h; cases h) (fun fs hr => retN X4 hx (t := .boolean) hret (by simp) (hb hby d10_28) hr) ?_ (by decide) (by decide)
    show Q10r Z o0 o1 x0 x1 h0 n0 (some (.int (0 : Int32))) T4.heap _
    rw [e4]
    refine ⟨?_, N0, rfl⟩
    unfold val_10r
    rw [if_neg ha5]
def val_10n (o0 : Addr) : Int32 := (0 : Int32)
theorem ef_10n (m : MethodId) (o0 : Addr) : entryFrame m #[(.ref o0), .null] 3 = mkF m 0 #[.val (.ref o0), .val .null, .unset] [] := by first | (simp [entryFrame, mkF, argsToLocals, Value.category]; done) | rfl
def Q10n (Z : State) (o0 : Addr) (h0 : Heap) (n0 : Nat) (v : Option Value) (h : Heap) (L : List Loc) : Prop := v = some (.int (val_10n o0)) ∧ Fr n0 L ∧ h = h0
set_option maxRecDepth 65536 in
set_option maxHeartbeats 40000000 in
theorem rm10n (l : Launch) (Z : State) (a0 : Array Value) (hw : ∀ d ∈ tables_1, d.before a0 Z = true) (ws : List Jvm.Cond) (o0 : Addr) (h0 : Heap) (n0 : Nat) (Z0 : n0 ≤ h0.size) :
    MetFree l (⟨"com/example/prudent_checker/prudentchecker/language/VariableReference", "equals", "(Ljava/lang/Object;)Z"⟩ : MethodName) (head1 (Jvm.Cond.code (⟨"com/example/prudent_checker/prudentchecker/language/VariableReference", "equals", "(Ljava/lang/Object;)Z"⟩ : MethodName) prog_70_method_8_code 3 (some .boolean) :: ws) ({ frames := 0, cells := 0, slots := 0, locals := 0 } : Room)) (fun a U => a = #[(.ref o0), .null] ∧ Z.Warmed39 U.vm ∧ U.heap = h0) (fun _ _ _ _ _ => True) (fun _ U o U' => ∃ v L, o = .returned v ∧ Q10n Z o0 h0 n0 v U'.heap L ∧ FrameEnd U o U' L ({ frames := 0, cells := 0, slots := 0, locals := 0 } : Room).cells ({ frames := 0, cells := 0, slots := 0, locals := 0 } : Room).slots) := by
  refine MetFree.of_bodySF (plainFor_of_name pn_com_example_prudent_checker_prudentchecker_language_VariableReference) hisR ?_
  intro p e s m args below meth c s₁ Bd hml0 hP hK
  obtain ⟨rfl, hZ, hh⟩ := hP
  have hx := Bd.exec
  have hby := Bd.bytes
  have hlk : meth.locks = false := BodyLoose.notSynchronized Bd
  have hret := Bd.returns
  have hml : c.maxLocals = 3 := hml0
  have hown : s.vm.findClass "com/example/prudent_checker/prudentchecker/language/VariableReference" = some m.cls := findClass_of_methodNamed Bd.named
  have hnm := (name_of_methodNamed Bd.named Bd.method).1
  have X0 : Stand p l e ({ frames := 0, cells := 0, slots := 0, locals := 0 } : Room) s m #[(.ref o0), .null] below meth c s₁ [] 0 0 := Stand.of_body Bd
  have e0 : s₁.heap = h0 := by rw [← hh, Bd.state]; rfl
  have N0 := Fr.nil n0
  refine Go.start (Q := Q10n Z o0 h0 n0) (ef_10n m o0) ?_
  show Go _ _ _ _ _ _ _ s₁ (mkF m 0 #[.val (.ref o0), .val .null, .unset] [])
  refine Go.st (fun _ k => XS.aloadN X0.here hx rfl (hb hby d10_0) rfl rfl k) ?_
  show Go _ _ _ _ _ _ _ s₁ (mkF m 1 #[.val (.ref o0), .val .null, .unset] [.null])
  refine Go.st (fun _ k => X0.instanceofNull hx (g := (mkF m 1 #[.val (.ref o0), .val .null, .unset] [.null])) rfl rfl (hb hby d10_1) _ k) ?_
  show Go _ _ _ _ _ _ _ s₁ (mkF m 4 #[.val (.ref o0), .val .null, .unset] [(.int (0 : Int32))])
  refine Go.st (fun _ k => XS.ifYes X0.here hx rfl (pc0 := 4) (pc' := 27) rfl (hb hby d10_4) rfl ((if0 _ _).trans (teq (by decide : (0 : Int32) = (0 : Int32))).1) (by decide) (by decide) k) ?_
  show Go _ _ _ _ _ _ _ s₁ (mkF m 27 #[.val (.ref o0), .val .null, .unset] [])
  refine Go.st (fun _ k => XS.iconst X0.here hx rfl (hb hby d10_27) k) ?_
  show Go _ _ _ _ _ _ _ s₁ (mkF m 28 #[.val (.ref o0), .val .null, .unset] [(.int (0 : Int32))])
  refine Go.ret X0 hlk (v := some (.int (0 : Int32))) (fun h => by rw [hret] at h; cases h) (fun fs hr => retN X0 hx (t := .boolean) hret (by simp) (hb hby d10_28) hr) ?_ (by decide) (by decide)
  show Q10n Z o0 h0 n0 (some (.int (0 : Int32))) s₁.heap _
  rw [e0]
  refine ⟨?_, N0, rfl⟩
  unfold val_10n
  rfl
def val_10v (o0 : Addr) (o1 : Addr) : Int32 := (0 : Int32)
theorem ef_10v (m : MethodId) (o0 : Addr) (o1 : Addr) : entryFrame m #[(.ref o0), (.ref o1)] 3 = mkF m 0 #[.val (.ref o0), .val (.ref o1), .unset] [] := by first | (simp [entryFrame, mkF, argsToLocals, Value.category]; done) | rfl
def Q10v (Z : State) (o0 : Addr) (o1 : Addr) (h0 : Heap) (n0 : Nat) (v : Option Value) (h : Heap) (L : List Loc) : Prop := v = some (.int (val_10v o0 o1)) ∧ Fr n0 L ∧ h = h0
set_option maxRecDepth 65536 in
set_option maxHeartbeats 40000000 in
theorem rm10v (l : Launch) (Z : State) (a0 : Array Value) (hw : ∀ d ∈ tables_1, d.before a0 Z = true) (ws : List Jvm.Cond) (o0 : Addr) (o1 : Addr) (h0 : Heap) (n0 : Nat) (Z0 : n0 ≤ h0.size) (E_o1 : Exa Z h0 o1 "com/example/prudent_checker/prudentchecker/language/Variable") :
    MetFree l (⟨"com/example/prudent_checker/prudentchecker/language/VariableReference", "equals", "(Ljava/lang/Object;)Z"⟩ : MethodName) (head1 (Jvm.Cond.code (⟨"com/example/prudent_checker/prudentchecker/language/VariableReference", "equals", "(Ljava/lang/Object;)Z"⟩ : MethodName) prog_70_method_8_code 3 (some .boolean) :: ws) ({ frames := 0, cells := 0, slots := 0, locals := 0 } : Room)) (fun a U => a = #[(.ref o0), (.ref o1)] ∧ Z.Warmed39 U.vm ∧ U.heap = h0) (fun _ _ _ _ _ => True) (fun _ U o U' => ∃ v L, o = .returned v ∧ Q10v Z o0 o1 h0 n0 v U'.heap L ∧ FrameEnd U o U' L ({ frames := 0, cells := 0, slots := 0, locals := 0 } : Room).cells ({ frames := 0, cells := 0, slots := 0, locals := 0 } : Room).slots) := by
  refine MetFree.of_bodySF (plainFor_of_name pn_com_example_prudent_checker_prudentchecker_language_VariableReference) hisR ?_
  intro p e s m args below meth c s₁ Bd hml0 hP hK
  obtain ⟨rfl, hZ, hh⟩ := hP
  have hx := Bd.exec
  have hby := Bd.bytes
  have hlk : meth.locks = false := BodyLoose.notSynchronized Bd
  have hret := Bd.returns
  have hml : c.maxLocals = 3 := hml0
  have hown : s.vm.findClass "com/example/prudent_checker/prudentchecker/language/VariableReference" = some m.cls := findClass_of_methodNamed Bd.named
  have hnm := (name_of_methodNamed Bd.named Bd.method).1
  have X0 : Stand p l e ({ frames := 0, cells := 0, slots := 0, locals := 0 } : Room) s m #[(.ref o0), (.ref o1)] below meth c s₁ [] 0 0 := Stand.of_body Bd
  have e0 : s₁.heap = h0 := by rw [← hh, Bd.state]; rfl
  have N0 := Fr.nil n0
  refine Go.start (Q := Q10v Z o0 o1 h0 n0) (ef_10v m o0 o1) ?_
  show Go _ _ _ _ _ _ _ s₁ (mkF m 0 #[.val (.ref o0), .val (.ref o1), .unset] [])
  refine Go.st (fun _ k => XS.aloadN X0.here hx rfl (hb hby d10_0) rfl rfl k) ?_
  show Go _ _ _ _ _ _ _ s₁ (mkF m 1 #[.val (.ref o0), .val (.ref o1), .unset] [(.ref o1)])
  obtain ⟨T1, X1, e1, st1⟩ := instNo X0 hx hZ hown (hw _ (List.mem_of_getElem? (i := 73) rfl)) e0 E_o1 (own_no (hw _ (List.mem_of_getElem? (i := 77) rfl)) (hw _ (List.mem_of_getElem? (i := 55) rfl)) (NS.step (hw _ (List.mem_of_getElem? (i := 77) rfl)) (own_root (hw _ (List.mem_of_getElem? (i := 78) rfl)) (hw _ (List.mem_of_getElem? (i := 55) rfl)) (by decide)) (by decide)) (by decide)) (g := (mkF m 1 #[.val (.ref o0), .val (.ref o1), .unset] [(.ref o1)])) rfl rfl (hb hby d10_1)
  refine Go.st st1 ?_
  show Go _ _ _ _ _ _ _ T1 (mkF m 4 #[.val (.ref o0), .val (.ref o1), .unset] [(.int (0 : Int32))])
  refine Go.st (fun _ k => XS.ifYes X1.here hx rfl (pc0 := 4) (pc' := 27) rfl (hb hby d10_4) rfl ((if0 _ _).trans (teq (by decide : (0 : Int32) = (0 : Int32))).1) (by decide) (by decide) k) ?_
  show Go _ _ _ _ _ _ _ T1 (mkF m 27 #[.val (.ref o0), .val (.ref o1), .unset] [])
  refine Go.st (fun _ k => XS.iconst X1.here hx rfl (hb hby d10_27) k) ?_
  show Go _ _ _ _ _ _ _ T1 (mkF m 28 #[.val (.ref o0), .val (.ref o1), .unset] [(.int (0 : Int32))])
  refine Go.ret X1 hlk (v := some (.int (0 : Int32))) (fun h => by rw [hret] at h; cases h) (fun fs hr => retN X1 hx (t := .boolean) hret (by simp) (hb hby d10_28) hr) ?_ (by decide) (by decide)
  show Q10v Z o0 o1 h0 n0 (some (.int (0 : Int32))) T1.heap _
  rw [e1]
  refine ⟨?_, N0, rfl⟩
  unfold val_10v
  rfl
def Q0 (Z : State) (p0 : Int32) (p1 : Int32) (p2 : Int32) (p3 : Int32) (w_BYTE : Addr) (w_INT : Addr) (G1 : Int32) (h0 : Heap) (n0 : Nat) (v : Option Value) (h : Heap) (L : List Loc) : Prop := v = some (.int 1) ∧ Fr n0 L
set_option maxRecDepth 65536 in
set_option maxHeartbeats 40000000 in
theorem tl_0 (l : Launch) (Z : State) (a0 : Array Value) (hw : ∀ d ∈ tables_1, d.before a0 Z = true) (p0 : Int32) (p1 : Int32) (p2 : Int32) (p3 : Int32) (w_BYTE : Addr) (w_INT : Addr) (G1 : Int32) (bA : Addr) (bS : Addr) (tt : Addr) (h0 hS : Heap) (n0 : Nat) {p : Program} {e : Env} {s : State} {m : MethodId} {below : List Frame} {meth : Method} {c : Code} {T0 : State} {locs : List Loc}
    (X0 : Stand p l e room_1 s m #[(.int p0), (.int p1), (.int p2), (.int p3)] below meth c T0 locs 3 8) (hx : p.tables.exec = Jvm.exec) (hZ : Z.Warmed39 s.vm) (hby : c.code = code) (hml : c.maxLocals = 13) (hown : s.vm.findClass "com/example/prudent_checker/prudentchecker/language/VariableReferenceEqualsPinLaw" = some m.cls) (hnm : meth.name = "law") (hlk : meth.locks = false) (hret : meth.sig.returnType = some .boolean) (e0 : T0.heap = hS) (N0 : Fr n0 locs) (ZS : n0 ≤ hS.size) :
    GoW p e below s (Q0 Z p0 p1 p2 p3 w_BYTE w_INT G1 h0 n0) room_1.cells room_1.slots T0 (mkF m 59 #[.val (.int p0), .val (.int p1), .val (.int p2), .val (.int p3), .val (.ref bA), .val (.ref bS), .val (.ref tt), .unset, .unset, .unset, .unset, .unset, .unset] []) := by
  show GoW _ _ _ _ _ _ _ T0 (mkF m 59 #[.val (.int p0), .val (.int p1), .val (.int p2), .val (.int p3), .val (.ref bA), .val (.ref bS), .val (.ref tt), .unset, .unset, .unset, .unset, .unset, .unset] [])
  refine GoW.st (fun _ k => XS.iconst X0.here hx rfl (hb hby at_59) k) ?_
  show GoW _ _ _ _ _ _ _ T0 (mkF m 60 #[.val (.int p0), .val (.int p1), .val (.int p2), .val (.int p3), .val (.ref bA), .val (.ref bS), .val (.ref tt), .unset, .unset, .unset, .unset, .unset, .unset] [(.int (3 : Int32))])
  obtain ⟨T1, h1, k1, X1, e1, E1, A1, O1, st1⟩ := newR X0 hx hZ hown (hw _ (List.mem_of_getElem? (i := 33) rfl)) (hw _ (List.mem_of_getElem? (i := 34) rfl)) e0 (g := (mkF m 60 #[.val (.int p0), .val (.int p1), .val (.int p2), .val (.int p3), .val (.ref bA), .val (.ref bS), .val (.ref tt), .unset, .unset, .unset, .unset, .unset, .unset] [(.int (3 : Int32))])) rfl (hb hby at_60) rfl (by decide) (cap := 3) (by decide) (by decide) (by decide) (by decide)
  obtain ⟨b1, g1⟩ : ∃ z, z = hS.size := ⟨_, rfl⟩
  rw [← g1] at A1 st1
  have g_b1 : n0 ≤ b1 := Nat.le_trans ZS (Nat.le_of_eq g1.symm)
  have Z1 : n0 ≤ h1.size := Nat.le_trans ZS E1.1
  have V_b1 : Arv Z h1 b1 k1 (.object "com/example/prudent_checker/prudentchecker/language/Variable") (3 : Int32) [.null, .null, .null] .null := (Arv.new A1 (by decide)).pad (pad_rep [] .null 3)
  refine GoW.st st1 ?_
  show GoW _ _ _ _ _ _ _ T1 (mkF m 63 #[.val (.int p0), .val (.int p1), .val (.int p2), .val (.int p3), .val (.ref bA), .val (.ref bS), .val (.ref tt), .unset, .unset, .unset, .unset, .unset, .unset] [(.ref b1)])
  refine GoW.st (fun _ k => XS.astore X1.here hx rfl (hb hby at_63) rfl rfl (l' := #[.val (.int p0), .val (.int p1), .val (.int p2), .val (.int p3), .val (.ref bA), .val (.ref bS), .val (.ref tt), .val (.ref b1), .unset, .unset, .unset, .unset, .unset]) rfl k) ?_
  show GoW _ _ _ _ _ _ _ T1 (mkF m 65 #[.val (.int p0), .val (.int p1), .val (.int p2), .val (.int p3), .val (.ref bA), .val (.ref bS), .val (.ref tt), .val (.ref b1), .unset, .unset, .unset, .unset, .unset] [])
  refine GoW.st (fun _ k => XS.aload X1.here hx rfl (hb hby at_65) rfl rfl k) ?_
  show GoW _ _ _ _ _ _ _ T1 (mkF m 67 #[.val (.int p0), .val (.int p1), .val (.int p2), .val (.int p3), .val (.ref bA), .val (.ref bS), .val (.ref tt), .val (.ref b1), .unset, .unset, .unset, .unset, .unset] [(.ref b1)])
  refine GoW.st (fun _ k => XS.iconst X1.here hx rfl (hb hby at_67) k) ?_
  show GoW _ _ _ _ _ _ _ T1 (mkF m 68 #[.val (.int p0), .val (.int p1), .val (.int p2), .val (.int p3), .val (.ref bA), .val (.ref bS), .val (.ref tt), .val (.ref b1), .unset, .unset, .unset, .unset, .unset] [(.int (0 : Int32)), (.ref b1)])
  obtain ⟨T2, h2, X2, e2, E2, A2, D2, -, st2⟩ := newO X1 hx hZ hown (hw _ (List.mem_of_getElem? (i := 33) rfl)) (hw _ (List.mem_of_getElem? (i := 35) rfl)) (hw _ (List.mem_of_getElem? (i := 36) rfl)) e1 (g := (mkF m 68 #[.val (.int p0), .val (.int p1), .val (.int p2), .val (.int p3), .val (.ref bA), .val (.ref bS), .val (.ref tt), .val (.ref b1), .unset, .unset, .unset, .unset, .unset] [(.int (0 : Int32)), (.ref b1)])) rfl (hb hby at_68) (by decide) (by decide)
  obtain ⟨b2, g2⟩ : ∃ z, z = h1.size := ⟨_, rfl⟩
  rw [← g2] at A2 D2 st2
  have ne3 : b1 ≠ b2 := Nat.ne_of_lt (Nat.lt_of_lt_of_le V_b1.lt (Nat.le_of_eq g2.symm))
  have g_b2 : n0 ≤ b2 := Nat.le_trans Z1 (Nat.le_of_eq g2.symm)
  have V_b1__2 := V_b1.ext E2
  have Z2 : n0 ≤ h2.size := Nat.le_trans Z1 E2.1
  have F_name_b2 : Fld Z h2 b2 "com/example/prudent_checker/prudentchecker/language/Variable" "name" "Ljava/lang/String;" .null := D2 (Or.inr (hw _ (List.mem_of_getElem? (i := 42) rfl))) (ty := (.object "java/lang/String")) (by decide)
  have F_type_b2 : Fld Z h2 b2 "com/example/prudent_checker/prudentchecker/language/Variable" "type" "Lcom/example/prudent_checker/prudentchecker/language/ScalarType;" .null := D2 (Or.inr (hw _ (List.mem_of_getElem? (i := 44) rfl))) (ty := (.object "com/example/prudent_checker/prudentchecker/language/ScalarType")) (by decide)
  have F_initialValue_b2 : Fld Z h2 b2 "com/example/prudent_checker/prudentchecker/language/Variable" "initialValue" "I" (.int (0 : Int32)) := D2 (Or.inr (hw _ (List.mem_of_getElem? (i := 46) rfl))) (ty := .int) (by decide)
  have F_process_b2 : Fld Z h2 b2 "com/example/prudent_checker/prudentchecker/language/Variable" "process" "Ljava/lang/String;" .null := D2 (Or.inr (hw _ (List.mem_of_getElem? (i := 48) rfl))) (ty := (.object "java/lang/String")) (by decide)
  refine GoW.st st2 ?_
  show GoW _ _ _ _ _ _ _ T2 (mkF m 71 #[.val (.int p0), .val (.int p1), .val (.int p2), .val (.int p3), .val (.ref bA), .val (.ref bS), .val (.ref tt), .val (.ref b1), .unset, .unset, .unset, .unset, .unset] [(.ref b2), (.int (0 : Int32)), (.ref b1)])
  refine GoW.st (fun _ k => XS.dup X2.here hx rfl (hb hby at_71) rfl rfl k) ?_
  show GoW _ _ _ _ _ _ _ T2 (mkF m 72 #[.val (.int p0), .val (.int p1), .val (.int p2), .val (.int p3), .val (.ref bA), .val (.ref bS), .val (.ref tt), .val (.ref b1), .unset, .unset, .unset, .unset, .unset] [(.ref b2), (.ref b2), (.int (0 : Int32)), (.ref b1)])
  refine GoW.st (fun _ k => XS.aload X2.here hx rfl (hb hby at_72) rfl rfl k) ?_
  show GoW _ _ _ _ _ _ _ T2 (mkF m 74 #[.val (.int p0), .val (.int p1), .val (.int p2), .val (.int p3), .val (.ref bA), .val (.ref bS), .val (.ref tt), .val (.ref b1), .unset, .unset, .unset, .unset, .unset] [(.ref bS), (.ref b2), (.ref b2), (.int (0 : Int32)), (.ref b1)])
  refine GoW.st (fun _ k => XS.aload X2.here hx rfl (hb hby at_74) rfl rfl k) ?_
  show GoW _ _ _ _ _ _ _ T2 (mkF m 76 #[.val (.int p0), .val (.int p1), .val (.int p2), .val (.int p3), .val (.ref bA), .val (.ref bS), .val (.ref tt), .val (.ref b1), .unset, .unset, .unset, .unset, .unset] [(.ref tt), (.ref bS), (.ref b2), (.ref b2), (.int (0 : Int32)), (.ref b1)])
  refine GoW.st (fun _ k => XS.iloadN X2.here hx rfl (hb hby at_76) rfl k) ?_
  show GoW _ _ _ _ _ _ _ T2 (mkF m 77 #[.val (.int p0), .val (.int p1), .val (.int p2), .val (.int p3), .val (.ref bA), .val (.ref bS), .val (.ref tt), .val (.ref b1), .unset, .unset, .unset, .unset, .unset] [(.int p1), (.ref tt), (.ref bS), (.ref b2), (.ref b2), (.int (0 : Int32)), (.ref b1)])
  refine GoW.st (fun _ k => XS.aconstNull X2.here hx rfl (hb hby at_77) k) ?_
  show GoW _ _ _ _ _ _ _ T2 (mkF m 78 #[.val (.int p0), .val (.int p1), .val (.int p2), .val (.int p3), .val (.ref bA), .val (.ref bS), .val (.ref tt), .val (.ref b1), .unset, .unset, .unset, .unset, .unset] [.null, (.int p1), (.ref tt), (.ref bS), (.ref b2), (.ref b2), (.int (0 : Int32)), (.ref b1)])
  obtain ⟨_, _, ⟨T4, L4, k4, n4⟩, -, X4, ⟨Lc4, hQ4, l4, y4, z4⟩, st4⟩ := X2.specialBack hx (y := (⟨"com/example/prudent_checker/prudentchecker/language/Variable", "<init>", "(Ljava/lang/String;Lcom/example/prudent_checker/prudentchecker/language/ScalarType;ILjava/lang/String;)V"⟩ : MethodName)) rfl hown (mvT hZ (hw _ (List.mem_of_getElem? (i := 37) rfl))) (mvT hZ (hw _ (List.mem_of_getElem? (i := 38) rfl))) (mvT hZ (hw _ (List.mem_of_getElem? (i := 39) rfl))) (by decide) (backOf (W := 3) (rm7n l Z a0 hw [] b2 bS tt p1 .null .null (0 : Int32) .null h2 n0 Z2 A2 F_name_b2 F_type_b2 F_initialValue_b2 F_process_b2 g_b2) hZ (hw _ (List.mem_of_getElem? (i := 39) rfl)) (hw _ (List.mem_of_getElem? (i := 36) rfl)) (by decide) (by decide)) (g := (mkF m 78 #[.val (.int p0), .val (.int p1), .val (.int p2), .val (.int p3), .val (.ref bA), .val (.ref bS), .val (.ref tt), .val (.ref b1), .unset, .unset, .unset, .unset, .unset] [.null, (.int p1), (.ref tt), (.ref bS), (.ref b2), (.ref b2), (.int (0 : Int32)), (.ref b1)])) rfl (by rw [hml]; rfl) (Steps.refl _) (a := b2) (argsL := [(.ref bS), (.ref tt), (.int p1), .null]) (rest := [(.ref b2), (.int (0 : Int32)), (.ref b1)]) (lenOf pd_1 rfl) rfl (by show 2 * 0 + _ ≤ _; exact Nat.le_of_eq rfl) (hb hby at_78) (fun _ _ => ⟨rfl, e2, (by decide : 5 + 0 ≤ _), (by decide : 15 + 0 ≤ _)⟩)
  dsimp only [Pt.U, Pt.locs, Pt.cells, Pt.slots] at X4 l4 y4 z4 st4 hQ4
  subst l4 y4 z4
  generalize e4 : T4.heap = h4 at hQ4
  obtain ⟨rfl, N4q, K4, EE4⟩ := hQ4
  have N4 := Fr.app N0 N4q
  refine GoW.st (fun _ k => st4.trans k) ?_
  have V_b1__4 := V_b1__2.keep K4 (ninS ne3 (nin0))
  have A2__4 := A2.keep K4
  have Z4 : n0 ≤ h4.size := Nat.le_trans Z2 K4.1
  show GoW _ _ _ _ _ _ _ T4 (mkF m 81 #[.val (.int p0), .val (.int p1), .val (.int p2), .val (.int p3), .val (.ref bA), .val (.ref bS), .val (.ref tt), .val (.ref b1), .unset, .unset, .unset, .unset, .unset] [(.ref b2), (.int (0 : Int32)), (.ref b1)])
  obtain ⟨cl5, Ar5, qq5, SS5, NN5, HH5, GG5⟩ := id V_b1__4
  have hin6 : ¬ ((0 : Int32) < 0 ∨ cl5.slots.size ≤ ((0 : Int32)).toNatClampNeg) := inb_of SS5 ⟨by decide, by decide⟩
  obtain ⟨T7, h7, X7, e7, W7, st7⟩ := stR X4 hx hZ e4 Ar5 (j := (0 : Int32)) hin6 rfl (Sto.ofV Ar5 qq5 O1 (Ins.self EE4)) (g := (mkF m 81 #[.val (.int p0), .val (.int p1), .val (.int p2), .val (.int p3), .val (.ref bA), .val (.ref bS), .val (.ref tt), .val (.ref b1), .unset, .unset, .unset, .unset, .unset] [(.ref b2), (.int (0 : Int32)), (.ref b1)])) rfl rfl (hb hby at_81)
  have V_b1__7 : Arv Z h7 b1 k1 (.object "com/example/prudent_checker/prudentchecker/language/Variable") (3 : Int32) [(.ref b2), .null, .null] .null := Arv.set Ar5 qq5 SS5 NN5 HH5 GG5 rfl W7 0 rfl (Nat.le_of_ble_eq_true rfl)
  have EE4__7 := EE4.wr W7
  have Z7 : n0 ≤ h7.size := Nat.le_trans Z4 (Keep.of_wr W7).1
  have N7 := Fr.snoc X7 N4 g_b1
  refine GoW.st st7 ?_
  show GoW _ _ _ _ _ _ _ T7 (mkF m 82 #[.val (.int p0), .val (.int p1), .val (.int p2), .val (.int p3), .val (.ref bA), .val (.ref bS), .val (.ref tt), .val (.ref b1), .unset, .unset, .unset, .unset, .unset] [])
  refine GoW.st (fun _ k => XS.aload X7.here hx rfl (hb hby at_82) rfl rfl k) ?_
  show GoW _ _ _ _ _ _ _ T7 (mkF m 84 #[.val (.int p0), .val (.int p1), .val (.int p2), .val (.int p3), .val (.ref bA), .val (.ref bS), .val (.ref tt), .val (.ref b1), .unset, .unset, .unset, .unset, .unset] [(.ref b1)])
  refine GoW.st (fun _ k => XS.iconst X7.here hx rfl (hb hby at_84) k) ?_
  show GoW _ _ _ _ _ _ _ T7 (mkF m 85 #[.val (.int p0), .val (.int p1), .val (.int p2), .val (.int p3), .val (.ref bA), .val (.ref bS), .val (.ref tt), .val (.ref b1), .unset, .unset, .unset, .unset, .unset] [(.int (1 : Int32)), (.ref b1)])
  obtain ⟨T8, h8, X8, e8, E8, A8, D8, -, st8⟩ := newO X7 hx hZ hown (hw _ (List.mem_of_getElem? (i := 33) rfl)) (hw _ (List.mem_of_getElem? (i := 35) rfl)) (hw _ (List.mem_of_getElem? (i := 36) rfl)) e7 (g := (mkF m 85 #[.val (.int p0), .val (.int p1), .val (.int p2), .val (.int p3), .val (.ref bA), .val (.ref bS), .val (.ref tt), .val (.ref b1), .unset, .unset, .unset, .unset, .unset] [(.int (1 : Int32)), (.ref b1)])) rfl (hb hby at_85) (by decide) (by decide)
  obtain ⟨b8, g8⟩ : ∃ z, z = h7.size := ⟨_, rfl⟩
  rw [← g8] at A8 D8 st8
  have ne9 : b2 ≠ b8 := Nat.ne_of_lt (Nat.lt_of_lt_of_le EE4__7.lt (Nat.le_of_eq g8.symm))
  have ne10 : b1 ≠ b8 := Nat.ne_of_lt (Nat.lt_of_lt_of_le V_b1__7.lt (Nat.le_of_eq g8.symm))
  have g_b8 : n0 ≤ b8 := Nat.le_trans Z7 (Nat.le_of_eq g8.symm)
  have EE4__8 := EE4__7.ext E8
  have V_b1__8 := V_b1__7.ext E8
  have Z8 : n0 ≤ h8.size := Nat.le_trans Z7 E8.1
  have F_name_b8 : Fld Z h8 b8 "com/example/prudent_checker/prudentchecker/language/Variable" "name" "Ljava/lang/String;" .null := D8 (Or.inr (hw _ (List.mem_of_getElem? (i := 42) rfl))) (ty := (.object "java/lang/String")) (by decide)
  have F_type_b8 : Fld Z h8 b8 "com/example/prudent_checker/prudentchecker/language/Variable" "type" "Lcom/example/prudent_checker/prudentchecker/language/ScalarType;" .null := D8 (Or.inr (hw _ (List.mem_of_getElem? (i := 44) rfl))) (ty := (.object "com/example/prudent_checker/prudentchecker/language/ScalarType")) (by decide)
  have F_initialValue_b8 : Fld Z h8 b8 "com/example/prudent_checker/prudentchecker/language/Variable" "initialValue" "I" (.int (0 : Int32)) := D8 (Or.inr (hw _ (List.mem_of_getElem? (i := 46) rfl))) (ty := .int) (by decide)
  have F_process_b8 : Fld Z h8 b8 "com/example/prudent_checker/prudentchecker/language/Variable" "process" "Ljava/lang/String;" .null := D8 (Or.inr (hw _ (List.mem_of_getElem? (i := 48) rfl))) (ty := (.object "java/lang/String")) (by decide)
  refine GoW.st st8 ?_
  show GoW _ _ _ _ _ _ _ T8 (mkF m 88 #[.val (.int p0), .val (.int p1), .val (.int p2), .val (.int p3), .val (.ref bA), .val (.ref bS), .val (.ref tt), .val (.ref b1), .unset, .unset, .unset, .unset, .unset] [(.ref b8), (.int (1 : Int32)), (.ref b1)])
  refine GoW.st (fun _ k => XS.dup X8.here hx rfl (hb hby at_88) rfl rfl k) ?_
  show GoW _ _ _ _ _ _ _ T8 (mkF m 89 #[.val (.int p0), .val (.int p1), .val (.int p2), .val (.int p3), .val (.ref bA), .val (.ref bS), .val (.ref tt), .val (.ref b1), .unset, .unset, .unset, .unset, .unset] [(.ref b8), (.ref b8), (.int (1 : Int32)), (.ref b1)])
  refine GoW.st (fun _ k => XS.aload X8.here hx rfl (hb hby at_89) rfl rfl k) ?_
  show GoW _ _ _ _ _ _ _ T8 (mkF m 91 #[.val (.int p0), .val (.int p1), .val (.int p2), .val (.int p3), .val (.ref bA), .val (.ref bS), .val (.ref tt), .val (.ref b1), .unset, .unset, .unset, .unset, .unset] [(.ref bS), (.ref b8), (.ref b8), (.int (1 : Int32)), (.ref b1)])
  refine GoW.st (fun _ k => XS.aload X8.here hx rfl (hb hby at_91) rfl rfl k) ?_
  show GoW _ _ _ _ _ _ _ T8 (mkF m 93 #[.val (.int p0), .val (.int p1), .val (.int p2), .val (.int p3), .val (.ref bA), .val (.ref bS), .val (.ref tt), .val (.ref b1), .unset, .unset, .unset, .unset, .unset] [(.ref tt), (.ref bS), (.ref b8), (.ref b8), (.int (1 : Int32)), (.ref b1)])
  refine GoW.st (fun _ k => XS.iloadN X8.here hx rfl (hb hby at_93) rfl k) ?_
  show GoW _ _ _ _ _ _ _ T8 (mkF m 94 #[.val (.int p0), .val (.int p1), .val (.int p2), .val (.int p3), .val (.ref bA), .val (.ref bS), .val (.ref tt), .val (.ref b1), .unset, .unset, .unset, .unset, .unset] [(.int p1), (.ref tt), (.ref bS), (.ref b8), (.ref b8), (.int (1 : Int32)), (.ref b1)])
  refine GoW.st (fun _ k => XS.aconstNull X8.here hx rfl (hb hby at_94) k) ?_
  show GoW _ _ _ _ _ _ _ T8 (mkF m 95 #[.val (.int p0), .val (.int p1), .val (.int p2), .val (.int p3), .val (.ref bA), .val (.ref bS), .val (.ref tt), .val (.ref b1), .unset, .unset, .unset, .unset, .unset] [.null, (.int p1), (.ref tt), (.ref bS), (.ref b8), (.ref b8), (.int (1 : Int32)), (.ref b1)])
  obtain ⟨_, _, ⟨T11, L11, k11, n11⟩, -, X11, ⟨Lc11, hQ11, l11, y11, z11⟩, st11⟩ := X8.specialBack hx (y := (⟨"com/example/prudent_checker/prudentchecker/language/Variable", "<init>", "(Ljava/lang/String;Lcom/example/prudent_checker/prudentchecker/language/ScalarType;ILjava/lang/String;)V"⟩ : MethodName)) rfl hown (mvT hZ (hw _ (List.mem_of_getElem? (i := 37) rfl))) (mvT hZ (hw _ (List.mem_of_getElem? (i := 38) rfl))) (mvT hZ (hw _ (List.mem_of_getElem? (i := 39) rfl))) (by decide) (backOf (W := 3) (rm7n l Z a0 hw [] b8 bS tt p1 .null .null (0 : Int32) .null h8 n0 Z8 A8 F_name_b8 F_type_b8 F_initialValue_b8 F_process_b8 g_b8) hZ (hw _ (List.mem_of_getElem? (i := 39) rfl)) (hw _ (List.mem_of_getElem? (i := 36) rfl)) (by decide) (by decide)) (g := (mkF m 95 #[.val (.int p0), .val (.int p1), .val (.int p2), .val (.int p3), .val (.ref bA), .val (.ref bS), .val (.ref tt), .val (.ref b1), .unset, .unset, .unset, .unset, .unset] [.null, (.int p1), (.ref tt), (.ref bS), (.ref b8), (.ref b8), (.int (1 : Int32)), (.ref b1)])) rfl (by rw [hml]; rfl) (Steps.refl _) (a := b8) (argsL := [(.ref bS), (.ref tt), (.int p1), .null]) (rest := [(.ref b8), (.int (1 : Int32)), (.ref b1)]) (lenOf pd_1 rfl) rfl (by show 2 * 0 + _ ≤ _; exact Nat.le_of_eq rfl) (hb hby at_95) (fun _ _ => ⟨rfl, e8, (by decide : 6 + 0 ≤ _), (by decide : 19 + 0 ≤ _)⟩)
  dsimp only [Pt.U, Pt.locs, Pt.cells, Pt.slots] at X11 l11 y11 z11 st11 hQ11
  subst l11 y11 z11
  generalize e11 : T11.heap = h11 at hQ11
  obtain ⟨rfl, N11q, K11, EE11⟩ := hQ11
  have N11 := Fr.app N7 N11q
  refine GoW.st (fun _ k => st11.trans k) ?_
  have EE4__11 := EE4__8.keep K11
  have V_b1__11 := V_b1__8.keep K11 (ninS ne10 (nin0))
  have A8__11 := A8.keep K11
  have Z11 : n0 ≤ h11.size := Nat.le_trans Z8 K11.1
  show GoW _ _ _ _ _ _ _ T11 (mkF m 98 #[.val (.int p0), .val (.int p1), .val (.int p2), .val (.int p3), .val (.ref bA), .val (.ref bS), .val (.ref tt), .val (.ref b1), .unset, .unset, .unset, .unset, .unset] [(.ref b8), (.int (1 : Int32)), (.ref b1)])
  obtain ⟨cl12, Ar12, qq12, SS12, NN12, HH12, GG12⟩ := id V_b1__11
  have hin13 : ¬ ((1 : Int32) < 0 ∨ cl12.slots.size ≤ ((1 : Int32)).toNatClampNeg) := inb_of SS12 ⟨by decide, by decide⟩
  obtain ⟨T14, h14, X14, e14, W14, st14⟩ := stR X11 hx hZ e11 Ar12 (j := (1 : Int32)) hin13 rfl (Sto.ofV Ar12 qq12 O1 (Ins.self EE11)) (g := (mkF m 98 #[.val (.int p0), .val (.int p1), .val (.int p2), .val (.int p3), .val (.ref bA), .val (.ref bS), .val (.ref tt), .val (.ref b1), .unset, .unset, .unset, .unset, .unset] [(.ref b8), (.int (1 : Int32)), (.ref b1)])) rfl rfl (hb hby at_98)
  have V_b1__14 : Arv Z h14 b1 k1 (.object "com/example/prudent_checker/prudentchecker/language/Variable") (3 : Int32) [(.ref b2), (.ref b8), .null] .null := Arv.set Ar12 qq12 SS12 NN12 HH12 GG12 rfl W14 1 rfl (Nat.le_of_ble_eq_true rfl)
  have EE4__14 := EE4__11.wr W14
  have EE11__14 := EE11.wr W14
  have Z14 : n0 ≤ h14.size := Nat.le_trans Z11 (Keep.of_wr W14).1
  have N14 := Fr.snoc X14 N11 g_b1
  refine GoW.st st14 ?_
  show GoW _ _ _ _ _ _ _ T14 (mkF m 99 #[.val (.int p0), .val (.int p1), .val (.int p2), .val (.int p3), .val (.ref bA), .val (.ref bS), .val (.ref tt), .val (.ref b1), .unset, .unset, .unset, .unset, .unset] [])
  refine GoW.st (fun _ k => XS.aload X14.here hx rfl (hb hby at_99) rfl rfl k) ?_
  show GoW _ _ _ _ _ _ _ T14 (mkF m 101 #[.val (.int p0), .val (.int p1), .val (.int p2), .val (.int p3), .val (.ref bA), .val (.ref bS), .val (.ref tt), .val (.ref b1), .unset, .unset, .unset, .unset, .unset] [(.ref b1)])
  refine GoW.st (fun _ k => XS.iconst X14.here hx rfl (hb hby at_101) k) ?_
  show GoW _ _ _ _ _ _ _ T14 (mkF m 102 #[.val (.int p0), .val (.int p1), .val (.int p2), .val (.int p3), .val (.ref bA), .val (.ref bS), .val (.ref tt), .val (.ref b1), .unset, .unset, .unset, .unset, .unset] [(.int (2 : Int32)), (.ref b1)])
  obtain ⟨T15, h15, X15, e15, E15, A15, D15, -, st15⟩ := newO X14 hx hZ hown (hw _ (List.mem_of_getElem? (i := 33) rfl)) (hw _ (List.mem_of_getElem? (i := 35) rfl)) (hw _ (List.mem_of_getElem? (i := 36) rfl)) e14 (g := (mkF m 102 #[.val (.int p0), .val (.int p1), .val (.int p2), .val (.int p3), .val (.ref bA), .val (.ref bS), .val (.ref tt), .val (.ref b1), .unset, .unset, .unset, .unset, .unset] [(.int (2 : Int32)), (.ref b1)])) rfl (hb hby at_102) (by decide) (by decide)
  obtain ⟨b15, g15⟩ : ∃ z, z = h14.size := ⟨_, rfl⟩
  rw [← g15] at A15 D15 st15
  have ne16 : b2 ≠ b15 := Nat.ne_of_lt (Nat.lt_of_lt_of_le EE4__14.lt (Nat.le_of_eq g15.symm))
  have ne17 : b8 ≠ b15 := Nat.ne_of_lt (Nat.lt_of_lt_of_le EE11__14.lt (Nat.le_of_eq g15.symm))
  have ne18 : b1 ≠ b15 := Nat.ne_of_lt (Nat.lt_of_lt_of_le V_b1__14.lt (Nat.le_of_eq g15.symm))
  have g_b15 : n0 ≤ b15 := Nat.le_trans Z14 (Nat.le_of_eq g15.symm)
  have EE4__15 := EE4__14.ext E15
  have EE11__15 := EE11__14.ext E15
  have V_b1__15 := V_b1__14.ext E15
  have Z15 : n0 ≤ h15.size := Nat.le_trans Z14 E15.1
  have F_name_b15 : Fld Z h15 b15 "com/example/prudent_checker/prudentchecker/language/Variable" "name" "Ljava/lang/String;" .null := D15 (Or.inr (hw _ (List.mem_of_getElem? (i := 42) rfl))) (ty := (.object "java/lang/String")) (by decide)
  have F_type_b15 : Fld Z h15 b15 "com/example/prudent_checker/prudentchecker/language/Variable" "type" "Lcom/example/prudent_checker/prudentchecker/language/ScalarType;" .null := D15 (Or.inr (hw _ (List.mem_of_getElem? (i := 44) rfl))) (ty := (.object "com/example/prudent_checker/prudentchecker/language/ScalarType")) (by decide)
  have F_initialValue_b15 : Fld Z h15 b15 "com/example/prudent_checker/prudentchecker/language/Variable" "initialValue" "I" (.int (0 : Int32)) := D15 (Or.inr (hw _ (List.mem_of_getElem? (i := 46) rfl))) (ty := .int) (by decide)
  have F_process_b15 : Fld Z h15 b15 "com/example/prudent_checker/prudentchecker/language/Variable" "process" "Ljava/lang/String;" .null := D15 (Or.inr (hw _ (List.mem_of_getElem? (i := 48) rfl))) (ty := (.object "java/lang/String")) (by decide)
  refine GoW.st st15 ?_
  show GoW _ _ _ _ _ _ _ T15 (mkF m 105 #[.val (.int p0), .val (.int p1), .val (.int p2), .val (.int p3), .val (.ref bA), .val (.ref bS), .val (.ref tt), .val (.ref b1), .unset, .unset, .unset, .unset, .unset] [(.ref b15), (.int (2 : Int32)), (.ref b1)])
  refine GoW.st (fun _ k => XS.dup X15.here hx rfl (hb hby at_105) rfl rfl k) ?_
  show GoW _ _ _ _ _ _ _ T15 (mkF m 106 #[.val (.int p0), .val (.int p1), .val (.int p2), .val (.int p3), .val (.ref bA), .val (.ref bS), .val (.ref tt), .val (.ref b1), .unset, .unset, .unset, .unset, .unset] [(.ref b15), (.ref b15), (.int (2 : Int32)), (.ref b1)])
  refine GoW.st (fun _ k => XS.aload X15.here hx rfl (hb hby at_106) rfl rfl k) ?_
  show GoW _ _ _ _ _ _ _ T15 (mkF m 108 #[.val (.int p0), .val (.int p1), .val (.int p2), .val (.int p3), .val (.ref bA), .val (.ref bS), .val (.ref tt), .val (.ref b1), .unset, .unset, .unset, .unset, .unset] [(.ref bS), (.ref b15), (.ref b15), (.int (2 : Int32)), (.ref b1)])
  refine GoW.st (fun _ k => XS.aload X15.here hx rfl (hb hby at_108) rfl rfl k) ?_
  show GoW _ _ _ _ _ _ _ T15 (mkF m 110 #[.val (.int p0), .val (.int p1), .val (.int p2), .val (.int p3), .val (.ref bA), .val (.ref bS), .val (.ref tt), .val (.ref b1), .unset, .unset, .unset, .unset, .unset] [(.ref tt), (.ref bS), (.ref b15), (.ref b15), (.int (2 : Int32)), (.ref b1)])
  refine GoW.st (fun _ k => XS.iloadN X15.here hx rfl (hb hby at_110) rfl k) ?_
  show GoW _ _ _ _ _ _ _ T15 (mkF m 111 #[.val (.int p0), .val (.int p1), .val (.int p2), .val (.int p3), .val (.ref bA), .val (.ref bS), .val (.ref tt), .val (.ref b1), .unset, .unset, .unset, .unset, .unset] [(.int p1), (.ref tt), (.ref bS), (.ref b15), (.ref b15), (.int (2 : Int32)), (.ref b1)])
  obtain ⟨a19, T19, h19, k19, X19, e19, E19, hS, hk19, hZ, hown, st19⟩ := ldcS (s := s) (vm0 := s.vm) X15 hx hZ hown (hw _ (List.mem_of_getElem? (i := 50) rfl)) (fun d hd => hw d ((by decide +kernel : ∀ d ∈ Bundle.stringAtoms, d ∈ tables_1) d hd)) e15 (State.WarmedH.since (State.WarmedH.refl s) 0) (Nat.zero_le _) (g := (mkF m 111 #[.val (.int p0), .val (.int p1), .val (.int p2), .val (.int p3), .val (.ref bA), .val (.ref bS), .val (.ref tt), .val (.ref b1), .unset, .unset, .unset, .unset, .unset] [(.int p1), (.ref tt), (.ref bS), (.ref b15), (.ref b15), (.int (2 : Int32)), (.ref b1)])) rfl (hb hby at_111) (n := 4) (by decide) (by decide) (by decide) (by decide)
  have EE4__19 := EE4__15.ext E19
  have EE11__19 := EE11__15.ext E19
  have V_b1__19 := V_b1__15.ext E19
  have A15__19 := A15.ext E19
  have F_name_b15__19 := F_name_b15.ext E19
  have F_type_b15__19 := F_type_b15.ext E19
  have F_initialValue_b15__19 := F_initialValue_b15.ext E19
  have F_process_b15__19 := F_process_b15.ext E19
  have Z19 : n0 ≤ h19.size := Nat.le_trans Z15 E19.1
  refine GoW.st st19 ?_
  show GoW _ _ _ _ _ _ _ T19 (mkF m 113 #[.val (.int p0), .val (.int p1), .val (.int p2), .val (.int p3), .val (.ref bA), .val (.ref bS), .val (.ref tt), .val (.ref b1), .unset, .unset, .unset, .unset, .unset] [(.ref a19), (.int p1), (.ref tt), (.ref bS), (.ref b15), (.ref b15), (.int (2 : Int32)), (.ref b1)])
  obtain ⟨_, _, ⟨T20, L20, k20, n20⟩, -, X20, ⟨Lc20, hQ20, l20, y20, z20⟩, st20⟩ := X19.specialBack hx (y := (⟨"com/example/prudent_checker/prudentchecker/language/Variable", "<init>", "(Ljava/lang/String;Lcom/example/prudent_checker/prudentchecker/language/ScalarType;ILjava/lang/String;)V"⟩ : MethodName)) rfl hown (mvT hZ (hw _ (List.mem_of_getElem? (i := 37) rfl))) (mvT hZ (hw _ (List.mem_of_getElem? (i := 38) rfl))) (mvT hZ (hw _ (List.mem_of_getElem? (i := 39) rfl))) (by decide) (backOf (W := 3) (rm7 l Z a0 hw [] b15 bS tt p1 a19 .null .null (0 : Int32) .null h19 n0 Z19 A15__19 F_name_b15__19 F_type_b15__19 F_initialValue_b15__19 F_process_b15__19 g_b15) hZ (hw _ (List.mem_of_getElem? (i := 39) rfl)) (hw _ (List.mem_of_getElem? (i := 36) rfl)) (by decide) (by decide)) (g := (mkF m 113 #[.val (.int p0), .val (.int p1), .val (.int p2), .val (.int p3), .val (.ref bA), .val (.ref bS), .val (.ref tt), .val (.ref b1), .unset, .unset, .unset, .unset, .unset] [(.ref a19), (.int p1), (.ref tt), (.ref bS), (.ref b15), (.ref b15), (.int (2 : Int32)), (.ref b1)])) rfl (by rw [hml]; rfl) (Steps.refl _) (a := b15) (argsL := [(.ref bS), (.ref tt), (.int p1), (.ref a19)]) (rest := [(.ref b15), (.int (2 : Int32)), (.ref b1)]) (lenOf pd_1 rfl) rfl (by show 2 * 0 + _ ≤ _; exact Nat.le_of_eq rfl) (hb hby at_113) (fun _ _ => ⟨rfl, e19, (by decide : 9 + 0 ≤ _), (by decide : 31 + 0 ≤ _)⟩)
  dsimp only [Pt.U, Pt.locs, Pt.cells, Pt.slots] at X20 l20 y20 z20 st20 hQ20
  subst l20 y20 z20
  generalize e20 : T20.heap = h20 at hQ20
  obtain ⟨rfl, N20q, K20, EE20⟩ := hQ20
  have N20 := Fr.app N14 N20q
  refine GoW.st (fun _ k => st20.trans k) ?_
  have EE4__20 := EE4__19.keep K20
  have EE11__20 := EE11__19.keep K20
  have V_b1__20 := V_b1__19.keep K20 (ninS ne18 (nin0))
  have A15__20 := A15__19.keep K20
  have Z20 : n0 ≤ h20.size := Nat.le_trans Z19 K20.1
  have hk20 := Nat.le_trans hk19 K20.1
  show GoW _ _ _ _ _ _ _ T20 (mkF m 116 #[.val (.int p0), .val (.int p1), .val (.int p2), .val (.int p3), .val (.ref bA), .val (.ref bS), .val (.ref tt), .val (.ref b1), .unset, .unset, .unset, .unset, .unset] [(.ref b15), (.int (2 : Int32)), (.ref b1)])
  obtain ⟨cl21, Ar21, qq21, SS21, NN21, HH21, GG21⟩ := id V_b1__20
  have hin22 : ¬ ((2 : Int32) < 0 ∨ cl21.slots.size ≤ ((2 : Int32)).toNatClampNeg) := inb_of SS21 ⟨by decide, by decide⟩
  obtain ⟨T23, h23, X23, e23, W23, st23⟩ := stR X20 hx hZ e20 Ar21 (j := (2 : Int32)) hin22 rfl (Sto.ofV Ar21 qq21 O1 (Ins.self EE20)) (g := (mkF m 116 #[.val (.int p0), .val (.int p1), .val (.int p2), .val (.int p3), .val (.ref bA), .val (.ref bS), .val (.ref tt), .val (.ref b1), .unset, .unset, .unset, .unset, .unset] [(.ref b15), (.int (2 : Int32)), (.ref b1)])) rfl rfl (hb hby at_116)
  have V_b1__23 : Arv Z h23 b1 k1 (.object "com/example/prudent_checker/prudentchecker/language/Variable") (3 : Int32) [(.ref b2), (.ref b8), (.ref b15)] .null := Arv.set Ar21 qq21 SS21 NN21 HH21 GG21 rfl W23 2 rfl (Nat.le_of_ble_eq_true rfl)
  have EE4__23 := EE4__20.wr W23
  have EE11__23 := EE11__20.wr W23
  have EE20__23 := EE20.wr W23
  have Z23 : n0 ≤ h23.size := Nat.le_trans Z20 (Keep.of_wr W23).1
  have hk23 := Nat.le_trans hk20 (Keep.of_wr W23).1
  have N23 := Fr.snoc X23 N20 g_b1
  refine GoW.st st23 ?_
  show GoW _ _ _ _ _ _ _ T23 (mkF m 117 #[.val (.int p0), .val (.int p1), .val (.int p2), .val (.int p3), .val (.ref bA), .val (.ref bS), .val (.ref tt), .val (.ref b1), .unset, .unset, .unset, .unset, .unset] [])
  refine GoW.st (fun _ k => XS.iloadN X23.here hx rfl (hb hby at_117) rfl k) ?_
  show GoW _ _ _ _ _ _ _ T23 (mkF m 118 #[.val (.int p0), .val (.int p1), .val (.int p2), .val (.int p3), .val (.ref bA), .val (.ref bS), .val (.ref tt), .val (.ref b1), .unset, .unset, .unset, .unset, .unset] [(.int p3)])
  refine GoW.st (fun _ k => Jvm.Stand.ldcI X23 hx hown (mvT hZ (hw _ (List.mem_of_getElem? (i := 53) rfl))) rfl (hb hby at_118) k) ?_
  show GoW _ _ _ _ _ _ _ T23 (mkF m 120 #[.val (.int p0), .val (.int p1), .val (.int p2), .val (.int p3), .val (.ref bA), .val (.ref bS), .val (.ref tt), .val (.ref b1), .unset, .unset, .unset, .unset, .unset] [(.int (2147483647 : Int32)), (.int p3)])
  refine GoW.st (fun _ k => XS.iand X23.here hx rfl (hb hby at_120) rfl k) ?_
  show GoW _ _ _ _ _ _ _ T23 (mkF m 121 #[.val (.int p0), .val (.int p1), .val (.int p2), .val (.int p3), .val (.ref bA), .val (.ref bS), .val (.ref tt), .val (.ref b1), .unset, .unset, .unset, .unset, .unset] [(.int (p3 &&& (2147483647 : Int32)))])
  refine GoW.st (fun _ k => XS.iconst X23.here hx rfl (hb hby at_121) k) ?_
  show GoW _ _ _ _ _ _ _ T23 (mkF m 122 #[.val (.int p0), .val (.int p1), .val (.int p2), .val (.int p3), .val (.ref bA), .val (.ref bS), .val (.ref tt), .val (.ref b1), .unset, .unset, .unset, .unset, .unset] [(.int (3 : Int32)), (.int (p3 &&& (2147483647 : Int32)))])
  refine GoW.st (fun _ k => iremM (g := (mkF m 122 #[.val (.int p0), .val (.int p1), .val (.int p2), .val (.int p3), .val (.ref bA), .val (.ref bS), .val (.ref tt), .val (.ref b1), .unset, .unset, .unset, .unset, .unset] [(.int (3 : Int32)), (.int (p3 &&& (2147483647 : Int32)))])) X23 hx rfl (hb hby at_122) rfl (by decide) k) ?_
  show GoW _ _ _ _ _ _ _ T23 (mkF m 123 #[.val (.int p0), .val (.int p1), .val (.int p2), .val (.int p3), .val (.ref bA), .val (.ref bS), .val (.ref tt), .val (.ref b1), .unset, .unset, .unset, .unset, .unset] [(.int ((p3 &&& (2147483647 : Int32)) % (3 : Int32)))])
  rcases own_mod3 p3 with hk24 | hk24 | hk24
  · rw [hk24]
    show GoW _ _ _ _ _ _ _ T23 (mkF m 123 #[.val (.int p0), .val (.int p1), .val (.int p2), .val (.int p3), .val (.ref bA), .val (.ref bS), .val (.ref tt), .val (.ref b1), .unset, .unset, .unset, .unset, .unset] [(.int (0 : Int32))])
    refine GoW.st (fun _ k => XS.istore X23.here hx rfl (hb hby at_123) rfl (l' := #[.val (.int p0), .val (.int p1), .val (.int p2), .val (.int p3), .val (.ref bA), .val (.ref bS), .val (.ref tt), .val (.ref b1), .val (.int (0 : Int32)), .unset, .unset, .unset, .unset]) rfl k) ?_
    show GoW _ _ _ _ _ _ _ T23 (mkF m 125 #[.val (.int p0), .val (.int p1), .val (.int p2), .val (.int p3), .val (.ref bA), .val (.ref bS), .val (.ref tt), .val (.ref b1), .val (.int (0 : Int32)), .unset, .unset, .unset, .unset] [])
    refine GoW.st (fun _ k => XS.iloadN X23.here hx rfl (hb hby at_125) rfl k) ?_
    show GoW _ _ _ _ _ _ _ T23 (mkF m 126 #[.val (.int p0), .val (.int p1), .val (.int p2), .val (.int p3), .val (.ref bA), .val (.ref bS), .val (.ref tt), .val (.ref b1), .val (.int (0 : Int32)), .unset, .unset, .unset, .unset] [(.int p2)])
    refine GoW.st (fun _ k => Jvm.Stand.ldcI X23 hx hown (mvT hZ (hw _ (List.mem_of_getElem? (i := 53) rfl))) rfl (hb hby at_126) k) ?_
    show GoW _ _ _ _ _ _ _ T23 (mkF m 128 #[.val (.int p0), .val (.int p1), .val (.int p2), .val (.int p3), .val (.ref bA), .val (.ref bS), .val (.ref tt), .val (.ref b1), .val (.int (0 : Int32)), .unset, .unset, .unset, .unset] [(.int (2147483647 : Int32)), (.int p2)])
    refine GoW.st (fun _ k => XS.iand X23.here hx rfl (hb hby at_128) rfl k) ?_
    show GoW _ _ _ _ _ _ _ T23 (mkF m 129 #[.val (.int p0), .val (.int p1), .val (.int p2), .val (.int p3), .val (.ref bA), .val (.ref bS), .val (.ref tt), .val (.ref b1), .val (.int (0 : Int32)), .unset, .unset, .unset, .unset] [(.int (p2 &&& (2147483647 : Int32)))])
    refine GoW.st (fun _ k => XS.bipush X23.here hx rfl (hb hby at_129) k) ?_
    show GoW _ _ _ _ _ _ _ T23 (mkF m 131 #[.val (.int p0), .val (.int p1), .val (.int p2), .val (.int p3), .val (.ref bA), .val (.ref bS), .val (.ref tt), .val (.ref b1), .val (.int (0 : Int32)), .unset, .unset, .unset, .unset] [(.int (6 : Int32)), (.int (p2 &&& (2147483647 : Int32)))])
    refine GoW.st (fun _ k => iremM (g := (mkF m 131 #[.val (.int p0), .val (.int p1), .val (.int p2), .val (.int p3), .val (.ref bA), .val (.ref bS), .val (.ref tt), .val (.ref b1), .val (.int (0 : Int32)), .unset, .unset, .unset, .unset] [(.int (6 : Int32)), (.int (p2 &&& (2147483647 : Int32)))])) X23 hx rfl (hb hby at_131) rfl (by decide) k) ?_
    show GoW _ _ _ _ _ _ _ T23 (mkF m 132 #[.val (.int p0), .val (.int p1), .val (.int p2), .val (.int p3), .val (.ref bA), .val (.ref bS), .val (.ref tt), .val (.ref b1), .val (.int (0 : Int32)), .unset, .unset, .unset, .unset] [(.int ((p2 &&& (2147483647 : Int32)) % (6 : Int32)))])
    rcases own_mod6 p2 with hk25 | hk25 | hk25 | hk25 | hk25 | hk25
    · rw [hk25]
      show GoW _ _ _ _ _ _ _ T23 (mkF m 132 #[.val (.int p0), .val (.int p1), .val (.int p2), .val (.int p3), .val (.ref bA), .val (.ref bS), .val (.ref tt), .val (.ref b1), .val (.int (0 : Int32)), .unset, .unset, .unset, .unset] [(.int (0 : Int32))])
      refine GoW.st (fun _ k => XS.istore X23.here hx rfl (hb hby at_132) rfl (l' := #[.val (.int p0), .val (.int p1), .val (.int p2), .val (.int p3), .val (.ref bA), .val (.ref bS), .val (.ref tt), .val (.ref b1), .val (.int (0 : Int32)), .val (.int (0 : Int32)), .unset, .unset, .unset]) rfl k) ?_
      show GoW _ _ _ _ _ _ _ T23 (mkF m 134 #[.val (.int p0), .val (.int p1), .val (.int p2), .val (.int p3), .val (.ref bA), .val (.ref bS), .val (.ref tt), .val (.ref b1), .val (.int (0 : Int32)), .val (.int (0 : Int32)), .unset, .unset, .unset] [])
      obtain ⟨T26, h26, X26, e26, E26, A26, D26, -, st26⟩ := newO X23 hx hZ hown (hw _ (List.mem_of_getElem? (i := 54) rfl)) (hw _ (List.mem_of_getElem? (i := 55) rfl)) (hw _ (List.mem_of_getElem? (i := 56) rfl)) e23 (g := (mkF m 134 #[.val (.int p0), .val (.int p1), .val (.int p2), .val (.int p3), .val (.ref bA), .val (.ref bS), .val (.ref tt), .val (.ref b1), .val (.int (0 : Int32)), .val (.int (0 : Int32)), .unset, .unset, .unset] [])) rfl (hb hby at_134) (by decide) (by decide)
      obtain ⟨b26, g26⟩ : ∃ z, z = h23.size := ⟨_, rfl⟩
      rw [← g26] at A26 D26 st26
      have ne27 : b2 ≠ b26 := Nat.ne_of_lt (Nat.lt_of_lt_of_le EE4__23.lt (Nat.le_of_eq g26.symm))
      have ne28 : b8 ≠ b26 := Nat.ne_of_lt (Nat.lt_of_lt_of_le EE11__23.lt (Nat.le_of_eq g26.symm))
      have ne29 : b15 ≠ b26 := Nat.ne_of_lt (Nat.lt_of_lt_of_le EE20__23.lt (Nat.le_of_eq g26.symm))
      have ne30 : b1 ≠ b26 := Nat.ne_of_lt (Nat.lt_of_lt_of_le V_b1__23.lt (Nat.le_of_eq g26.symm))
      have g_b26 : n0 ≤ b26 := Nat.le_trans Z23 (Nat.le_of_eq g26.symm)
      have EE4__26 := EE4__23.ext E26
      have EE11__26 := EE11__23.ext E26
      have EE20__26 := EE20__23.ext E26
      have V_b1__26 := V_b1__23.ext E26
      have Z26 : n0 ≤ h26.size := Nat.le_trans Z23 E26.1
      have hk26 := Nat.le_trans hk23 E26.1
      have F_variable_b26 : Fld Z h26 b26 "com/example/prudent_checker/prudentchecker/language/VariableReference" "variable" "Lcom/example/prudent_checker/prudentchecker/language/Variable;" .null := D26 (Or.inr (hw _ (List.mem_of_getElem? (i := 67) rfl))) (ty := (.object "com/example/prudent_checker/prudentchecker/language/Variable")) (by decide)
      refine GoW.st st26 ?_
      show GoW _ _ _ _ _ _ _ T26 (mkF m 137 #[.val (.int p0), .val (.int p1), .val (.int p2), .val (.int p3), .val (.ref bA), .val (.ref bS), .val (.ref tt), .val (.ref b1), .val (.int (0 : Int32)), .val (.int (0 : Int32)), .unset, .unset, .unset] [(.ref b26)])
      refine GoW.st (fun _ k => XS.dup X26.here hx rfl (hb hby at_137) rfl rfl k) ?_
      show GoW _ _ _ _ _ _ _ T26 (mkF m 138 #[.val (.int p0), .val (.int p1), .val (.int p2), .val (.int p3), .val (.ref bA), .val (.ref bS), .val (.ref tt), .val (.ref b1), .val (.int (0 : Int32)), .val (.int (0 : Int32)), .unset, .unset, .unset] [(.ref b26), (.ref b26)])
      refine GoW.st (fun _ k => XS.aload X26.here hx rfl (hb hby at_138) rfl rfl k) ?_
      show GoW _ _ _ _ _ _ _ T26 (mkF m 140 #[.val (.int p0), .val (.int p1), .val (.int p2), .val (.int p3), .val (.ref bA), .val (.ref bS), .val (.ref tt), .val (.ref b1), .val (.int (0 : Int32)), .val (.int (0 : Int32)), .unset, .unset, .unset] [(.ref b1), (.ref b26), (.ref b26)])
      refine GoW.st (fun _ k => XS.iload X26.here hx rfl (hb hby at_140) rfl k) ?_
      show GoW _ _ _ _ _ _ _ T26 (mkF m 142 #[.val (.int p0), .val (.int p1), .val (.int p2), .val (.int p3), .val (.ref bA), .val (.ref bS), .val (.ref tt), .val (.ref b1), .val (.int (0 : Int32)), .val (.int (0 : Int32)), .unset, .unset, .unset] [(.int (0 : Int32)), (.ref b1), (.ref b26), (.ref b26)])
      obtain ⟨cl31, Ar31, qq31, SS31, NN31, HH31, GG31⟩ := id V_b1__26
      have hin32 : ¬ ((0 : Int32) < 0 ∨ cl31.slots.size ≤ ((0 : Int32)).toNatClampNeg) := inb_of SS31 ⟨by decide, by decide⟩
      refine GoW.st (fun _ k => X26.aaload hx (j := (0 : Int32)) (v := (.ref b2)) (by rw [e26]; exact Ar31.1) (State.isArrayOf_alike hZ.alike Ar31.2.1) rfl Ar31.2.2 hin32 (HH31.at hin32 rfl) (g := (mkF m 142 #[.val (.int p0), .val (.int p1), .val (.int p2), .val (.int p3), .val (.ref bA), .val (.ref bS), .val (.ref tt), .val (.ref b1), .val (.int (0 : Int32)), .val (.int (0 : Int32)), .unset, .unset, .unset] [(.int (0 : Int32)), (.ref b1), (.ref b26), (.ref b26)])) rfl rfl (hb hby at_142) _ k) ?_
      show GoW _ _ _ _ _ _ _ T26 (mkF m 143 #[.val (.int p0), .val (.int p1), .val (.int p2), .val (.int p3), .val (.ref bA), .val (.ref bS), .val (.ref tt), .val (.ref b1), .val (.int (0 : Int32)), .val (.int (0 : Int32)), .unset, .unset, .unset] [(.ref b2), (.ref b26), (.ref b26)])
      obtain ⟨_, _, ⟨T33, L33, k33, n33⟩, -, X33, ⟨Lc33, hQ33, l33, y33, z33⟩, st33⟩ := X26.specialBack hx (y := (⟨"com/example/prudent_checker/prudentchecker/language/VariableReference", "<init>", "(Lcom/example/prudent_checker/prudentchecker/language/Variable;)V"⟩ : MethodName)) rfl hown (mvT hZ (hw _ (List.mem_of_getElem? (i := 57) rfl))) (mvT hZ (hw _ (List.mem_of_getElem? (i := 58) rfl))) (mvT hZ (hw _ (List.mem_of_getElem? (i := 59) rfl))) (by decide) (backOf (W := 1) (rm8 l Z a0 hw [] b26 b2 .null h26 n0 Z26 A26 F_variable_b26 g_b26) hZ (hw _ (List.mem_of_getElem? (i := 59) rfl)) (hw _ (List.mem_of_getElem? (i := 56) rfl)) (by decide) (by decide)) (g := (mkF m 143 #[.val (.int p0), .val (.int p1), .val (.int p2), .val (.int p3), .val (.ref bA), .val (.ref bS), .val (.ref tt), .val (.ref b1), .val (.int (0 : Int32)), .val (.int (0 : Int32)), .unset, .unset, .unset] [(.ref b2), (.ref b26), (.ref b26)])) rfl (by rw [hml]; rfl) (Steps.refl _) (a := b26) (argsL := [(.ref b2)]) (rest := [(.ref b26)]) (lenOf pd_2 rfl) rfl (by show 2 * 0 + _ ≤ _; exact Nat.le_of_eq rfl) (hb hby at_143) (fun _ _ => ⟨rfl, e26, (by decide : 10 + 0 ≤ _), (by decide : 32 + 0 ≤ _)⟩)
      dsimp only [Pt.U, Pt.locs, Pt.cells, Pt.slots] at X33 l33 y33 z33 st33 hQ33
      subst l33 y33 z33
      generalize e33 : T33.heap = h33 at hQ33
      obtain ⟨rfl, N33q, K33, EE33, FF_variable_33⟩ := hQ33
      have N33 := Fr.app N23 N33q
      refine GoW.st (fun _ k => st33.trans k) ?_
      have EE4__33 := EE4__26.keep K33
      have EE11__33 := EE11__26.keep K33
      have EE20__33 := EE20__26.keep K33
      have V_b1__33 := V_b1__26.keep K33 (ninS ne30 (nin0))
      have A26__33 := A26.keep K33
      have Z33 : n0 ≤ h33.size := Nat.le_trans Z26 K33.1
      have hk33 := Nat.le_trans hk26 K33.1
      rw [show (val_8_variable b26 b2 .null) = (.ref b2) from by unfold val_8_variable; rfl] at FF_variable_33
      have F_variable_b26__33 := FF_variable_33
      show GoW _ _ _ _ _ _ _ T33 (mkF m 146 #[.val (.int p0), .val (.int p1), .val (.int p2), .val (.int p3), .val (.ref bA), .val (.ref bS), .val (.ref tt), .val (.ref b1), .val (.int (0 : Int32)), .val (.int (0 : Int32)), .unset, .unset, .unset] [(.ref b26)])
      refine GoW.st (fun _ k => XS.astore X33.here hx rfl (hb hby at_146) rfl rfl (l' := #[.val (.int p0), .val (.int p1), .val (.int p2), .val (.int p3), .val (.ref bA), .val (.ref bS), .val (.ref tt), .val (.ref b1), .val (.int (0 : Int32)), .val (.int (0 : Int32)), .val (.ref b26), .unset, .unset]) rfl k) ?_
      show GoW _ _ _ _ _ _ _ T33 (mkF m 148 #[.val (.int p0), .val (.int p1), .val (.int p2), .val (.int p3), .val (.ref bA), .val (.ref bS), .val (.ref tt), .val (.ref b1), .val (.int (0 : Int32)), .val (.int (0 : Int32)), .val (.ref b26), .unset, .unset] [])
      refine GoW.st (fun _ k => XS.iload X33.here hx rfl (hb hby at_148) rfl k) ?_
      show GoW _ _ _ _ _ _ _ T33 (mkF m 150 #[.val (.int p0), .val (.int p1), .val (.int p2), .val (.int p3), .val (.ref bA), .val (.ref bS), .val (.ref tt), .val (.ref b1), .val (.int (0 : Int32)), .val (.int (0 : Int32)), .val (.ref b26), .unset, .unset] [(.int (0 : Int32))])
      refine GoW.st (fun _ k => XS.iconst X33.here hx rfl (hb hby at_150) k) ?_
      show GoW _ _ _ _ _ _ _ T33 (mkF m 151 #[.val (.int p0), .val (.int p1), .val (.int p2), .val (.int p3), .val (.ref bA), .val (.ref bS), .val (.ref tt), .val (.ref b1), .val (.int (0 : Int32)), .val (.int (0 : Int32)), .val (.ref b26), .unset, .unset] [(.int (3 : Int32)), (.int (0 : Int32))])
      refine GoW.st (fun _ k => XS.icmpNo X33.here hx rfl (hb hby at_151) rfl (tlt (by decide : (0 : Int32) < (3 : Int32))).2.1 k) ?_
      show GoW _ _ _ _ _ _ _ T33 (mkF m 154 #[.val (.int p0), .val (.int p1), .val (.int p2), .val (.int p3), .val (.ref bA), .val (.ref bS), .val (.ref tt), .val (.ref b1), .val (.int (0 : Int32)), .val (.int (0 : Int32)), .val (.ref b26), .unset, .unset] [])
      obtain ⟨T34, h34, X34, e34, E34, A34, D34, -, st34⟩ := newO X33 hx hZ hown (hw _ (List.mem_of_getElem? (i := 54) rfl)) (hw _ (List.mem_of_getElem? (i := 55) rfl)) (hw _ (List.mem_of_getElem? (i := 56) rfl)) e33 (g := (mkF m 154 #[.val (.int p0), .val (.int p1), .val (.int p2), .val (.int p3), .val (.ref bA), .val (.ref bS), .val (.ref tt), .val (.ref b1), .val (.int (0 : Int32)), .val (.int (0 : Int32)), .val (.ref b26), .unset, .unset] [])) rfl (hb hby at_154) (by decide) (by decide)
      obtain ⟨b34, g34⟩ : ∃ z, z = h33.size := ⟨_, rfl⟩
      rw [← g34] at A34 D34 st34
      have ne35 : b2 ≠ b34 := Nat.ne_of_lt (Nat.lt_of_lt_of_le EE4__33.lt (Nat.le_of_eq g34.symm))
      have ne36 : b8 ≠ b34 := Nat.ne_of_lt (Nat.lt_of_lt_of_le EE11__33.lt (Nat.le_of_eq g34.symm))
      have ne37 : b15 ≠ b34 := Nat.ne_of_lt (Nat.lt_of_lt_of_le EE20__33.lt (Nat.le_of_eq g34.symm))
      have ne38 : b1 ≠ b34 := Nat.ne_of_lt (Nat.lt_of_lt_of_le V_b1__33.lt (Nat.le_of_eq g34.symm))
      have ne39 : b26 ≠ b34 := Nat.ne_of_lt (Nat.lt_of_lt_of_le EE33.lt (Nat.le_of_eq g34.symm))
      have g_b34 : n0 ≤ b34 := Nat.le_trans Z33 (Nat.le_of_eq g34.symm)
      have EE4__34 := EE4__33.ext E34
      have EE11__34 := EE11__33.ext E34
      have EE20__34 := EE20__33.ext E34
      have V_b1__34 := V_b1__33.ext E34
      have EE33__34 := EE33.ext E34
      have F_variable_b26__34 := F_variable_b26__33.ext E34
      have Z34 : n0 ≤ h34.size := Nat.le_trans Z33 E34.1
      have hk34 := Nat.le_trans hk33 E34.1
      have F_variable_b34 : Fld Z h34 b34 "com/example/prudent_checker/prudentchecker/language/VariableReference" "variable" "Lcom/example/prudent_checker/prudentchecker/language/Variable;" .null := D34 (Or.inr (hw _ (List.mem_of_getElem? (i := 67) rfl))) (ty := (.object "com/example/prudent_checker/prudentchecker/language/Variable")) (by decide)
      refine GoW.st st34 ?_
      show GoW _ _ _ _ _ _ _ T34 (mkF m 157 #[.val (.int p0), .val (.int p1), .val (.int p2), .val (.int p3), .val (.ref bA), .val (.ref bS), .val (.ref tt), .val (.ref b1), .val (.int (0 : Int32)), .val (.int (0 : Int32)), .val (.ref b26), .unset, .unset] [(.ref b34)])
      refine GoW.st (fun _ k => XS.dup X34.here hx rfl (hb hby at_157) rfl rfl k) ?_
      show GoW _ _ _ _ _ _ _ T34 (mkF m 158 #[.val (.int p0), .val (.int p1), .val (.int p2), .val (.int p3), .val (.ref bA), .val (.ref bS), .val (.ref tt), .val (.ref b1), .val (.int (0 : Int32)), .val (.int (0 : Int32)), .val (.ref b26), .unset, .unset] [(.ref b34), (.ref b34)])
      refine GoW.st (fun _ k => XS.aload X34.here hx rfl (hb hby at_158) rfl rfl k) ?_
      show GoW _ _ _ _ _ _ _ T34 (mkF m 160 #[.val (.int p0), .val (.int p1), .val (.int p2), .val (.int p3), .val (.ref bA), .val (.ref bS), .val (.ref tt), .val (.ref b1), .val (.int (0 : Int32)), .val (.int (0 : Int32)), .val (.ref b26), .unset, .unset] [(.ref b1), (.ref b34), (.ref b34)])
      refine GoW.st (fun _ k => XS.iload X34.here hx rfl (hb hby at_160) rfl k) ?_
      show GoW _ _ _ _ _ _ _ T34 (mkF m 162 #[.val (.int p0), .val (.int p1), .val (.int p2), .val (.int p3), .val (.ref bA), .val (.ref bS), .val (.ref tt), .val (.ref b1), .val (.int (0 : Int32)), .val (.int (0 : Int32)), .val (.ref b26), .unset, .unset] [(.int (0 : Int32)), (.ref b1), (.ref b34), (.ref b34)])
      obtain ⟨cl40, Ar40, qq40, SS40, NN40, HH40, GG40⟩ := id V_b1__34
      have hin41 : ¬ ((0 : Int32) < 0 ∨ cl40.slots.size ≤ ((0 : Int32)).toNatClampNeg) := inb_of SS40 ⟨by decide, by decide⟩
      refine GoW.st (fun _ k => X34.aaload hx (j := (0 : Int32)) (v := (.ref b2)) (by rw [e34]; exact Ar40.1) (State.isArrayOf_alike hZ.alike Ar40.2.1) rfl Ar40.2.2 hin41 (HH40.at hin41 rfl) (g := (mkF m 162 #[.val (.int p0), .val (.int p1), .val (.int p2), .val (.int p3), .val (.ref bA), .val (.ref bS), .val (.ref tt), .val (.ref b1), .val (.int (0 : Int32)), .val (.int (0 : Int32)), .val (.ref b26), .unset, .unset] [(.int (0 : Int32)), (.ref b1), (.ref b34), (.ref b34)])) rfl rfl (hb hby at_162) _ k) ?_
      show GoW _ _ _ _ _ _ _ T34 (mkF m 163 #[.val (.int p0), .val (.int p1), .val (.int p2), .val (.int p3), .val (.ref bA), .val (.ref bS), .val (.ref tt), .val (.ref b1), .val (.int (0 : Int32)), .val (.int (0 : Int32)), .val (.ref b26), .unset, .unset] [(.ref b2), (.ref b34), (.ref b34)])
      obtain ⟨_, _, ⟨T42, L42, k42, n42⟩, -, X42, ⟨Lc42, hQ42, l42, y42, z42⟩, st42⟩ := X34.specialBack hx (y := (⟨"com/example/prudent_checker/prudentchecker/language/VariableReference", "<init>", "(Lcom/example/prudent_checker/prudentchecker/language/Variable;)V"⟩ : MethodName)) rfl hown (mvT hZ (hw _ (List.mem_of_getElem? (i := 57) rfl))) (mvT hZ (hw _ (List.mem_of_getElem? (i := 58) rfl))) (mvT hZ (hw _ (List.mem_of_getElem? (i := 59) rfl))) (by decide) (backOf (W := 1) (rm8 l Z a0 hw [] b34 b2 .null h34 n0 Z34 A34 F_variable_b34 g_b34) hZ (hw _ (List.mem_of_getElem? (i := 59) rfl)) (hw _ (List.mem_of_getElem? (i := 56) rfl)) (by decide) (by decide)) (g := (mkF m 163 #[.val (.int p0), .val (.int p1), .val (.int p2), .val (.int p3), .val (.ref bA), .val (.ref bS), .val (.ref tt), .val (.ref b1), .val (.int (0 : Int32)), .val (.int (0 : Int32)), .val (.ref b26), .unset, .unset] [(.ref b2), (.ref b34), (.ref b34)])) rfl (by rw [hml]; rfl) (Steps.refl _) (a := b34) (argsL := [(.ref b2)]) (rest := [(.ref b34)]) (lenOf pd_2 rfl) rfl (by show 2 * 0 + _ ≤ _; exact Nat.le_of_eq rfl) (hb hby at_163) (fun _ _ => ⟨rfl, e34, (by decide : 11 + 0 ≤ _), (by decide : 33 + 0 ≤ _)⟩)
      dsimp only [Pt.U, Pt.locs, Pt.cells, Pt.slots] at X42 l42 y42 z42 st42 hQ42
      subst l42 y42 z42
      generalize e42 : T42.heap = h42 at hQ42
      obtain ⟨rfl, N42q, K42, EE42, FF_variable_42⟩ := hQ42
      have N42 := Fr.app N33 N42q
      refine GoW.st (fun _ k => st42.trans k) ?_
      have EE4__42 := EE4__34.keep K42
      have EE11__42 := EE11__34.keep K42
      have EE20__42 := EE20__34.keep K42
      have V_b1__42 := V_b1__34.keep K42 (ninS ne38 (nin0))
      have EE33__42 := EE33__34.keep K42
      have F_variable_b26__42 := F_variable_b26__34.keep K42 (ninS ne39 (nin0))
      have A34__42 := A34.keep K42
      have Z42 : n0 ≤ h42.size := Nat.le_trans Z34 K42.1
      have hk42 := Nat.le_trans hk34 K42.1
      rw [show (val_8_variable b34 b2 .null) = (.ref b2) from by unfold val_8_variable; rfl] at FF_variable_42
      have F_variable_b34__42 := FF_variable_42
      show GoW _ _ _ _ _ _ _ T42 (mkF m 166 #[.val (.int p0), .val (.int p1), .val (.int p2), .val (.int p3), .val (.ref bA), .val (.ref bS), .val (.ref tt), .val (.ref b1), .val (.int (0 : Int32)), .val (.int (0 : Int32)), .val (.ref b26), .unset, .unset] [(.ref b34)])
      refine GoW.st (fun _ k => XS.astore X42.here hx rfl (hb hby at_166) rfl rfl (l' := #[.val (.int p0), .val (.int p1), .val (.int p2), .val (.int p3), .val (.ref bA), .val (.ref bS), .val (.ref tt), .val (.ref b1), .val (.int (0 : Int32)), .val (.int (0 : Int32)), .val (.ref b26), .val (.ref b34), .unset]) rfl k) ?_
      show GoW _ _ _ _ _ _ _ T42 (mkF m 168 #[.val (.int p0), .val (.int p1), .val (.int p2), .val (.int p3), .val (.ref bA), .val (.ref bS), .val (.ref tt), .val (.ref b1), .val (.int (0 : Int32)), .val (.int (0 : Int32)), .val (.ref b26), .val (.ref b34), .unset] [])
      refine GoW.st (fun _ k => XS.iload X42.here hx rfl (hb hby at_168) rfl k) ?_
      show GoW _ _ _ _ _ _ _ T42 (mkF m 170 #[.val (.int p0), .val (.int p1), .val (.int p2), .val (.int p3), .val (.ref bA), .val (.ref bS), .val (.ref tt), .val (.ref b1), .val (.int (0 : Int32)), .val (.int (0 : Int32)), .val (.ref b26), .val (.ref b34), .unset] [(.int (0 : Int32))])
      refine GoW.st (fun _ k => XS.iload X42.here hx rfl (hb hby at_170) rfl k) ?_
      show GoW _ _ _ _ _ _ _ T42 (mkF m 172 #[.val (.int p0), .val (.int p1), .val (.int p2), .val (.int p3), .val (.ref bA), .val (.ref bS), .val (.ref tt), .val (.ref b1), .val (.int (0 : Int32)), .val (.int (0 : Int32)), .val (.ref b26), .val (.ref b34), .unset] [(.int (0 : Int32)), (.int (0 : Int32))])
      refine GoW.st (fun _ k => XS.icmpNo X42.here hx rfl (hb hby at_172) rfl (teq (by decide : (0 : Int32) = (0 : Int32))).2 k) ?_
      show GoW _ _ _ _ _ _ _ T42 (mkF m 175 #[.val (.int p0), .val (.int p1), .val (.int p2), .val (.int p3), .val (.ref bA), .val (.ref bS), .val (.ref tt), .val (.ref b1), .val (.int (0 : Int32)), .val (.int (0 : Int32)), .val (.ref b26), .val (.ref b34), .unset] [])
      refine GoW.st (fun _ k => XS.iconst X42.here hx rfl (hb hby at_175) k) ?_
      show GoW _ _ _ _ _ _ _ T42 (mkF m 176 #[.val (.int p0), .val (.int p1), .val (.int p2), .val (.int p3), .val (.ref bA), .val (.ref bS), .val (.ref tt), .val (.ref b1), .val (.int (0 : Int32)), .val (.int (0 : Int32)), .val (.ref b26), .val (.ref b34), .unset] [(.int (1 : Int32))])
      refine GoW.st (fun _ k => XS.goto X42.here hx rfl (pc0 := 176) (pc' := 180) rfl (hb hby at_176) (by decide) (by decide) k) ?_
      show GoW _ _ _ _ _ _ _ T42 (mkF m 180 #[.val (.int p0), .val (.int p1), .val (.int p2), .val (.int p3), .val (.ref bA), .val (.ref bS), .val (.ref tt), .val (.ref b1), .val (.int (0 : Int32)), .val (.int (0 : Int32)), .val (.ref b26), .val (.ref b34), .unset] [(.int (1 : Int32))])
      refine GoW.st (fun _ k => XS.istore X42.here hx rfl (hb hby at_180) rfl (l' := #[.val (.int p0), .val (.int p1), .val (.int p2), .val (.int p3), .val (.ref bA), .val (.ref bS), .val (.ref tt), .val (.ref b1), .val (.int (0 : Int32)), .val (.int (0 : Int32)), .val (.ref b26), .val (.ref b34), .val (.int (1 : Int32))]) rfl k) ?_
      show GoW _ _ _ _ _ _ _ T42 (mkF m 182 #[.val (.int p0), .val (.int p1), .val (.int p2), .val (.int p3), .val (.ref bA), .val (.ref bS), .val (.ref tt), .val (.ref b1), .val (.int (0 : Int32)), .val (.int (0 : Int32)), .val (.ref b26), .val (.ref b34), .val (.int (1 : Int32))] [])
      refine GoW.st (fun _ k => XS.aload X42.here hx rfl (hb hby at_182) rfl rfl k) ?_
      show GoW _ _ _ _ _ _ _ T42 (mkF m 184 #[.val (.int p0), .val (.int p1), .val (.int p2), .val (.int p3), .val (.ref bA), .val (.ref bS), .val (.ref tt), .val (.ref b1), .val (.int (0 : Int32)), .val (.int (0 : Int32)), .val (.ref b26), .val (.ref b34), .val (.int (1 : Int32))] [(.ref b26)])
      refine GoW.st (fun _ k => XS.aload X42.here hx rfl (hb hby at_184) rfl rfl k) ?_
      show GoW _ _ _ _ _ _ _ T42 (mkF m 186 #[.val (.int p0), .val (.int p1), .val (.int p2), .val (.int p3), .val (.ref bA), .val (.ref bS), .val (.ref tt), .val (.ref b1), .val (.int (0 : Int32)), .val (.int (0 : Int32)), .val (.ref b26), .val (.ref b34), .val (.int (1 : Int32))] [(.ref b34), (.ref b26)])
      obtain ⟨cq43, kq43, q43a, q43b, q43c⟩ := isOf hZ e42 EE33__42
      obtain ⟨_, _, ⟨T43, L43, k43, n43⟩, -, X43, ⟨Lc43, hQ43, l43, y43, z43⟩, st43⟩ := X42.virtualBack hx (y := (⟨"com/example/prudent_checker/prudentchecker/language/VariableReference", "equals", "(Ljava/lang/Object;)Z"⟩ : MethodName)) (z := (⟨"com/example/prudent_checker/prudentchecker/language/VariableReference", "equals", "(Ljava/lang/Object;)Z"⟩ : MethodName)) hown (mvT hZ (hw _ (List.mem_of_getElem? (i := 68) rfl))) (mvT hZ (hw _ (List.mem_of_getElem? (i := 69) rfl))) (notFace_of_selects (args := #[]) (mvT hZ (hw _ (List.mem_of_getElem? (i := 71) rfl)))) (mvT hZ (hw _ (List.mem_of_getElem? (i := 71) rfl))) (mvT hZ (hw _ (List.mem_of_getElem? (i := 70) rfl))) (by decide) (backOf (W := 0) (rm10r l Z a0 hw [] b26 b34 b2 b2 h42 n0 Z42 EE42 F_variable_b26__42 F_variable_b34__42) hZ (hw _ (List.mem_of_getElem? (i := 72) rfl)) (hw _ (List.mem_of_getElem? (i := 56) rfl)) (by decide) (by decide)) q43a q43c (g := (mkF m 186 #[.val (.int p0), .val (.int p1), .val (.int p2), .val (.int p3), .val (.ref bA), .val (.ref bS), .val (.ref tt), .val (.ref b1), .val (.int (0 : Int32)), .val (.int (0 : Int32)), .val (.ref b26), .val (.ref b34), .val (.int (1 : Int32))] [(.ref b34), (.ref b26)])) rfl (by rw [hml]; rfl) (Steps.refl _) (argsL := [(.ref b34)]) (rest := []) (lenOf pd_3 rfl) rfl (by show 2 * 0 + _ ≤ _; exact Nat.le_of_eq rfl) (hb hby at_186) (fun _ _ => ⟨rfl, e42, (by decide : 11 + 0 ≤ _), (by decide : 33 + 0 ≤ _)⟩)
      dsimp only [Pt.U, Pt.locs, Pt.cells, Pt.slots] at X43 l43 y43 z43 st43 hQ43
      subst l43 y43 z43
      obtain ⟨rfl, N43q, e43⟩ := hQ43
      have N43 := Fr.app N42 N43q
      refine GoW.st (fun _ k => st43.trans k) ?_
      show GoW _ _ _ _ _ _ _ T43 (mkF m 189 #[.val (.int p0), .val (.int p1), .val (.int p2), .val (.int p3), .val (.ref bA), .val (.ref bS), .val (.ref tt), .val (.ref b1), .val (.int (0 : Int32)), .val (.int (0 : Int32)), .val (.ref b26), .val (.ref b34), .val (.int (1 : Int32))] [(.int (val_10r b26 b34 b2 b2))])
      rw [show (val_10r b26 b34 b2 b2) = (1 : Int32) from by unfold val_10r; rw [if_pos rfl]]
      show GoW _ _ _ _ _ _ _ T43 (mkF m 189 #[.val (.int p0), .val (.int p1), .val (.int p2), .val (.int p3), .val (.ref bA), .val (.ref bS), .val (.ref tt), .val (.ref b1), .val (.int (0 : Int32)), .val (.int (0 : Int32)), .val (.ref b26), .val (.ref b34), .val (.int (1 : Int32))] [(.int (1 : Int32))])
      refine GoW.st (fun _ k => XS.iload X43.here hx rfl (hb hby at_189) rfl k) ?_
      show GoW _ _ _ _ _ _ _ T43 (mkF m 191 #[.val (.int p0), .val (.int p1), .val (.int p2), .val (.int p3), .val (.ref bA), .val (.ref bS), .val (.ref tt), .val (.ref b1), .val (.int (0 : Int32)), .val (.int (0 : Int32)), .val (.ref b26), .val (.ref b34), .val (.int (1 : Int32))] [(.int (1 : Int32)), (.int (1 : Int32))])
      refine GoW.st (fun _ k => XS.icmpNo X43.here hx rfl (hb hby at_191) rfl (teq (by decide : (1 : Int32) = (1 : Int32))).2 k) ?_
      show GoW _ _ _ _ _ _ _ T43 (mkF m 194 #[.val (.int p0), .val (.int p1), .val (.int p2), .val (.int p3), .val (.ref bA), .val (.ref bS), .val (.ref tt), .val (.ref b1), .val (.int (0 : Int32)), .val (.int (0 : Int32)), .val (.ref b26), .val (.ref b34), .val (.int (1 : Int32))] [])
      refine GoW.st (fun _ k => XS.aload X43.here hx rfl (hb hby at_194) rfl rfl k) ?_
      show GoW _ _ _ _ _ _ _ T43 (mkF m 196 #[.val (.int p0), .val (.int p1), .val (.int p2), .val (.int p3), .val (.ref bA), .val (.ref bS), .val (.ref tt), .val (.ref b1), .val (.int (0 : Int32)), .val (.int (0 : Int32)), .val (.ref b26), .val (.ref b34), .val (.int (1 : Int32))] [(.ref b34)])
      refine GoW.st (fun _ k => XS.aload X43.here hx rfl (hb hby at_196) rfl rfl k) ?_
      show GoW _ _ _ _ _ _ _ T43 (mkF m 198 #[.val (.int p0), .val (.int p1), .val (.int p2), .val (.int p3), .val (.ref bA), .val (.ref bS), .val (.ref tt), .val (.ref b1), .val (.int (0 : Int32)), .val (.int (0 : Int32)), .val (.ref b26), .val (.ref b34), .val (.int (1 : Int32))] [(.ref b26), (.ref b34)])
      obtain ⟨cq44, kq44, q44a, q44b, q44c⟩ := isOf hZ e43 EE42
      obtain ⟨_, _, ⟨T44, L44, k44, n44⟩, -, X44, ⟨Lc44, hQ44, l44, y44, z44⟩, st44⟩ := X43.virtualBack hx (y := (⟨"com/example/prudent_checker/prudentchecker/language/VariableReference", "equals", "(Ljava/lang/Object;)Z"⟩ : MethodName)) (z := (⟨"com/example/prudent_checker/prudentchecker/language/VariableReference", "equals", "(Ljava/lang/Object;)Z"⟩ : MethodName)) hown (mvT hZ (hw _ (List.mem_of_getElem? (i := 68) rfl))) (mvT hZ (hw _ (List.mem_of_getElem? (i := 69) rfl))) (notFace_of_selects (args := #[]) (mvT hZ (hw _ (List.mem_of_getElem? (i := 71) rfl)))) (mvT hZ (hw _ (List.mem_of_getElem? (i := 71) rfl))) (mvT hZ (hw _ (List.mem_of_getElem? (i := 70) rfl))) (by decide) (backOf (W := 0) (rm10r l Z a0 hw [] b34 b26 b2 b2 h42 n0 Z42 EE33__42 F_variable_b34__42 F_variable_b26__42) hZ (hw _ (List.mem_of_getElem? (i := 72) rfl)) (hw _ (List.mem_of_getElem? (i := 56) rfl)) (by decide) (by decide)) q44a q44c (g := (mkF m 198 #[.val (.int p0), .val (.int p1), .val (.int p2), .val (.int p3), .val (.ref bA), .val (.ref bS), .val (.ref tt), .val (.ref b1), .val (.int (0 : Int32)), .val (.int (0 : Int32)), .val (.ref b26), .val (.ref b34), .val (.int (1 : Int32))] [(.ref b26), (.ref b34)])) rfl (by rw [hml]; rfl) (Steps.refl _) (argsL := [(.ref b26)]) (rest := []) (lenOf pd_3 rfl) rfl (by show 2 * 0 + _ ≤ _; exact Nat.le_of_eq rfl) (hb hby at_198) (fun _ _ => ⟨rfl, e43, (by decide : 11 + 0 ≤ _), (by decide : 33 + 0 ≤ _)⟩)
      dsimp only [Pt.U, Pt.locs, Pt.cells, Pt.slots] at X44 l44 y44 z44 st44 hQ44
      subst l44 y44 z44
      obtain ⟨rfl, N44q, e44⟩ := hQ44
      have N44 := Fr.app N43 N44q
      refine GoW.st (fun _ k => st44.trans k) ?_
      show GoW _ _ _ _ _ _ _ T44 (mkF m 201 #[.val (.int p0), .val (.int p1), .val (.int p2), .val (.int p3), .val (.ref bA), .val (.ref bS), .val (.ref tt), .val (.ref b1), .val (.int (0 : Int32)), .val (.int (0 : Int32)), .val (.ref b26), .val (.ref b34), .val (.int (1 : Int32))] [(.int (val_10r b34 b26 b2 b2))])
      rw [show (val_10r b34 b26 b2 b2) = (1 : Int32) from by unfold val_10r; rw [if_pos rfl]]
      show GoW _ _ _ _ _ _ _ T44 (mkF m 201 #[.val (.int p0), .val (.int p1), .val (.int p2), .val (.int p3), .val (.ref bA), .val (.ref bS), .val (.ref tt), .val (.ref b1), .val (.int (0 : Int32)), .val (.int (0 : Int32)), .val (.ref b26), .val (.ref b34), .val (.int (1 : Int32))] [(.int (1 : Int32))])
      refine GoW.st (fun _ k => XS.iload X44.here hx rfl (hb hby at_201) rfl k) ?_
      show GoW _ _ _ _ _ _ _ T44 (mkF m 203 #[.val (.int p0), .val (.int p1), .val (.int p2), .val (.int p3), .val (.ref bA), .val (.ref bS), .val (.ref tt), .val (.ref b1), .val (.int (0 : Int32)), .val (.int (0 : Int32)), .val (.ref b26), .val (.ref b34), .val (.int (1 : Int32))] [(.int (1 : Int32)), (.int (1 : Int32))])
      refine GoW.st (fun _ k => XS.icmpNo X44.here hx rfl (hb hby at_203) rfl (teq (by decide : (1 : Int32) = (1 : Int32))).2 k) ?_
      show GoW _ _ _ _ _ _ _ T44 (mkF m 206 #[.val (.int p0), .val (.int p1), .val (.int p2), .val (.int p3), .val (.ref bA), .val (.ref bS), .val (.ref tt), .val (.ref b1), .val (.int (0 : Int32)), .val (.int (0 : Int32)), .val (.ref b26), .val (.ref b34), .val (.int (1 : Int32))] [])
      refine GoW.st (fun _ k => XS.iconst X44.here hx rfl (hb hby at_206) k) ?_
      show GoW _ _ _ _ _ _ _ T44 (mkF m 207 #[.val (.int p0), .val (.int p1), .val (.int p2), .val (.int p3), .val (.ref bA), .val (.ref bS), .val (.ref tt), .val (.ref b1), .val (.int (0 : Int32)), .val (.int (0 : Int32)), .val (.ref b26), .val (.ref b34), .val (.int (1 : Int32))] [(.int (1 : Int32))])
      refine GoW.st (fun _ k => XS.goto X44.here hx rfl (pc0 := 207) (pc' := 211) rfl (hb hby at_207) (by decide) (by decide) k) ?_
      show GoW _ _ _ _ _ _ _ T44 (mkF m 211 #[.val (.int p0), .val (.int p1), .val (.int p2), .val (.int p3), .val (.ref bA), .val (.ref bS), .val (.ref tt), .val (.ref b1), .val (.int (0 : Int32)), .val (.int (0 : Int32)), .val (.ref b26), .val (.ref b34), .val (.int (1 : Int32))] [(.int (1 : Int32))])
      refine GoW.ret X44 hS (by rw [e44]; exact hk42) hlk (v := some (.int (1 : Int32))) (fun h => by rw [hret] at h; cases h) (fun fs hr => retN X44 hx (t := .boolean) hret (by simp) (hb hby at_211) hr) ?_ (by decide) (by decide)
      show Q0 Z p0 p1 p2 p3 w_BYTE w_INT G1 h0 n0 (some (.int (1 : Int32))) T44.heap _
      rw [e44]
      exact ⟨rfl, N44⟩
    · rw [hk25]
      show GoW _ _ _ _ _ _ _ T23 (mkF m 132 #[.val (.int p0), .val (.int p1), .val (.int p2), .val (.int p3), .val (.ref bA), .val (.ref bS), .val (.ref tt), .val (.ref b1), .val (.int (0 : Int32)), .unset, .unset, .unset, .unset] [(.int (1 : Int32))])
      refine GoW.st (fun _ k => XS.istore X23.here hx rfl (hb hby at_132) rfl (l' := #[.val (.int p0), .val (.int p1), .val (.int p2), .val (.int p3), .val (.ref bA), .val (.ref bS), .val (.ref tt), .val (.ref b1), .val (.int (0 : Int32)), .val (.int (1 : Int32)), .unset, .unset, .unset]) rfl k) ?_
      show GoW _ _ _ _ _ _ _ T23 (mkF m 134 #[.val (.int p0), .val (.int p1), .val (.int p2), .val (.int p3), .val (.ref bA), .val (.ref bS), .val (.ref tt), .val (.ref b1), .val (.int (0 : Int32)), .val (.int (1 : Int32)), .unset, .unset, .unset] [])
      obtain ⟨T45, h45, X45, e45, E45, A45, D45, -, st45⟩ := newO X23 hx hZ hown (hw _ (List.mem_of_getElem? (i := 54) rfl)) (hw _ (List.mem_of_getElem? (i := 55) rfl)) (hw _ (List.mem_of_getElem? (i := 56) rfl)) e23 (g := (mkF m 134 #[.val (.int p0), .val (.int p1), .val (.int p2), .val (.int p3), .val (.ref bA), .val (.ref bS), .val (.ref tt), .val (.ref b1), .val (.int (0 : Int32)), .val (.int (1 : Int32)), .unset, .unset, .unset] [])) rfl (hb hby at_134) (by decide) (by decide)
      obtain ⟨b45, g45⟩ : ∃ z, z = h23.size := ⟨_, rfl⟩
      rw [← g45] at A45 D45 st45
      have ne46 : b2 ≠ b45 := Nat.ne_of_lt (Nat.lt_of_lt_of_le EE4__23.lt (Nat.le_of_eq g45.symm))
      have ne47 : b8 ≠ b45 := Nat.ne_of_lt (Nat.lt_of_lt_of_le EE11__23.lt (Nat.le_of_eq g45.symm))
      have ne48 : b15 ≠ b45 := Nat.ne_of_lt (Nat.lt_of_lt_of_le EE20__23.lt (Nat.le_of_eq g45.symm))
      have ne49 : b1 ≠ b45 := Nat.ne_of_lt (Nat.lt_of_lt_of_le V_b1__23.lt (Nat.le_of_eq g45.symm))
      have g_b45 : n0 ≤ b45 := Nat.le_trans Z23 (Nat.le_of_eq g45.symm)
      have EE4__45 := EE4__23.ext E45
      have EE11__45 := EE11__23.ext E45
      have EE20__45 := EE20__23.ext E45
      have V_b1__45 := V_b1__23.ext E45
      have Z45 : n0 ≤ h45.size := Nat.le_trans Z23 E45.1
      have hk45 := Nat.le_trans hk23 E45.1
      have F_variable_b45 : Fld Z h45 b45 "com/example/prudent_checker/prudentchecker/language/VariableReference" "variable" "Lcom/example/prudent_checker/prudentchecker/language/Variable;" .null := D45 (Or.inr (hw _ (List.mem_of_getElem? (i := 67) rfl))) (ty := (.object "com/example/prudent_checker/prudentchecker/language/Variable")) (by decide)
      refine GoW.st st45 ?_
      show GoW _ _ _ _ _ _ _ T45 (mkF m 137 #[.val (.int p0), .val (.int p1), .val (.int p2), .val (.int p3), .val (.ref bA), .val (.ref bS), .val (.ref tt), .val (.ref b1), .val (.int (0 : Int32)), .val (.int (1 : Int32)), .unset, .unset, .unset] [(.ref b45)])
      refine GoW.st (fun _ k => XS.dup X45.here hx rfl (hb hby at_137) rfl rfl k) ?_
      show GoW _ _ _ _ _ _ _ T45 (mkF m 138 #[.val (.int p0), .val (.int p1), .val (.int p2), .val (.int p3), .val (.ref bA), .val (.ref bS), .val (.ref tt), .val (.ref b1), .val (.int (0 : Int32)), .val (.int (1 : Int32)), .unset, .unset, .unset] [(.ref b45), (.ref b45)])
      refine GoW.st (fun _ k => XS.aload X45.here hx rfl (hb hby at_138) rfl rfl k) ?_
      show GoW _ _ _ _ _ _ _ T45 (mkF m 140 #[.val (.int p0), .val (.int p1), .val (.int p2), .val (.int p3), .val (.ref bA), .val (.ref bS), .val (.ref tt), .val (.ref b1), .val (.int (0 : Int32)), .val (.int (1 : Int32)), .unset, .unset, .unset] [(.ref b1), (.ref b45), (.ref b45)])
      refine GoW.st (fun _ k => XS.iload X45.here hx rfl (hb hby at_140) rfl k) ?_
      show GoW _ _ _ _ _ _ _ T45 (mkF m 142 #[.val (.int p0), .val (.int p1), .val (.int p2), .val (.int p3), .val (.ref bA), .val (.ref bS), .val (.ref tt), .val (.ref b1), .val (.int (0 : Int32)), .val (.int (1 : Int32)), .unset, .unset, .unset] [(.int (0 : Int32)), (.ref b1), (.ref b45), (.ref b45)])
      obtain ⟨cl50, Ar50, qq50, SS50, NN50, HH50, GG50⟩ := id V_b1__45
      have hin51 : ¬ ((0 : Int32) < 0 ∨ cl50.slots.size ≤ ((0 : Int32)).toNatClampNeg) := inb_of SS50 ⟨by decide, by decide⟩
      refine GoW.st (fun _ k => X45.aaload hx (j := (0 : Int32)) (v := (.ref b2)) (by rw [e45]; exact Ar50.1) (State.isArrayOf_alike hZ.alike Ar50.2.1) rfl Ar50.2.2 hin51 (HH50.at hin51 rfl) (g := (mkF m 142 #[.val (.int p0), .val (.int p1), .val (.int p2), .val (.int p3), .val (.ref bA), .val (.ref bS), .val (.ref tt), .val (.ref b1), .val (.int (0 : Int32)), .val (.int (1 : Int32)), .unset, .unset, .unset] [(.int (0 : Int32)), (.ref b1), (.ref b45), (.ref b45)])) rfl rfl (hb hby at_142) _ k) ?_
      show GoW _ _ _ _ _ _ _ T45 (mkF m 143 #[.val (.int p0), .val (.int p1), .val (.int p2), .val (.int p3), .val (.ref bA), .val (.ref bS), .val (.ref tt), .val (.ref b1), .val (.int (0 : Int32)), .val (.int (1 : Int32)), .unset, .unset, .unset] [(.ref b2), (.ref b45), (.ref b45)])
      obtain ⟨_, _, ⟨T52, L52, k52, n52⟩, -, X52, ⟨Lc52, hQ52, l52, y52, z52⟩, st52⟩ := X45.specialBack hx (y := (⟨"com/example/prudent_checker/prudentchecker/language/VariableReference", "<init>", "(Lcom/example/prudent_checker/prudentchecker/language/Variable;)V"⟩ : MethodName)) rfl hown (mvT hZ (hw _ (List.mem_of_getElem? (i := 57) rfl))) (mvT hZ (hw _ (List.mem_of_getElem? (i := 58) rfl))) (mvT hZ (hw _ (List.mem_of_getElem? (i := 59) rfl))) (by decide) (backOf (W := 1) (rm8 l Z a0 hw [] b45 b2 .null h45 n0 Z45 A45 F_variable_b45 g_b45) hZ (hw _ (List.mem_of_getElem? (i := 59) rfl)) (hw _ (List.mem_of_getElem? (i := 56) rfl)) (by decide) (by decide)) (g := (mkF m 143 #[.val (.int p0), .val (.int p1), .val (.int p2), .val (.int p3), .val (.ref bA), .val (.ref bS), .val (.ref tt), .val (.ref b1), .val (.int (0 : Int32)), .val (.int (1 : Int32)), .unset, .unset, .unset] [(.ref b2), (.ref b45), (.ref b45)])) rfl (by rw [hml]; rfl) (Steps.refl _) (a := b45) (argsL := [(.ref b2)]) (rest := [(.ref b45)]) (lenOf pd_2 rfl) rfl (by show 2 * 0 + _ ≤ _; exact Nat.le_of_eq rfl) (hb hby at_143) (fun _ _ => ⟨rfl, e45, (by decide : 10 + 0 ≤ _), (by decide : 32 + 0 ≤ _)⟩)
      dsimp only [Pt.U, Pt.locs, Pt.cells, Pt.slots] at X52 l52 y52 z52 st52 hQ52
      subst l52 y52 z52
      generalize e52 : T52.heap = h52 at hQ52
      obtain ⟨rfl, N52q, K52, EE52, FF_variable_52⟩ := hQ52
      have N52 := Fr.app N23 N52q
      refine GoW.st (fun _ k => st52.trans k) ?_
      have EE4__52 := EE4__45.keep K52
      have EE11__52 := EE11__45.keep K52
      have EE20__52 := EE20__45.keep K52
      have V_b1__52 := V_b1__45.keep K52 (ninS ne49 (nin0))
      have A45__52 := A45.keep K52
      have Z52 : n0 ≤ h52.size := Nat.le_trans Z45 K52.1
      have hk52 := Nat.le_trans hk45 K52.1
      rw [show (val_8_variable b45 b2 .null) = (.ref b2) from by unfold val_8_variable; rfl] at FF_variable_52
      have F_variable_b45__52 := FF_variable_52
      show GoW _ _ _ _ _ _ _ T52 (mkF m 146 #[.val (.int p0), .val (.int p1), .val (.int p2), .val (.int p3), .val (.ref bA), .val (.ref bS), .val (.ref tt), .val (.ref b1), .val (.int (0 : Int32)), .val (.int (1 : Int32)), .unset, .unset, .unset] [(.ref b45)])
      refine GoW.st (fun _ k => XS.astore X52.here hx rfl (hb hby at_146) rfl rfl (l' := #[.val (.int p0), .val (.int p1), .val (.int p2), .val (.int p3), .val (.ref bA), .val (.ref bS), .val (.ref tt), .val (.ref b1), .val (.int (0 : Int32)), .val (.int (1 : Int32)), .val (.ref b45), .unset, .unset]) rfl k) ?_
      show GoW _ _ _ _ _ _ _ T52 (mkF m 148 #[.val (.int p0), .val (.int p1), .val (.int p2), .val (.int p3), .val (.ref bA), .val (.ref bS), .val (.ref tt), .val (.ref b1), .val (.int (0 : Int32)), .val (.int (1 : Int32)), .val (.ref b45), .unset, .unset] [])
      refine GoW.st (fun _ k => XS.iload X52.here hx rfl (hb hby at_148) rfl k) ?_
      show GoW _ _ _ _ _ _ _ T52 (mkF m 150 #[.val (.int p0), .val (.int p1), .val (.int p2), .val (.int p3), .val (.ref bA), .val (.ref bS), .val (.ref tt), .val (.ref b1), .val (.int (0 : Int32)), .val (.int (1 : Int32)), .val (.ref b45), .unset, .unset] [(.int (1 : Int32))])
      refine GoW.st (fun _ k => XS.iconst X52.here hx rfl (hb hby at_150) k) ?_
      show GoW _ _ _ _ _ _ _ T52 (mkF m 151 #[.val (.int p0), .val (.int p1), .val (.int p2), .val (.int p3), .val (.ref bA), .val (.ref bS), .val (.ref tt), .val (.ref b1), .val (.int (0 : Int32)), .val (.int (1 : Int32)), .val (.ref b45), .unset, .unset] [(.int (3 : Int32)), (.int (1 : Int32))])
      refine GoW.st (fun _ k => XS.icmpNo X52.here hx rfl (hb hby at_151) rfl (tlt (by decide : (1 : Int32) < (3 : Int32))).2.1 k) ?_
      show GoW _ _ _ _ _ _ _ T52 (mkF m 154 #[.val (.int p0), .val (.int p1), .val (.int p2), .val (.int p3), .val (.ref bA), .val (.ref bS), .val (.ref tt), .val (.ref b1), .val (.int (0 : Int32)), .val (.int (1 : Int32)), .val (.ref b45), .unset, .unset] [])
      obtain ⟨T53, h53, X53, e53, E53, A53, D53, -, st53⟩ := newO X52 hx hZ hown (hw _ (List.mem_of_getElem? (i := 54) rfl)) (hw _ (List.mem_of_getElem? (i := 55) rfl)) (hw _ (List.mem_of_getElem? (i := 56) rfl)) e52 (g := (mkF m 154 #[.val (.int p0), .val (.int p1), .val (.int p2), .val (.int p3), .val (.ref bA), .val (.ref bS), .val (.ref tt), .val (.ref b1), .val (.int (0 : Int32)), .val (.int (1 : Int32)), .val (.ref b45), .unset, .unset] [])) rfl (hb hby at_154) (by decide) (by decide)
      obtain ⟨b53, g53⟩ : ∃ z, z = h52.size := ⟨_, rfl⟩
      rw [← g53] at A53 D53 st53
      have ne54 : b2 ≠ b53 := Nat.ne_of_lt (Nat.lt_of_lt_of_le EE4__52.lt (Nat.le_of_eq g53.symm))
      have ne55 : b8 ≠ b53 := Nat.ne_of_lt (Nat.lt_of_lt_of_le EE11__52.lt (Nat.le_of_eq g53.symm))
      have ne56 : b15 ≠ b53 := Nat.ne_of_lt (Nat.lt_of_lt_of_le EE20__52.lt (Nat.le_of_eq g53.symm))
      have ne57 : b1 ≠ b53 := Nat.ne_of_lt (Nat.lt_of_lt_of_le V_b1__52.lt (Nat.le_of_eq g53.symm))
      have ne58 : b45 ≠ b53 := Nat.ne_of_lt (Nat.lt_of_lt_of_le EE52.lt (Nat.le_of_eq g53.symm))
      have g_b53 : n0 ≤ b53 := Nat.le_trans Z52 (Nat.le_of_eq g53.symm)
      have EE4__53 := EE4__52.ext E53
      have EE11__53 := EE11__52.ext E53
      have EE20__53 := EE20__52.ext E53
      have V_b1__53 := V_b1__52.ext E53
      have EE52__53 := EE52.ext E53
      have F_variable_b45__53 := F_variable_b45__52.ext E53
      have Z53 : n0 ≤ h53.size := Nat.le_trans Z52 E53.1
      have hk53 := Nat.le_trans hk52 E53.1
      have F_variable_b53 : Fld Z h53 b53 "com/example/prudent_checker/prudentchecker/language/VariableReference" "variable" "Lcom/example/prudent_checker/prudentchecker/language/Variable;" .null := D53 (Or.inr (hw _ (List.mem_of_getElem? (i := 67) rfl))) (ty := (.object "com/example/prudent_checker/prudentchecker/language/Variable")) (by decide)
      refine GoW.st st53 ?_
      show GoW _ _ _ _ _ _ _ T53 (mkF m 157 #[.val (.int p0), .val (.int p1), .val (.int p2), .val (.int p3), .val (.ref bA), .val (.ref bS), .val (.ref tt), .val (.ref b1), .val (.int (0 : Int32)), .val (.int (1 : Int32)), .val (.ref b45), .unset, .unset] [(.ref b53)])
      refine GoW.st (fun _ k => XS.dup X53.here hx rfl (hb hby at_157) rfl rfl k) ?_
      show GoW _ _ _ _ _ _ _ T53 (mkF m 158 #[.val (.int p0), .val (.int p1), .val (.int p2), .val (.int p3), .val (.ref bA), .val (.ref bS), .val (.ref tt), .val (.ref b1), .val (.int (0 : Int32)), .val (.int (1 : Int32)), .val (.ref b45), .unset, .unset] [(.ref b53), (.ref b53)])
      refine GoW.st (fun _ k => XS.aload X53.here hx rfl (hb hby at_158) rfl rfl k) ?_
      show GoW _ _ _ _ _ _ _ T53 (mkF m 160 #[.val (.int p0), .val (.int p1), .val (.int p2), .val (.int p3), .val (.ref bA), .val (.ref bS), .val (.ref tt), .val (.ref b1), .val (.int (0 : Int32)), .val (.int (1 : Int32)), .val (.ref b45), .unset, .unset] [(.ref b1), (.ref b53), (.ref b53)])
      refine GoW.st (fun _ k => XS.iload X53.here hx rfl (hb hby at_160) rfl k) ?_
      show GoW _ _ _ _ _ _ _ T53 (mkF m 162 #[.val (.int p0), .val (.int p1), .val (.int p2), .val (.int p3), .val (.ref bA), .val (.ref bS), .val (.ref tt), .val (.ref b1), .val (.int (0 : Int32)), .val (.int (1 : Int32)), .val (.ref b45), .unset, .unset] [(.int (1 : Int32)), (.ref b1), (.ref b53), (.ref b53)])
      obtain ⟨cl59, Ar59, qq59, SS59, NN59, HH59, GG59⟩ := id V_b1__53
      have hin60 : ¬ ((1 : Int32) < 0 ∨ cl59.slots.size ≤ ((1 : Int32)).toNatClampNeg) := inb_of SS59 ⟨by decide, by decide⟩
      refine GoW.st (fun _ k => X53.aaload hx (j := (1 : Int32)) (v := (.ref b8)) (by rw [e53]; exact Ar59.1) (State.isArrayOf_alike hZ.alike Ar59.2.1) rfl Ar59.2.2 hin60 (HH59.at hin60 rfl) (g := (mkF m 162 #[.val (.int p0), .val (.int p1), .val (.int p2), .val (.int p3), .val (.ref bA), .val (.ref bS), .val (.ref tt), .val (.ref b1), .val (.int (0 : Int32)), .val (.int (1 : Int32)), .val (.ref b45), .unset, .unset] [(.int (1 : Int32)), (.ref b1), (.ref b53), (.ref b53)])) rfl rfl (hb hby at_162) _ k) ?_
      show GoW _ _ _ _ _ _ _ T53 (mkF m 163 #[.val (.int p0), .val (.int p1), .val (.int p2), .val (.int p3), .val (.ref bA), .val (.ref bS), .val (.ref tt), .val (.ref b1), .val (.int (0 : Int32)), .val (.int (1 : Int32)), .val (.ref b45), .unset, .unset] [(.ref b8), (.ref b53), (.ref b53)])
      obtain ⟨_, _, ⟨T61, L61, k61, n61⟩, -, X61, ⟨Lc61, hQ61, l61, y61, z61⟩, st61⟩ := X53.specialBack hx (y := (⟨"com/example/prudent_checker/prudentchecker/language/VariableReference", "<init>", "(Lcom/example/prudent_checker/prudentchecker/language/Variable;)V"⟩ : MethodName)) rfl hown (mvT hZ (hw _ (List.mem_of_getElem? (i := 57) rfl))) (mvT hZ (hw _ (List.mem_of_getElem? (i := 58) rfl))) (mvT hZ (hw _ (List.mem_of_getElem? (i := 59) rfl))) (by decide) (backOf (W := 1) (rm8 l Z a0 hw [] b53 b8 .null h53 n0 Z53 A53 F_variable_b53 g_b53) hZ (hw _ (List.mem_of_getElem? (i := 59) rfl)) (hw _ (List.mem_of_getElem? (i := 56) rfl)) (by decide) (by decide)) (g := (mkF m 163 #[.val (.int p0), .val (.int p1), .val (.int p2), .val (.int p3), .val (.ref bA), .val (.ref bS), .val (.ref tt), .val (.ref b1), .val (.int (0 : Int32)), .val (.int (1 : Int32)), .val (.ref b45), .unset, .unset] [(.ref b8), (.ref b53), (.ref b53)])) rfl (by rw [hml]; rfl) (Steps.refl _) (a := b53) (argsL := [(.ref b8)]) (rest := [(.ref b53)]) (lenOf pd_2 rfl) rfl (by show 2 * 0 + _ ≤ _; exact Nat.le_of_eq rfl) (hb hby at_163) (fun _ _ => ⟨rfl, e53, (by decide : 11 + 0 ≤ _), (by decide : 33 + 0 ≤ _)⟩)
      dsimp only [Pt.U, Pt.locs, Pt.cells, Pt.slots] at X61 l61 y61 z61 st61 hQ61
      subst l61 y61 z61
      generalize e61 : T61.heap = h61 at hQ61
      obtain ⟨rfl, N61q, K61, EE61, FF_variable_61⟩ := hQ61
      have N61 := Fr.app N52 N61q
      refine GoW.st (fun _ k => st61.trans k) ?_
      have EE4__61 := EE4__53.keep K61
      have EE11__61 := EE11__53.keep K61
      have EE20__61 := EE20__53.keep K61
      have V_b1__61 := V_b1__53.keep K61 (ninS ne57 (nin0))
      have EE52__61 := EE52__53.keep K61
      have F_variable_b45__61 := F_variable_b45__53.keep K61 (ninS ne58 (nin0))
      have A53__61 := A53.keep K61
      have Z61 : n0 ≤ h61.size := Nat.le_trans Z53 K61.1
      have hk61 := Nat.le_trans hk53 K61.1
      rw [show (val_8_variable b53 b8 .null) = (.ref b8) from by unfold val_8_variable; rfl] at FF_variable_61
      have F_variable_b53__61 := FF_variable_61
      show GoW _ _ _ _ _ _ _ T61 (mkF m 166 #[.val (.int p0), .val (.int p1), .val (.int p2), .val (.int p3), .val (.ref bA), .val (.ref bS), .val (.ref tt), .val (.ref b1), .val (.int (0 : Int32)), .val (.int (1 : Int32)), .val (.ref b45), .unset, .unset] [(.ref b53)])
      refine GoW.st (fun _ k => XS.astore X61.here hx rfl (hb hby at_166) rfl rfl (l' := #[.val (.int p0), .val (.int p1), .val (.int p2), .val (.int p3), .val (.ref bA), .val (.ref bS), .val (.ref tt), .val (.ref b1), .val (.int (0 : Int32)), .val (.int (1 : Int32)), .val (.ref b45), .val (.ref b53), .unset]) rfl k) ?_
      show GoW _ _ _ _ _ _ _ T61 (mkF m 168 #[.val (.int p0), .val (.int p1), .val (.int p2), .val (.int p3), .val (.ref bA), .val (.ref bS), .val (.ref tt), .val (.ref b1), .val (.int (0 : Int32)), .val (.int (1 : Int32)), .val (.ref b45), .val (.ref b53), .unset] [])
      refine GoW.st (fun _ k => XS.iload X61.here hx rfl (hb hby at_168) rfl k) ?_
      show GoW _ _ _ _ _ _ _ T61 (mkF m 170 #[.val (.int p0), .val (.int p1), .val (.int p2), .val (.int p3), .val (.ref bA), .val (.ref bS), .val (.ref tt), .val (.ref b1), .val (.int (0 : Int32)), .val (.int (1 : Int32)), .val (.ref b45), .val (.ref b53), .unset] [(.int (0 : Int32))])
      refine GoW.st (fun _ k => XS.iload X61.here hx rfl (hb hby at_170) rfl k) ?_
      show GoW _ _ _ _ _ _ _ T61 (mkF m 172 #[.val (.int p0), .val (.int p1), .val (.int p2), .val (.int p3), .val (.ref bA), .val (.ref bS), .val (.ref tt), .val (.ref b1), .val (.int (0 : Int32)), .val (.int (1 : Int32)), .val (.ref b45), .val (.ref b53), .unset] [(.int (1 : Int32)), (.int (0 : Int32))])
      refine GoW.st (fun _ k => XS.icmpYes X61.here hx rfl (pc0 := 172) (pc' := 179) rfl (hb hby at_172) rfl (feq (by decide : ¬ ((0 : Int32) = (1 : Int32)))).2 (by decide) (by decide) k) ?_
      show GoW _ _ _ _ _ _ _ T61 (mkF m 179 #[.val (.int p0), .val (.int p1), .val (.int p2), .val (.int p3), .val (.ref bA), .val (.ref bS), .val (.ref tt), .val (.ref b1), .val (.int (0 : Int32)), .val (.int (1 : Int32)), .val (.ref b45), .val (.ref b53), .unset] [])
      refine GoW.st (fun _ k => XS.iconst X61.here hx rfl (hb hby at_179) k) ?_
      show GoW _ _ _ _ _ _ _ T61 (mkF m 180 #[.val (.int p0), .val (.int p1), .val (.int p2), .val (.int p3), .val (.ref bA), .val (.ref bS), .val (.ref tt), .val (.ref b1), .val (.int (0 : Int32)), .val (.int (1 : Int32)), .val (.ref b45), .val (.ref b53), .unset] [(.int (0 : Int32))])
      refine GoW.st (fun _ k => XS.istore X61.here hx rfl (hb hby at_180) rfl (l' := #[.val (.int p0), .val (.int p1), .val (.int p2), .val (.int p3), .val (.ref bA), .val (.ref bS), .val (.ref tt), .val (.ref b1), .val (.int (0 : Int32)), .val (.int (1 : Int32)), .val (.ref b45), .val (.ref b53), .val (.int (0 : Int32))]) rfl k) ?_
      show GoW _ _ _ _ _ _ _ T61 (mkF m 182 #[.val (.int p0), .val (.int p1), .val (.int p2), .val (.int p3), .val (.ref bA), .val (.ref bS), .val (.ref tt), .val (.ref b1), .val (.int (0 : Int32)), .val (.int (1 : Int32)), .val (.ref b45), .val (.ref b53), .val (.int (0 : Int32))] [])
      refine GoW.st (fun _ k => XS.aload X61.here hx rfl (hb hby at_182) rfl rfl k) ?_
      show GoW _ _ _ _ _ _ _ T61 (mkF m 184 #[.val (.int p0), .val (.int p1), .val (.int p2), .val (.int p3), .val (.ref bA), .val (.ref bS), .val (.ref tt), .val (.ref b1), .val (.int (0 : Int32)), .val (.int (1 : Int32)), .val (.ref b45), .val (.ref b53), .val (.int (0 : Int32))] [(.ref b45)])
      refine GoW.st (fun _ k => XS.aload X61.here hx rfl (hb hby at_184) rfl rfl k) ?_
      show GoW _ _ _ _ _ _ _ T61 (mkF m 186 #[.val (.int p0), .val (.int p1), .val (.int p2), .val (.int p3), .val (.ref bA), .val (.ref bS), .val (.ref tt), .val (.ref b1), .val (.int (0 : Int32)), .val (.int (1 : Int32)), .val (.ref b45), .val (.ref b53), .val (.int (0 : Int32))] [(.ref b53), (.ref b45)])
      obtain ⟨cq62, kq62, q62a, q62b, q62c⟩ := isOf hZ e61 EE52__61
      obtain ⟨_, _, ⟨T62, L62, k62, n62⟩, -, X62, ⟨Lc62, hQ62, l62, y62, z62⟩, st62⟩ := X61.virtualBack hx (y := (⟨"com/example/prudent_checker/prudentchecker/language/VariableReference", "equals", "(Ljava/lang/Object;)Z"⟩ : MethodName)) (z := (⟨"com/example/prudent_checker/prudentchecker/language/VariableReference", "equals", "(Ljava/lang/Object;)Z"⟩ : MethodName)) hown (mvT hZ (hw _ (List.mem_of_getElem? (i := 68) rfl))) (mvT hZ (hw _ (List.mem_of_getElem? (i := 69) rfl))) (notFace_of_selects (args := #[]) (mvT hZ (hw _ (List.mem_of_getElem? (i := 71) rfl)))) (mvT hZ (hw _ (List.mem_of_getElem? (i := 71) rfl))) (mvT hZ (hw _ (List.mem_of_getElem? (i := 70) rfl))) (by decide) (backOf (W := 0) (rm10r l Z a0 hw [] b45 b53 b2 b8 h61 n0 Z61 EE61 F_variable_b45__61 F_variable_b53__61) hZ (hw _ (List.mem_of_getElem? (i := 72) rfl)) (hw _ (List.mem_of_getElem? (i := 56) rfl)) (by decide) (by decide)) q62a q62c (g := (mkF m 186 #[.val (.int p0), .val (.int p1), .val (.int p2), .val (.int p3), .val (.ref bA), .val (.ref bS), .val (.ref tt), .val (.ref b1), .val (.int (0 : Int32)), .val (.int (1 : Int32)), .val (.ref b45), .val (.ref b53), .val (.int (0 : Int32))] [(.ref b53), (.ref b45)])) rfl (by rw [hml]; rfl) (Steps.refl _) (argsL := [(.ref b53)]) (rest := []) (lenOf pd_3 rfl) rfl (by show 2 * 0 + _ ≤ _; exact Nat.le_of_eq rfl) (hb hby at_186) (fun _ _ => ⟨rfl, e61, (by decide : 11 + 0 ≤ _), (by decide : 33 + 0 ≤ _)⟩)
      dsimp only [Pt.U, Pt.locs, Pt.cells, Pt.slots] at X62 l62 y62 z62 st62 hQ62
      subst l62 y62 z62
      obtain ⟨rfl, N62q, e62⟩ := hQ62
      have N62 := Fr.app N61 N62q
      refine GoW.st (fun _ k => st62.trans k) ?_
      show GoW _ _ _ _ _ _ _ T62 (mkF m 189 #[.val (.int p0), .val (.int p1), .val (.int p2), .val (.int p3), .val (.ref bA), .val (.ref bS), .val (.ref tt), .val (.ref b1), .val (.int (0 : Int32)), .val (.int (1 : Int32)), .val (.ref b45), .val (.ref b53), .val (.int (0 : Int32))] [(.int (val_10r b45 b53 b2 b8))])
      rw [show (val_10r b45 b53 b2 b8) = (0 : Int32) from by unfold val_10r; rw [if_neg ne9]]
      show GoW _ _ _ _ _ _ _ T62 (mkF m 189 #[.val (.int p0), .val (.int p1), .val (.int p2), .val (.int p3), .val (.ref bA), .val (.ref bS), .val (.ref tt), .val (.ref b1), .val (.int (0 : Int32)), .val (.int (1 : Int32)), .val (.ref b45), .val (.ref b53), .val (.int (0 : Int32))] [(.int (0 : Int32))])
      refine GoW.st (fun _ k => XS.iload X62.here hx rfl (hb hby at_189) rfl k) ?_
      show GoW _ _ _ _ _ _ _ T62 (mkF m 191 #[.val (.int p0), .val (.int p1), .val (.int p2), .val (.int p3), .val (.ref bA), .val (.ref bS), .val (.ref tt), .val (.ref b1), .val (.int (0 : Int32)), .val (.int (1 : Int32)), .val (.ref b45), .val (.ref b53), .val (.int (0 : Int32))] [(.int (0 : Int32)), (.int (0 : Int32))])
      refine GoW.st (fun _ k => XS.icmpNo X62.here hx rfl (hb hby at_191) rfl (teq (by decide : (0 : Int32) = (0 : Int32))).2 k) ?_
      show GoW _ _ _ _ _ _ _ T62 (mkF m 194 #[.val (.int p0), .val (.int p1), .val (.int p2), .val (.int p3), .val (.ref bA), .val (.ref bS), .val (.ref tt), .val (.ref b1), .val (.int (0 : Int32)), .val (.int (1 : Int32)), .val (.ref b45), .val (.ref b53), .val (.int (0 : Int32))] [])
      refine GoW.st (fun _ k => XS.aload X62.here hx rfl (hb hby at_194) rfl rfl k) ?_
      show GoW _ _ _ _ _ _ _ T62 (mkF m 196 #[.val (.int p0), .val (.int p1), .val (.int p2), .val (.int p3), .val (.ref bA), .val (.ref bS), .val (.ref tt), .val (.ref b1), .val (.int (0 : Int32)), .val (.int (1 : Int32)), .val (.ref b45), .val (.ref b53), .val (.int (0 : Int32))] [(.ref b53)])
      refine GoW.st (fun _ k => XS.aload X62.here hx rfl (hb hby at_196) rfl rfl k) ?_
      show GoW _ _ _ _ _ _ _ T62 (mkF m 198 #[.val (.int p0), .val (.int p1), .val (.int p2), .val (.int p3), .val (.ref bA), .val (.ref bS), .val (.ref tt), .val (.ref b1), .val (.int (0 : Int32)), .val (.int (1 : Int32)), .val (.ref b45), .val (.ref b53), .val (.int (0 : Int32))] [(.ref b45), (.ref b53)])
      obtain ⟨cq63, kq63, q63a, q63b, q63c⟩ := isOf hZ e62 EE61
      obtain ⟨_, _, ⟨T63, L63, k63, n63⟩, -, X63, ⟨Lc63, hQ63, l63, y63, z63⟩, st63⟩ := X62.virtualBack hx (y := (⟨"com/example/prudent_checker/prudentchecker/language/VariableReference", "equals", "(Ljava/lang/Object;)Z"⟩ : MethodName)) (z := (⟨"com/example/prudent_checker/prudentchecker/language/VariableReference", "equals", "(Ljava/lang/Object;)Z"⟩ : MethodName)) hown (mvT hZ (hw _ (List.mem_of_getElem? (i := 68) rfl))) (mvT hZ (hw _ (List.mem_of_getElem? (i := 69) rfl))) (notFace_of_selects (args := #[]) (mvT hZ (hw _ (List.mem_of_getElem? (i := 71) rfl)))) (mvT hZ (hw _ (List.mem_of_getElem? (i := 71) rfl))) (mvT hZ (hw _ (List.mem_of_getElem? (i := 70) rfl))) (by decide) (backOf (W := 0) (rm10r l Z a0 hw [] b53 b45 b8 b2 h61 n0 Z61 EE52__61 F_variable_b53__61 F_variable_b45__61) hZ (hw _ (List.mem_of_getElem? (i := 72) rfl)) (hw _ (List.mem_of_getElem? (i := 56) rfl)) (by decide) (by decide)) q63a q63c (g := (mkF m 198 #[.val (.int p0), .val (.int p1), .val (.int p2), .val (.int p3), .val (.ref bA), .val (.ref bS), .val (.ref tt), .val (.ref b1), .val (.int (0 : Int32)), .val (.int (1 : Int32)), .val (.ref b45), .val (.ref b53), .val (.int (0 : Int32))] [(.ref b45), (.ref b53)])) rfl (by rw [hml]; rfl) (Steps.refl _) (argsL := [(.ref b45)]) (rest := []) (lenOf pd_3 rfl) rfl (by show 2 * 0 + _ ≤ _; exact Nat.le_of_eq rfl) (hb hby at_198) (fun _ _ => ⟨rfl, e62, (by decide : 11 + 0 ≤ _), (by decide : 33 + 0 ≤ _)⟩)
      dsimp only [Pt.U, Pt.locs, Pt.cells, Pt.slots] at X63 l63 y63 z63 st63 hQ63
      subst l63 y63 z63
      obtain ⟨rfl, N63q, e63⟩ := hQ63
      have N63 := Fr.app N62 N63q
      refine GoW.st (fun _ k => st63.trans k) ?_
      show GoW _ _ _ _ _ _ _ T63 (mkF m 201 #[.val (.int p0), .val (.int p1), .val (.int p2), .val (.int p3), .val (.ref bA), .val (.ref bS), .val (.ref tt), .val (.ref b1), .val (.int (0 : Int32)), .val (.int (1 : Int32)), .val (.ref b45), .val (.ref b53), .val (.int (0 : Int32))] [(.int (val_10r b53 b45 b8 b2))])
      rw [show (val_10r b53 b45 b8 b2) = (0 : Int32) from by unfold val_10r; rw [if_neg (Ne.symm ne9)]]
      show GoW _ _ _ _ _ _ _ T63 (mkF m 201 #[.val (.int p0), .val (.int p1), .val (.int p2), .val (.int p3), .val (.ref bA), .val (.ref bS), .val (.ref tt), .val (.ref b1), .val (.int (0 : Int32)), .val (.int (1 : Int32)), .val (.ref b45), .val (.ref b53), .val (.int (0 : Int32))] [(.int (0 : Int32))])
      refine GoW.st (fun _ k => XS.iload X63.here hx rfl (hb hby at_201) rfl k) ?_
      show GoW _ _ _ _ _ _ _ T63 (mkF m 203 #[.val (.int p0), .val (.int p1), .val (.int p2), .val (.int p3), .val (.ref bA), .val (.ref bS), .val (.ref tt), .val (.ref b1), .val (.int (0 : Int32)), .val (.int (1 : Int32)), .val (.ref b45), .val (.ref b53), .val (.int (0 : Int32))] [(.int (0 : Int32)), (.int (0 : Int32))])
      refine GoW.st (fun _ k => XS.icmpNo X63.here hx rfl (hb hby at_203) rfl (teq (by decide : (0 : Int32) = (0 : Int32))).2 k) ?_
      show GoW _ _ _ _ _ _ _ T63 (mkF m 206 #[.val (.int p0), .val (.int p1), .val (.int p2), .val (.int p3), .val (.ref bA), .val (.ref bS), .val (.ref tt), .val (.ref b1), .val (.int (0 : Int32)), .val (.int (1 : Int32)), .val (.ref b45), .val (.ref b53), .val (.int (0 : Int32))] [])
      refine GoW.st (fun _ k => XS.iconst X63.here hx rfl (hb hby at_206) k) ?_
      show GoW _ _ _ _ _ _ _ T63 (mkF m 207 #[.val (.int p0), .val (.int p1), .val (.int p2), .val (.int p3), .val (.ref bA), .val (.ref bS), .val (.ref tt), .val (.ref b1), .val (.int (0 : Int32)), .val (.int (1 : Int32)), .val (.ref b45), .val (.ref b53), .val (.int (0 : Int32))] [(.int (1 : Int32))])
      refine GoW.st (fun _ k => XS.goto X63.here hx rfl (pc0 := 207) (pc' := 211) rfl (hb hby at_207) (by decide) (by decide) k) ?_
      show GoW _ _ _ _ _ _ _ T63 (mkF m 211 #[.val (.int p0), .val (.int p1), .val (.int p2), .val (.int p3), .val (.ref bA), .val (.ref bS), .val (.ref tt), .val (.ref b1), .val (.int (0 : Int32)), .val (.int (1 : Int32)), .val (.ref b45), .val (.ref b53), .val (.int (0 : Int32))] [(.int (1 : Int32))])
      refine GoW.ret X63 hS (by rw [e63]; exact hk61) hlk (v := some (.int (1 : Int32))) (fun h => by rw [hret] at h; cases h) (fun fs hr => retN X63 hx (t := .boolean) hret (by simp) (hb hby at_211) hr) ?_ (by decide) (by decide)
      show Q0 Z p0 p1 p2 p3 w_BYTE w_INT G1 h0 n0 (some (.int (1 : Int32))) T63.heap _
      rw [e63]
      exact ⟨rfl, N63⟩
    · rw [hk25]
      show GoW _ _ _ _ _ _ _ T23 (mkF m 132 #[.val (.int p0), .val (.int p1), .val (.int p2), .val (.int p3), .val (.ref bA), .val (.ref bS), .val (.ref tt), .val (.ref b1), .val (.int (0 : Int32)), .unset, .unset, .unset, .unset] [(.int (2 : Int32))])
      refine GoW.st (fun _ k => XS.istore X23.here hx rfl (hb hby at_132) rfl (l' := #[.val (.int p0), .val (.int p1), .val (.int p2), .val (.int p3), .val (.ref bA), .val (.ref bS), .val (.ref tt), .val (.ref b1), .val (.int (0 : Int32)), .val (.int (2 : Int32)), .unset, .unset, .unset]) rfl k) ?_
      show GoW _ _ _ _ _ _ _ T23 (mkF m 134 #[.val (.int p0), .val (.int p1), .val (.int p2), .val (.int p3), .val (.ref bA), .val (.ref bS), .val (.ref tt), .val (.ref b1), .val (.int (0 : Int32)), .val (.int (2 : Int32)), .unset, .unset, .unset] [])
      obtain ⟨T64, h64, X64, e64, E64, A64, D64, -, st64⟩ := newO X23 hx hZ hown (hw _ (List.mem_of_getElem? (i := 54) rfl)) (hw _ (List.mem_of_getElem? (i := 55) rfl)) (hw _ (List.mem_of_getElem? (i := 56) rfl)) e23 (g := (mkF m 134 #[.val (.int p0), .val (.int p1), .val (.int p2), .val (.int p3), .val (.ref bA), .val (.ref bS), .val (.ref tt), .val (.ref b1), .val (.int (0 : Int32)), .val (.int (2 : Int32)), .unset, .unset, .unset] [])) rfl (hb hby at_134) (by decide) (by decide)
      obtain ⟨b64, g64⟩ : ∃ z, z = h23.size := ⟨_, rfl⟩
      rw [← g64] at A64 D64 st64
      have ne65 : b2 ≠ b64 := Nat.ne_of_lt (Nat.lt_of_lt_of_le EE4__23.lt (Nat.le_of_eq g64.symm))
      have ne66 : b8 ≠ b64 := Nat.ne_of_lt (Nat.lt_of_lt_of_le EE11__23.lt (Nat.le_of_eq g64.symm))
      have ne67 : b15 ≠ b64 := Nat.ne_of_lt (Nat.lt_of_lt_of_le EE20__23.lt (Nat.le_of_eq g64.symm))
      have ne68 : b1 ≠ b64 := Nat.ne_of_lt (Nat.lt_of_lt_of_le V_b1__23.lt (Nat.le_of_eq g64.symm))
      have g_b64 : n0 ≤ b64 := Nat.le_trans Z23 (Nat.le_of_eq g64.symm)
      have EE4__64 := EE4__23.ext E64
      have EE11__64 := EE11__23.ext E64
      have EE20__64 := EE20__23.ext E64
      have V_b1__64 := V_b1__23.ext E64
      have Z64 : n0 ≤ h64.size := Nat.le_trans Z23 E64.1
      have hk64 := Nat.le_trans hk23 E64.1
      have F_variable_b64 : Fld Z h64 b64 "com/example/prudent_checker/prudentchecker/language/VariableReference" "variable" "Lcom/example/prudent_checker/prudentchecker/language/Variable;" .null := D64 (Or.inr (hw _ (List.mem_of_getElem? (i := 67) rfl))) (ty := (.object "com/example/prudent_checker/prudentchecker/language/Variable")) (by decide)
      refine GoW.st st64 ?_
      show GoW _ _ _ _ _ _ _ T64 (mkF m 137 #[.val (.int p0), .val (.int p1), .val (.int p2), .val (.int p3), .val (.ref bA), .val (.ref bS), .val (.ref tt), .val (.ref b1), .val (.int (0 : Int32)), .val (.int (2 : Int32)), .unset, .unset, .unset] [(.ref b64)])
      refine GoW.st (fun _ k => XS.dup X64.here hx rfl (hb hby at_137) rfl rfl k) ?_
      show GoW _ _ _ _ _ _ _ T64 (mkF m 138 #[.val (.int p0), .val (.int p1), .val (.int p2), .val (.int p3), .val (.ref bA), .val (.ref bS), .val (.ref tt), .val (.ref b1), .val (.int (0 : Int32)), .val (.int (2 : Int32)), .unset, .unset, .unset] [(.ref b64), (.ref b64)])
      refine GoW.st (fun _ k => XS.aload X64.here hx rfl (hb hby at_138) rfl rfl k) ?_
      show GoW _ _ _ _ _ _ _ T64 (mkF m 140 #[.val (.int p0), .val (.int p1), .val (.int p2), .val (.int p3), .val (.ref bA), .val (.ref bS), .val (.ref tt), .val (.ref b1), .val (.int (0 : Int32)), .val (.int (2 : Int32)), .unset, .unset, .unset] [(.ref b1), (.ref b64), (.ref b64)])
      refine GoW.st (fun _ k => XS.iload X64.here hx rfl (hb hby at_140) rfl k) ?_
      show GoW _ _ _ _ _ _ _ T64 (mkF m 142 #[.val (.int p0), .val (.int p1), .val (.int p2), .val (.int p3), .val (.ref bA), .val (.ref bS), .val (.ref tt), .val (.ref b1), .val (.int (0 : Int32)), .val (.int (2 : Int32)), .unset, .unset, .unset] [(.int (0 : Int32)), (.ref b1), (.ref b64), (.ref b64)])
      obtain ⟨cl69, Ar69, qq69, SS69, NN69, HH69, GG69⟩ := id V_b1__64
      have hin70 : ¬ ((0 : Int32) < 0 ∨ cl69.slots.size ≤ ((0 : Int32)).toNatClampNeg) := inb_of SS69 ⟨by decide, by decide⟩
      refine GoW.st (fun _ k => X64.aaload hx (j := (0 : Int32)) (v := (.ref b2)) (by rw [e64]; exact Ar69.1) (State.isArrayOf_alike hZ.alike Ar69.2.1) rfl Ar69.2.2 hin70 (HH69.at hin70 rfl) (g := (mkF m 142 #[.val (.int p0), .val (.int p1), .val (.int p2), .val (.int p3), .val (.ref bA), .val (.ref bS), .val (.ref tt), .val (.ref b1), .val (.int (0 : Int32)), .val (.int (2 : Int32)), .unset, .unset, .unset] [(.int (0 : Int32)), (.ref b1), (.ref b64), (.ref b64)])) rfl rfl (hb hby at_142) _ k) ?_
      show GoW _ _ _ _ _ _ _ T64 (mkF m 143 #[.val (.int p0), .val (.int p1), .val (.int p2), .val (.int p3), .val (.ref bA), .val (.ref bS), .val (.ref tt), .val (.ref b1), .val (.int (0 : Int32)), .val (.int (2 : Int32)), .unset, .unset, .unset] [(.ref b2), (.ref b64), (.ref b64)])
      obtain ⟨_, _, ⟨T71, L71, k71, n71⟩, -, X71, ⟨Lc71, hQ71, l71, y71, z71⟩, st71⟩ := X64.specialBack hx (y := (⟨"com/example/prudent_checker/prudentchecker/language/VariableReference", "<init>", "(Lcom/example/prudent_checker/prudentchecker/language/Variable;)V"⟩ : MethodName)) rfl hown (mvT hZ (hw _ (List.mem_of_getElem? (i := 57) rfl))) (mvT hZ (hw _ (List.mem_of_getElem? (i := 58) rfl))) (mvT hZ (hw _ (List.mem_of_getElem? (i := 59) rfl))) (by decide) (backOf (W := 1) (rm8 l Z a0 hw [] b64 b2 .null h64 n0 Z64 A64 F_variable_b64 g_b64) hZ (hw _ (List.mem_of_getElem? (i := 59) rfl)) (hw _ (List.mem_of_getElem? (i := 56) rfl)) (by decide) (by decide)) (g := (mkF m 143 #[.val (.int p0), .val (.int p1), .val (.int p2), .val (.int p3), .val (.ref bA), .val (.ref bS), .val (.ref tt), .val (.ref b1), .val (.int (0 : Int32)), .val (.int (2 : Int32)), .unset, .unset, .unset] [(.ref b2), (.ref b64), (.ref b64)])) rfl (by rw [hml]; rfl) (Steps.refl _) (a := b64) (argsL := [(.ref b2)]) (rest := [(.ref b64)]) (lenOf pd_2 rfl) rfl (by show 2 * 0 + _ ≤ _; exact Nat.le_of_eq rfl) (hb hby at_143) (fun _ _ => ⟨rfl, e64, (by decide : 10 + 0 ≤ _), (by decide : 32 + 0 ≤ _)⟩)
      dsimp only [Pt.U, Pt.locs, Pt.cells, Pt.slots] at X71 l71 y71 z71 st71 hQ71
      subst l71 y71 z71
      generalize e71 : T71.heap = h71 at hQ71
      obtain ⟨rfl, N71q, K71, EE71, FF_variable_71⟩ := hQ71
      have N71 := Fr.app N23 N71q
      refine GoW.st (fun _ k => st71.trans k) ?_
      have EE4__71 := EE4__64.keep K71
      have EE11__71 := EE11__64.keep K71
      have EE20__71 := EE20__64.keep K71
      have V_b1__71 := V_b1__64.keep K71 (ninS ne68 (nin0))
      have A64__71 := A64.keep K71
      have Z71 : n0 ≤ h71.size := Nat.le_trans Z64 K71.1
      have hk71 := Nat.le_trans hk64 K71.1
      rw [show (val_8_variable b64 b2 .null) = (.ref b2) from by unfold val_8_variable; rfl] at FF_variable_71
      have F_variable_b64__71 := FF_variable_71
      show GoW _ _ _ _ _ _ _ T71 (mkF m 146 #[.val (.int p0), .val (.int p1), .val (.int p2), .val (.int p3), .val (.ref bA), .val (.ref bS), .val (.ref tt), .val (.ref b1), .val (.int (0 : Int32)), .val (.int (2 : Int32)), .unset, .unset, .unset] [(.ref b64)])
      refine GoW.st (fun _ k => XS.astore X71.here hx rfl (hb hby at_146) rfl rfl (l' := #[.val (.int p0), .val (.int p1), .val (.int p2), .val (.int p3), .val (.ref bA), .val (.ref bS), .val (.ref tt), .val (.ref b1), .val (.int (0 : Int32)), .val (.int (2 : Int32)), .val (.ref b64), .unset, .unset]) rfl k) ?_
      show GoW _ _ _ _ _ _ _ T71 (mkF m 148 #[.val (.int p0), .val (.int p1), .val (.int p2), .val (.int p3), .val (.ref bA), .val (.ref bS), .val (.ref tt), .val (.ref b1), .val (.int (0 : Int32)), .val (.int (2 : Int32)), .val (.ref b64), .unset, .unset] [])
      refine GoW.st (fun _ k => XS.iload X71.here hx rfl (hb hby at_148) rfl k) ?_
      show GoW _ _ _ _ _ _ _ T71 (mkF m 150 #[.val (.int p0), .val (.int p1), .val (.int p2), .val (.int p3), .val (.ref bA), .val (.ref bS), .val (.ref tt), .val (.ref b1), .val (.int (0 : Int32)), .val (.int (2 : Int32)), .val (.ref b64), .unset, .unset] [(.int (2 : Int32))])
      refine GoW.st (fun _ k => XS.iconst X71.here hx rfl (hb hby at_150) k) ?_
      show GoW _ _ _ _ _ _ _ T71 (mkF m 151 #[.val (.int p0), .val (.int p1), .val (.int p2), .val (.int p3), .val (.ref bA), .val (.ref bS), .val (.ref tt), .val (.ref b1), .val (.int (0 : Int32)), .val (.int (2 : Int32)), .val (.ref b64), .unset, .unset] [(.int (3 : Int32)), (.int (2 : Int32))])
      refine GoW.st (fun _ k => XS.icmpNo X71.here hx rfl (hb hby at_151) rfl (tlt (by decide : (2 : Int32) < (3 : Int32))).2.1 k) ?_
      show GoW _ _ _ _ _ _ _ T71 (mkF m 154 #[.val (.int p0), .val (.int p1), .val (.int p2), .val (.int p3), .val (.ref bA), .val (.ref bS), .val (.ref tt), .val (.ref b1), .val (.int (0 : Int32)), .val (.int (2 : Int32)), .val (.ref b64), .unset, .unset] [])
      obtain ⟨T72, h72, X72, e72, E72, A72, D72, -, st72⟩ := newO X71 hx hZ hown (hw _ (List.mem_of_getElem? (i := 54) rfl)) (hw _ (List.mem_of_getElem? (i := 55) rfl)) (hw _ (List.mem_of_getElem? (i := 56) rfl)) e71 (g := (mkF m 154 #[.val (.int p0), .val (.int p1), .val (.int p2), .val (.int p3), .val (.ref bA), .val (.ref bS), .val (.ref tt), .val (.ref b1), .val (.int (0 : Int32)), .val (.int (2 : Int32)), .val (.ref b64), .unset, .unset] [])) rfl (hb hby at_154) (by decide) (by decide)
      obtain ⟨b72, g72⟩ : ∃ z, z = h71.size := ⟨_, rfl⟩
      rw [← g72] at A72 D72 st72
      have ne73 : b2 ≠ b72 := Nat.ne_of_lt (Nat.lt_of_lt_of_le EE4__71.lt (Nat.le_of_eq g72.symm))
      have ne74 : b8 ≠ b72 := Nat.ne_of_lt (Nat.lt_of_lt_of_le EE11__71.lt (Nat.le_of_eq g72.symm))
      have ne75 : b15 ≠ b72 := Nat.ne_of_lt (Nat.lt_of_lt_of_le EE20__71.lt (Nat.le_of_eq g72.symm))
      have ne76 : b1 ≠ b72 := Nat.ne_of_lt (Nat.lt_of_lt_of_le V_b1__71.lt (Nat.le_of_eq g72.symm))
      have ne77 : b64 ≠ b72 := Nat.ne_of_lt (Nat.lt_of_lt_of_le EE71.lt (Nat.le_of_eq g72.symm))
      have g_b72 : n0 ≤ b72 := Nat.le_trans Z71 (Nat.le_of_eq g72.symm)
      have EE4__72 := EE4__71.ext E72
      have EE11__72 := EE11__71.ext E72
      have EE20__72 := EE20__71.ext E72
      have V_b1__72 := V_b1__71.ext E72
      have EE71__72 := EE71.ext E72
      have F_variable_b64__72 := F_variable_b64__71.ext E72
      have Z72 : n0 ≤ h72.size := Nat.le_trans Z71 E72.1
      have hk72 := Nat.le_trans hk71 E72.1
      have F_variable_b72 : Fld Z h72 b72 "com/example/prudent_checker/prudentchecker/language/VariableReference" "variable" "Lcom/example/prudent_checker/prudentchecker/language/Variable;" .null := D72 (Or.inr (hw _ (List.mem_of_getElem? (i := 67) rfl))) (ty := (.object "com/example/prudent_checker/prudentchecker/language/Variable")) (by decide)
      refine GoW.st st72 ?_
      show GoW _ _ _ _ _ _ _ T72 (mkF m 157 #[.val (.int p0), .val (.int p1), .val (.int p2), .val (.int p3), .val (.ref bA), .val (.ref bS), .val (.ref tt), .val (.ref b1), .val (.int (0 : Int32)), .val (.int (2 : Int32)), .val (.ref b64), .unset, .unset] [(.ref b72)])
      refine GoW.st (fun _ k => XS.dup X72.here hx rfl (hb hby at_157) rfl rfl k) ?_
      show GoW _ _ _ _ _ _ _ T72 (mkF m 158 #[.val (.int p0), .val (.int p1), .val (.int p2), .val (.int p3), .val (.ref bA), .val (.ref bS), .val (.ref tt), .val (.ref b1), .val (.int (0 : Int32)), .val (.int (2 : Int32)), .val (.ref b64), .unset, .unset] [(.ref b72), (.ref b72)])
      refine GoW.st (fun _ k => XS.aload X72.here hx rfl (hb hby at_158) rfl rfl k) ?_
      show GoW _ _ _ _ _ _ _ T72 (mkF m 160 #[.val (.int p0), .val (.int p1), .val (.int p2), .val (.int p3), .val (.ref bA), .val (.ref bS), .val (.ref tt), .val (.ref b1), .val (.int (0 : Int32)), .val (.int (2 : Int32)), .val (.ref b64), .unset, .unset] [(.ref b1), (.ref b72), (.ref b72)])
      refine GoW.st (fun _ k => XS.iload X72.here hx rfl (hb hby at_160) rfl k) ?_
      show GoW _ _ _ _ _ _ _ T72 (mkF m 162 #[.val (.int p0), .val (.int p1), .val (.int p2), .val (.int p3), .val (.ref bA), .val (.ref bS), .val (.ref tt), .val (.ref b1), .val (.int (0 : Int32)), .val (.int (2 : Int32)), .val (.ref b64), .unset, .unset] [(.int (2 : Int32)), (.ref b1), (.ref b72), (.ref b72)])
      obtain ⟨cl78, Ar78, qq78, SS78, NN78, HH78, GG78⟩ := id V_b1__72
      have hin79 : ¬ ((2 : Int32) < 0 ∨ cl78.slots.size ≤ ((2 : Int32)).toNatClampNeg) := inb_of SS78 ⟨by decide, by decide⟩
      refine GoW.st (fun _ k => X72.aaload hx (j := (2 : Int32)) (v := (.ref b15)) (by rw [e72]; exact Ar78.1) (State.isArrayOf_alike hZ.alike Ar78.2.1) rfl Ar78.2.2 hin79 (HH78.at hin79 rfl) (g := (mkF m 162 #[.val (.int p0), .val (.int p1), .val (.int p2), .val (.int p3), .val (.ref bA), .val (.ref bS), .val (.ref tt), .val (.ref b1), .val (.int (0 : Int32)), .val (.int (2 : Int32)), .val (.ref b64), .unset, .unset] [(.int (2 : Int32)), (.ref b1), (.ref b72), (.ref b72)])) rfl rfl (hb hby at_162) _ k) ?_
      show GoW _ _ _ _ _ _ _ T72 (mkF m 163 #[.val (.int p0), .val (.int p1), .val (.int p2), .val (.int p3), .val (.ref bA), .val (.ref bS), .val (.ref tt), .val (.ref b1), .val (.int (0 : Int32)), .val (.int (2 : Int32)), .val (.ref b64), .unset, .unset] [(.ref b15), (.ref b72), (.ref b72)])
      obtain ⟨_, _, ⟨T80, L80, k80, n80⟩, -, X80, ⟨Lc80, hQ80, l80, y80, z80⟩, st80⟩ := X72.specialBack hx (y := (⟨"com/example/prudent_checker/prudentchecker/language/VariableReference", "<init>", "(Lcom/example/prudent_checker/prudentchecker/language/Variable;)V"⟩ : MethodName)) rfl hown (mvT hZ (hw _ (List.mem_of_getElem? (i := 57) rfl))) (mvT hZ (hw _ (List.mem_of_getElem? (i := 58) rfl))) (mvT hZ (hw _ (List.mem_of_getElem? (i := 59) rfl))) (by decide) (backOf (W := 1) (rm8 l Z a0 hw [] b72 b15 .null h72 n0 Z72 A72 F_variable_b72 g_b72) hZ (hw _ (List.mem_of_getElem? (i := 59) rfl)) (hw _ (List.mem_of_getElem? (i := 56) rfl)) (by decide) (by decide)) (g := (mkF m 163 #[.val (.int p0), .val (.int p1), .val (.int p2), .val (.int p3), .val (.ref bA), .val (.ref bS), .val (.ref tt), .val (.ref b1), .val (.int (0 : Int32)), .val (.int (2 : Int32)), .val (.ref b64), .unset, .unset] [(.ref b15), (.ref b72), (.ref b72)])) rfl (by rw [hml]; rfl) (Steps.refl _) (a := b72) (argsL := [(.ref b15)]) (rest := [(.ref b72)]) (lenOf pd_2 rfl) rfl (by show 2 * 0 + _ ≤ _; exact Nat.le_of_eq rfl) (hb hby at_163) (fun _ _ => ⟨rfl, e72, (by decide : 11 + 0 ≤ _), (by decide : 33 + 0 ≤ _)⟩)
      dsimp only [Pt.U, Pt.locs, Pt.cells, Pt.slots] at X80 l80 y80 z80 st80 hQ80
      subst l80 y80 z80
      generalize e80 : T80.heap = h80 at hQ80
      obtain ⟨rfl, N80q, K80, EE80, FF_variable_80⟩ := hQ80
      have N80 := Fr.app N71 N80q
      refine GoW.st (fun _ k => st80.trans k) ?_
      have EE4__80 := EE4__72.keep K80
      have EE11__80 := EE11__72.keep K80
      have EE20__80 := EE20__72.keep K80
      have V_b1__80 := V_b1__72.keep K80 (ninS ne76 (nin0))
      have EE71__80 := EE71__72.keep K80
      have F_variable_b64__80 := F_variable_b64__72.keep K80 (ninS ne77 (nin0))
      have A72__80 := A72.keep K80
      have Z80 : n0 ≤ h80.size := Nat.le_trans Z72 K80.1
      have hk80 := Nat.le_trans hk72 K80.1
      rw [show (val_8_variable b72 b15 .null) = (.ref b15) from by unfold val_8_variable; rfl] at FF_variable_80
      have F_variable_b72__80 := FF_variable_80
      show GoW _ _ _ _ _ _ _ T80 (mkF m 166 #[.val (.int p0), .val (.int p1), .val (.int p2), .val (.int p3), .val (.ref bA), .val (.ref bS), .val (.ref tt), .val (.ref b1), .val (.int (0 : Int32)), .val (.int (2 : Int32)), .val (.ref b64), .unset, .unset] [(.ref b72)])
      refine GoW.st (fun _ k => XS.astore X80.here hx rfl (hb hby at_166) rfl rfl (l' := #[.val (.int p0), .val (.int p1), .val (.int p2), .val (.int p3), .val (.ref bA), .val (.ref bS), .val (.ref tt), .val (.ref b1), .val (.int (0 : Int32)), .val (.int (2 : Int32)), .val (.ref b64), .val (.ref b72), .unset]) rfl k) ?_
      show GoW _ _ _ _ _ _ _ T80 (mkF m 168 #[.val (.int p0), .val (.int p1), .val (.int p2), .val (.int p3), .val (.ref bA), .val (.ref bS), .val (.ref tt), .val (.ref b1), .val (.int (0 : Int32)), .val (.int (2 : Int32)), .val (.ref b64), .val (.ref b72), .unset] [])
      refine GoW.st (fun _ k => XS.iload X80.here hx rfl (hb hby at_168) rfl k) ?_
      show GoW _ _ _ _ _ _ _ T80 (mkF m 170 #[.val (.int p0), .val (.int p1), .val (.int p2), .val (.int p3), .val (.ref bA), .val (.ref bS), .val (.ref tt), .val (.ref b1), .val (.int (0 : Int32)), .val (.int (2 : Int32)), .val (.ref b64), .val (.ref b72), .unset] [(.int (0 : Int32))])
      refine GoW.st (fun _ k => XS.iload X80.here hx rfl (hb hby at_170) rfl k) ?_
      show GoW _ _ _ _ _ _ _ T80 (mkF m 172 #[.val (.int p0), .val (.int p1), .val (.int p2), .val (.int p3), .val (.ref bA), .val (.ref bS), .val (.ref tt), .val (.ref b1), .val (.int (0 : Int32)), .val (.int (2 : Int32)), .val (.ref b64), .val (.ref b72), .unset] [(.int (2 : Int32)), (.int (0 : Int32))])
      refine GoW.st (fun _ k => XS.icmpYes X80.here hx rfl (pc0 := 172) (pc' := 179) rfl (hb hby at_172) rfl (feq (by decide : ¬ ((0 : Int32) = (2 : Int32)))).2 (by decide) (by decide) k) ?_
      show GoW _ _ _ _ _ _ _ T80 (mkF m 179 #[.val (.int p0), .val (.int p1), .val (.int p2), .val (.int p3), .val (.ref bA), .val (.ref bS), .val (.ref tt), .val (.ref b1), .val (.int (0 : Int32)), .val (.int (2 : Int32)), .val (.ref b64), .val (.ref b72), .unset] [])
      refine GoW.st (fun _ k => XS.iconst X80.here hx rfl (hb hby at_179) k) ?_
      show GoW _ _ _ _ _ _ _ T80 (mkF m 180 #[.val (.int p0), .val (.int p1), .val (.int p2), .val (.int p3), .val (.ref bA), .val (.ref bS), .val (.ref tt), .val (.ref b1), .val (.int (0 : Int32)), .val (.int (2 : Int32)), .val (.ref b64), .val (.ref b72), .unset] [(.int (0 : Int32))])
      refine GoW.st (fun _ k => XS.istore X80.here hx rfl (hb hby at_180) rfl (l' := #[.val (.int p0), .val (.int p1), .val (.int p2), .val (.int p3), .val (.ref bA), .val (.ref bS), .val (.ref tt), .val (.ref b1), .val (.int (0 : Int32)), .val (.int (2 : Int32)), .val (.ref b64), .val (.ref b72), .val (.int (0 : Int32))]) rfl k) ?_
      show GoW _ _ _ _ _ _ _ T80 (mkF m 182 #[.val (.int p0), .val (.int p1), .val (.int p2), .val (.int p3), .val (.ref bA), .val (.ref bS), .val (.ref tt), .val (.ref b1), .val (.int (0 : Int32)), .val (.int (2 : Int32)), .val (.ref b64), .val (.ref b72), .val (.int (0 : Int32))] [])
      refine GoW.st (fun _ k => XS.aload X80.here hx rfl (hb hby at_182) rfl rfl k) ?_
      show GoW _ _ _ _ _ _ _ T80 (mkF m 184 #[.val (.int p0), .val (.int p1), .val (.int p2), .val (.int p3), .val (.ref bA), .val (.ref bS), .val (.ref tt), .val (.ref b1), .val (.int (0 : Int32)), .val (.int (2 : Int32)), .val (.ref b64), .val (.ref b72), .val (.int (0 : Int32))] [(.ref b64)])
      refine GoW.st (fun _ k => XS.aload X80.here hx rfl (hb hby at_184) rfl rfl k) ?_
      show GoW _ _ _ _ _ _ _ T80 (mkF m 186 #[.val (.int p0), .val (.int p1), .val (.int p2), .val (.int p3), .val (.ref bA), .val (.ref bS), .val (.ref tt), .val (.ref b1), .val (.int (0 : Int32)), .val (.int (2 : Int32)), .val (.ref b64), .val (.ref b72), .val (.int (0 : Int32))] [(.ref b72), (.ref b64)])
      obtain ⟨cq81, kq81, q81a, q81b, q81c⟩ := isOf hZ e80 EE71__80
      obtain ⟨_, _, ⟨T81, L81, k81, n81⟩, -, X81, ⟨Lc81, hQ81, l81, y81, z81⟩, st81⟩ := X80.virtualBack hx (y := (⟨"com/example/prudent_checker/prudentchecker/language/VariableReference", "equals", "(Ljava/lang/Object;)Z"⟩ : MethodName)) (z := (⟨"com/example/prudent_checker/prudentchecker/language/VariableReference", "equals", "(Ljava/lang/Object;)Z"⟩ : MethodName)) hown (mvT hZ (hw _ (List.mem_of_getElem? (i := 68) rfl))) (mvT hZ (hw _ (List.mem_of_getElem? (i := 69) rfl))) (notFace_of_selects (args := #[]) (mvT hZ (hw _ (List.mem_of_getElem? (i := 71) rfl)))) (mvT hZ (hw _ (List.mem_of_getElem? (i := 71) rfl))) (mvT hZ (hw _ (List.mem_of_getElem? (i := 70) rfl))) (by decide) (backOf (W := 0) (rm10r l Z a0 hw [] b64 b72 b2 b15 h80 n0 Z80 EE80 F_variable_b64__80 F_variable_b72__80) hZ (hw _ (List.mem_of_getElem? (i := 72) rfl)) (hw _ (List.mem_of_getElem? (i := 56) rfl)) (by decide) (by decide)) q81a q81c (g := (mkF m 186 #[.val (.int p0), .val (.int p1), .val (.int p2), .val (.int p3), .val (.ref bA), .val (.ref bS), .val (.ref tt), .val (.ref b1), .val (.int (0 : Int32)), .val (.int (2 : Int32)), .val (.ref b64), .val (.ref b72), .val (.int (0 : Int32))] [(.ref b72), (.ref b64)])) rfl (by rw [hml]; rfl) (Steps.refl _) (argsL := [(.ref b72)]) (rest := []) (lenOf pd_3 rfl) rfl (by show 2 * 0 + _ ≤ _; exact Nat.le_of_eq rfl) (hb hby at_186) (fun _ _ => ⟨rfl, e80, (by decide : 11 + 0 ≤ _), (by decide : 33 + 0 ≤ _)⟩)
      dsimp only [Pt.U, Pt.locs, Pt.cells, Pt.slots] at X81 l81 y81 z81 st81 hQ81
      subst l81 y81 z81
      obtain ⟨rfl, N81q, e81⟩ := hQ81
      have N81 := Fr.app N80 N81q
      refine GoW.st (fun _ k => st81.trans k) ?_
      show GoW _ _ _ _ _ _ _ T81 (mkF m 189 #[.val (.int p0), .val (.int p1), .val (.int p2), .val (.int p3), .val (.ref bA), .val (.ref bS), .val (.ref tt), .val (.ref b1), .val (.int (0 : Int32)), .val (.int (2 : Int32)), .val (.ref b64), .val (.ref b72), .val (.int (0 : Int32))] [(.int (val_10r b64 b72 b2 b15))])
      rw [show (val_10r b64 b72 b2 b15) = (0 : Int32) from by unfold val_10r; rw [if_neg ne16]]
      show GoW _ _ _ _ _ _ _ T81 (mkF m 189 #[.val (.int p0), .val (.int p1), .val (.int p2), .val (.int p3), .val (.ref bA), .val (.ref bS), .val (.ref tt), .val (.ref b1), .val (.int (0 : Int32)), .val (.int (2 : Int32)), .val (.ref b64), .val (.ref b72), .val (.int (0 : Int32))] [(.int (0 : Int32))])
      refine GoW.st (fun _ k => XS.iload X81.here hx rfl (hb hby at_189) rfl k) ?_
      show GoW _ _ _ _ _ _ _ T81 (mkF m 191 #[.val (.int p0), .val (.int p1), .val (.int p2), .val (.int p3), .val (.ref bA), .val (.ref bS), .val (.ref tt), .val (.ref b1), .val (.int (0 : Int32)), .val (.int (2 : Int32)), .val (.ref b64), .val (.ref b72), .val (.int (0 : Int32))] [(.int (0 : Int32)), (.int (0 : Int32))])
      refine GoW.st (fun _ k => XS.icmpNo X81.here hx rfl (hb hby at_191) rfl (teq (by decide : (0 : Int32) = (0 : Int32))).2 k) ?_
      show GoW _ _ _ _ _ _ _ T81 (mkF m 194 #[.val (.int p0), .val (.int p1), .val (.int p2), .val (.int p3), .val (.ref bA), .val (.ref bS), .val (.ref tt), .val (.ref b1), .val (.int (0 : Int32)), .val (.int (2 : Int32)), .val (.ref b64), .val (.ref b72), .val (.int (0 : Int32))] [])
      refine GoW.st (fun _ k => XS.aload X81.here hx rfl (hb hby at_194) rfl rfl k) ?_
      show GoW _ _ _ _ _ _ _ T81 (mkF m 196 #[.val (.int p0), .val (.int p1), .val (.int p2), .val (.int p3), .val (.ref bA), .val (.ref bS), .val (.ref tt), .val (.ref b1), .val (.int (0 : Int32)), .val (.int (2 : Int32)), .val (.ref b64), .val (.ref b72), .val (.int (0 : Int32))] [(.ref b72)])
      refine GoW.st (fun _ k => XS.aload X81.here hx rfl (hb hby at_196) rfl rfl k) ?_
      show GoW _ _ _ _ _ _ _ T81 (mkF m 198 #[.val (.int p0), .val (.int p1), .val (.int p2), .val (.int p3), .val (.ref bA), .val (.ref bS), .val (.ref tt), .val (.ref b1), .val (.int (0 : Int32)), .val (.int (2 : Int32)), .val (.ref b64), .val (.ref b72), .val (.int (0 : Int32))] [(.ref b64), (.ref b72)])
      obtain ⟨cq82, kq82, q82a, q82b, q82c⟩ := isOf hZ e81 EE80
      obtain ⟨_, _, ⟨T82, L82, k82, n82⟩, -, X82, ⟨Lc82, hQ82, l82, y82, z82⟩, st82⟩ := X81.virtualBack hx (y := (⟨"com/example/prudent_checker/prudentchecker/language/VariableReference", "equals", "(Ljava/lang/Object;)Z"⟩ : MethodName)) (z := (⟨"com/example/prudent_checker/prudentchecker/language/VariableReference", "equals", "(Ljava/lang/Object;)Z"⟩ : MethodName)) hown (mvT hZ (hw _ (List.mem_of_getElem? (i := 68) rfl))) (mvT hZ (hw _ (List.mem_of_getElem? (i := 69) rfl))) (notFace_of_selects (args := #[]) (mvT hZ (hw _ (List.mem_of_getElem? (i := 71) rfl)))) (mvT hZ (hw _ (List.mem_of_getElem? (i := 71) rfl))) (mvT hZ (hw _ (List.mem_of_getElem? (i := 70) rfl))) (by decide) (backOf (W := 0) (rm10r l Z a0 hw [] b72 b64 b15 b2 h80 n0 Z80 EE71__80 F_variable_b72__80 F_variable_b64__80) hZ (hw _ (List.mem_of_getElem? (i := 72) rfl)) (hw _ (List.mem_of_getElem? (i := 56) rfl)) (by decide) (by decide)) q82a q82c (g := (mkF m 198 #[.val (.int p0), .val (.int p1), .val (.int p2), .val (.int p3), .val (.ref bA), .val (.ref bS), .val (.ref tt), .val (.ref b1), .val (.int (0 : Int32)), .val (.int (2 : Int32)), .val (.ref b64), .val (.ref b72), .val (.int (0 : Int32))] [(.ref b64), (.ref b72)])) rfl (by rw [hml]; rfl) (Steps.refl _) (argsL := [(.ref b64)]) (rest := []) (lenOf pd_3 rfl) rfl (by show 2 * 0 + _ ≤ _; exact Nat.le_of_eq rfl) (hb hby at_198) (fun _ _ => ⟨rfl, e81, (by decide : 11 + 0 ≤ _), (by decide : 33 + 0 ≤ _)⟩)
      dsimp only [Pt.U, Pt.locs, Pt.cells, Pt.slots] at X82 l82 y82 z82 st82 hQ82
      subst l82 y82 z82
      obtain ⟨rfl, N82q, e82⟩ := hQ82
      have N82 := Fr.app N81 N82q
      refine GoW.st (fun _ k => st82.trans k) ?_
      show GoW _ _ _ _ _ _ _ T82 (mkF m 201 #[.val (.int p0), .val (.int p1), .val (.int p2), .val (.int p3), .val (.ref bA), .val (.ref bS), .val (.ref tt), .val (.ref b1), .val (.int (0 : Int32)), .val (.int (2 : Int32)), .val (.ref b64), .val (.ref b72), .val (.int (0 : Int32))] [(.int (val_10r b72 b64 b15 b2))])
      rw [show (val_10r b72 b64 b15 b2) = (0 : Int32) from by unfold val_10r; rw [if_neg (Ne.symm ne16)]]
      show GoW _ _ _ _ _ _ _ T82 (mkF m 201 #[.val (.int p0), .val (.int p1), .val (.int p2), .val (.int p3), .val (.ref bA), .val (.ref bS), .val (.ref tt), .val (.ref b1), .val (.int (0 : Int32)), .val (.int (2 : Int32)), .val (.ref b64), .val (.ref b72), .val (.int (0 : Int32))] [(.int (0 : Int32))])
      refine GoW.st (fun _ k => XS.iload X82.here hx rfl (hb hby at_201) rfl k) ?_
      show GoW _ _ _ _ _ _ _ T82 (mkF m 203 #[.val (.int p0), .val (.int p1), .val (.int p2), .val (.int p3), .val (.ref bA), .val (.ref bS), .val (.ref tt), .val (.ref b1), .val (.int (0 : Int32)), .val (.int (2 : Int32)), .val (.ref b64), .val (.ref b72), .val (.int (0 : Int32))] [(.int (0 : Int32)), (.int (0 : Int32))])
      refine GoW.st (fun _ k => XS.icmpNo X82.here hx rfl (hb hby at_203) rfl (teq (by decide : (0 : Int32) = (0 : Int32))).2 k) ?_
      show GoW _ _ _ _ _ _ _ T82 (mkF m 206 #[.val (.int p0), .val (.int p1), .val (.int p2), .val (.int p3), .val (.ref bA), .val (.ref bS), .val (.ref tt), .val (.ref b1), .val (.int (0 : Int32)), .val (.int (2 : Int32)), .val (.ref b64), .val (.ref b72), .val (.int (0 : Int32))] [])
      refine GoW.st (fun _ k => XS.iconst X82.here hx rfl (hb hby at_206) k) ?_
      show GoW _ _ _ _ _ _ _ T82 (mkF m 207 #[.val (.int p0), .val (.int p1), .val (.int p2), .val (.int p3), .val (.ref bA), .val (.ref bS), .val (.ref tt), .val (.ref b1), .val (.int (0 : Int32)), .val (.int (2 : Int32)), .val (.ref b64), .val (.ref b72), .val (.int (0 : Int32))] [(.int (1 : Int32))])
      refine GoW.st (fun _ k => XS.goto X82.here hx rfl (pc0 := 207) (pc' := 211) rfl (hb hby at_207) (by decide) (by decide) k) ?_
      show GoW _ _ _ _ _ _ _ T82 (mkF m 211 #[.val (.int p0), .val (.int p1), .val (.int p2), .val (.int p3), .val (.ref bA), .val (.ref bS), .val (.ref tt), .val (.ref b1), .val (.int (0 : Int32)), .val (.int (2 : Int32)), .val (.ref b64), .val (.ref b72), .val (.int (0 : Int32))] [(.int (1 : Int32))])
      refine GoW.ret X82 hS (by rw [e82]; exact hk80) hlk (v := some (.int (1 : Int32))) (fun h => by rw [hret] at h; cases h) (fun fs hr => retN X82 hx (t := .boolean) hret (by simp) (hb hby at_211) hr) ?_ (by decide) (by decide)
      show Q0 Z p0 p1 p2 p3 w_BYTE w_INT G1 h0 n0 (some (.int (1 : Int32))) T82.heap _
      rw [e82]
      exact ⟨rfl, N82⟩
    · rw [hk25]
      show GoW _ _ _ _ _ _ _ T23 (mkF m 132 #[.val (.int p0), .val (.int p1), .val (.int p2), .val (.int p3), .val (.ref bA), .val (.ref bS), .val (.ref tt), .val (.ref b1), .val (.int (0 : Int32)), .unset, .unset, .unset, .unset] [(.int (3 : Int32))])
      refine GoW.st (fun _ k => XS.istore X23.here hx rfl (hb hby at_132) rfl (l' := #[.val (.int p0), .val (.int p1), .val (.int p2), .val (.int p3), .val (.ref bA), .val (.ref bS), .val (.ref tt), .val (.ref b1), .val (.int (0 : Int32)), .val (.int (3 : Int32)), .unset, .unset, .unset]) rfl k) ?_
      show GoW _ _ _ _ _ _ _ T23 (mkF m 134 #[.val (.int p0), .val (.int p1), .val (.int p2), .val (.int p3), .val (.ref bA), .val (.ref bS), .val (.ref tt), .val (.ref b1), .val (.int (0 : Int32)), .val (.int (3 : Int32)), .unset, .unset, .unset] [])
      obtain ⟨T83, h83, X83, e83, E83, A83, D83, -, st83⟩ := newO X23 hx hZ hown (hw _ (List.mem_of_getElem? (i := 54) rfl)) (hw _ (List.mem_of_getElem? (i := 55) rfl)) (hw _ (List.mem_of_getElem? (i := 56) rfl)) e23 (g := (mkF m 134 #[.val (.int p0), .val (.int p1), .val (.int p2), .val (.int p3), .val (.ref bA), .val (.ref bS), .val (.ref tt), .val (.ref b1), .val (.int (0 : Int32)), .val (.int (3 : Int32)), .unset, .unset, .unset] [])) rfl (hb hby at_134) (by decide) (by decide)
      obtain ⟨b83, g83⟩ : ∃ z, z = h23.size := ⟨_, rfl⟩
      rw [← g83] at A83 D83 st83
      have ne84 : b2 ≠ b83 := Nat.ne_of_lt (Nat.lt_of_lt_of_le EE4__23.lt (Nat.le_of_eq g83.symm))
      have ne85 : b8 ≠ b83 := Nat.ne_of_lt (Nat.lt_of_lt_of_le EE11__23.lt (Nat.le_of_eq g83.symm))
      have ne86 : b15 ≠ b83 := Nat.ne_of_lt (Nat.lt_of_lt_of_le EE20__23.lt (Nat.le_of_eq g83.symm))
      have ne87 : b1 ≠ b83 := Nat.ne_of_lt (Nat.lt_of_lt_of_le V_b1__23.lt (Nat.le_of_eq g83.symm))
      have g_b83 : n0 ≤ b83 := Nat.le_trans Z23 (Nat.le_of_eq g83.symm)
      have EE4__83 := EE4__23.ext E83
      have EE11__83 := EE11__23.ext E83
      have EE20__83 := EE20__23.ext E83
      have V_b1__83 := V_b1__23.ext E83
      have Z83 : n0 ≤ h83.size := Nat.le_trans Z23 E83.1
      have hk83 := Nat.le_trans hk23 E83.1
      have F_variable_b83 : Fld Z h83 b83 "com/example/prudent_checker/prudentchecker/language/VariableReference" "variable" "Lcom/example/prudent_checker/prudentchecker/language/Variable;" .null := D83 (Or.inr (hw _ (List.mem_of_getElem? (i := 67) rfl))) (ty := (.object "com/example/prudent_checker/prudentchecker/language/Variable")) (by decide)
      refine GoW.st st83 ?_
      show GoW _ _ _ _ _ _ _ T83 (mkF m 137 #[.val (.int p0), .val (.int p1), .val (.int p2), .val (.int p3), .val (.ref bA), .val (.ref bS), .val (.ref tt), .val (.ref b1), .val (.int (0 : Int32)), .val (.int (3 : Int32)), .unset, .unset, .unset] [(.ref b83)])
      refine GoW.st (fun _ k => XS.dup X83.here hx rfl (hb hby at_137) rfl rfl k) ?_
      show GoW _ _ _ _ _ _ _ T83 (mkF m 138 #[.val (.int p0), .val (.int p1), .val (.int p2), .val (.int p3), .val (.ref bA), .val (.ref bS), .val (.ref tt), .val (.ref b1), .val (.int (0 : Int32)), .val (.int (3 : Int32)), .unset, .unset, .unset] [(.ref b83), (.ref b83)])
      refine GoW.st (fun _ k => XS.aload X83.here hx rfl (hb hby at_138) rfl rfl k) ?_
      show GoW _ _ _ _ _ _ _ T83 (mkF m 140 #[.val (.int p0), .val (.int p1), .val (.int p2), .val (.int p3), .val (.ref bA), .val (.ref bS), .val (.ref tt), .val (.ref b1), .val (.int (0 : Int32)), .val (.int (3 : Int32)), .unset, .unset, .unset] [(.ref b1), (.ref b83), (.ref b83)])
      refine GoW.st (fun _ k => XS.iload X83.here hx rfl (hb hby at_140) rfl k) ?_
      show GoW _ _ _ _ _ _ _ T83 (mkF m 142 #[.val (.int p0), .val (.int p1), .val (.int p2), .val (.int p3), .val (.ref bA), .val (.ref bS), .val (.ref tt), .val (.ref b1), .val (.int (0 : Int32)), .val (.int (3 : Int32)), .unset, .unset, .unset] [(.int (0 : Int32)), (.ref b1), (.ref b83), (.ref b83)])
      obtain ⟨cl88, Ar88, qq88, SS88, NN88, HH88, GG88⟩ := id V_b1__83
      have hin89 : ¬ ((0 : Int32) < 0 ∨ cl88.slots.size ≤ ((0 : Int32)).toNatClampNeg) := inb_of SS88 ⟨by decide, by decide⟩
      refine GoW.st (fun _ k => X83.aaload hx (j := (0 : Int32)) (v := (.ref b2)) (by rw [e83]; exact Ar88.1) (State.isArrayOf_alike hZ.alike Ar88.2.1) rfl Ar88.2.2 hin89 (HH88.at hin89 rfl) (g := (mkF m 142 #[.val (.int p0), .val (.int p1), .val (.int p2), .val (.int p3), .val (.ref bA), .val (.ref bS), .val (.ref tt), .val (.ref b1), .val (.int (0 : Int32)), .val (.int (3 : Int32)), .unset, .unset, .unset] [(.int (0 : Int32)), (.ref b1), (.ref b83), (.ref b83)])) rfl rfl (hb hby at_142) _ k) ?_
      show GoW _ _ _ _ _ _ _ T83 (mkF m 143 #[.val (.int p0), .val (.int p1), .val (.int p2), .val (.int p3), .val (.ref bA), .val (.ref bS), .val (.ref tt), .val (.ref b1), .val (.int (0 : Int32)), .val (.int (3 : Int32)), .unset, .unset, .unset] [(.ref b2), (.ref b83), (.ref b83)])
      obtain ⟨_, _, ⟨T90, L90, k90, n90⟩, -, X90, ⟨Lc90, hQ90, l90, y90, z90⟩, st90⟩ := X83.specialBack hx (y := (⟨"com/example/prudent_checker/prudentchecker/language/VariableReference", "<init>", "(Lcom/example/prudent_checker/prudentchecker/language/Variable;)V"⟩ : MethodName)) rfl hown (mvT hZ (hw _ (List.mem_of_getElem? (i := 57) rfl))) (mvT hZ (hw _ (List.mem_of_getElem? (i := 58) rfl))) (mvT hZ (hw _ (List.mem_of_getElem? (i := 59) rfl))) (by decide) (backOf (W := 1) (rm8 l Z a0 hw [] b83 b2 .null h83 n0 Z83 A83 F_variable_b83 g_b83) hZ (hw _ (List.mem_of_getElem? (i := 59) rfl)) (hw _ (List.mem_of_getElem? (i := 56) rfl)) (by decide) (by decide)) (g := (mkF m 143 #[.val (.int p0), .val (.int p1), .val (.int p2), .val (.int p3), .val (.ref bA), .val (.ref bS), .val (.ref tt), .val (.ref b1), .val (.int (0 : Int32)), .val (.int (3 : Int32)), .unset, .unset, .unset] [(.ref b2), (.ref b83), (.ref b83)])) rfl (by rw [hml]; rfl) (Steps.refl _) (a := b83) (argsL := [(.ref b2)]) (rest := [(.ref b83)]) (lenOf pd_2 rfl) rfl (by show 2 * 0 + _ ≤ _; exact Nat.le_of_eq rfl) (hb hby at_143) (fun _ _ => ⟨rfl, e83, (by decide : 10 + 0 ≤ _), (by decide : 32 + 0 ≤ _)⟩)
      dsimp only [Pt.U, Pt.locs, Pt.cells, Pt.slots] at X90 l90 y90 z90 st90 hQ90
      subst l90 y90 z90
      generalize e90 : T90.heap = h90 at hQ90
      obtain ⟨rfl, N90q, K90, EE90, FF_variable_90⟩ := hQ90
      have N90 := Fr.app N23 N90q
      refine GoW.st (fun _ k => st90.trans k) ?_
      have EE4__90 := EE4__83.keep K90
      have EE11__90 := EE11__83.keep K90
      have EE20__90 := EE20__83.keep K90
      have V_b1__90 := V_b1__83.keep K90 (ninS ne87 (nin0))
      have A83__90 := A83.keep K90
      have Z90 : n0 ≤ h90.size := Nat.le_trans Z83 K90.1
      have hk90 := Nat.le_trans hk83 K90.1
      rw [show (val_8_variable b83 b2 .null) = (.ref b2) from by unfold val_8_variable; rfl] at FF_variable_90
      have F_variable_b83__90 := FF_variable_90
      show GoW _ _ _ _ _ _ _ T90 (mkF m 146 #[.val (.int p0), .val (.int p1), .val (.int p2), .val (.int p3), .val (.ref bA), .val (.ref bS), .val (.ref tt), .val (.ref b1), .val (.int (0 : Int32)), .val (.int (3 : Int32)), .unset, .unset, .unset] [(.ref b83)])
      refine GoW.st (fun _ k => XS.astore X90.here hx rfl (hb hby at_146) rfl rfl (l' := #[.val (.int p0), .val (.int p1), .val (.int p2), .val (.int p3), .val (.ref bA), .val (.ref bS), .val (.ref tt), .val (.ref b1), .val (.int (0 : Int32)), .val (.int (3 : Int32)), .val (.ref b83), .unset, .unset]) rfl k) ?_
      show GoW _ _ _ _ _ _ _ T90 (mkF m 148 #[.val (.int p0), .val (.int p1), .val (.int p2), .val (.int p3), .val (.ref bA), .val (.ref bS), .val (.ref tt), .val (.ref b1), .val (.int (0 : Int32)), .val (.int (3 : Int32)), .val (.ref b83), .unset, .unset] [])
      refine GoW.st (fun _ k => XS.iload X90.here hx rfl (hb hby at_148) rfl k) ?_
      show GoW _ _ _ _ _ _ _ T90 (mkF m 150 #[.val (.int p0), .val (.int p1), .val (.int p2), .val (.int p3), .val (.ref bA), .val (.ref bS), .val (.ref tt), .val (.ref b1), .val (.int (0 : Int32)), .val (.int (3 : Int32)), .val (.ref b83), .unset, .unset] [(.int (3 : Int32))])
      refine GoW.st (fun _ k => XS.iconst X90.here hx rfl (hb hby at_150) k) ?_
      show GoW _ _ _ _ _ _ _ T90 (mkF m 151 #[.val (.int p0), .val (.int p1), .val (.int p2), .val (.int p3), .val (.ref bA), .val (.ref bS), .val (.ref tt), .val (.ref b1), .val (.int (0 : Int32)), .val (.int (3 : Int32)), .val (.ref b83), .unset, .unset] [(.int (3 : Int32)), (.int (3 : Int32))])
      refine GoW.st (fun _ k => XS.icmpYes X90.here hx rfl (pc0 := 151) (pc' := 212) rfl (hb hby at_151) rfl (flt (by decide : ¬ ((3 : Int32) < (3 : Int32)))).2.1 (by decide) (by decide) k) ?_
      show GoW _ _ _ _ _ _ _ T90 (mkF m 212 #[.val (.int p0), .val (.int p1), .val (.int p2), .val (.int p3), .val (.ref bA), .val (.ref bS), .val (.ref tt), .val (.ref b1), .val (.int (0 : Int32)), .val (.int (3 : Int32)), .val (.ref b83), .unset, .unset] [])
      refine GoW.st (fun _ k => XS.iload X90.here hx rfl (hb hby at_212) rfl k) ?_
      show GoW _ _ _ _ _ _ _ T90 (mkF m 214 #[.val (.int p0), .val (.int p1), .val (.int p2), .val (.int p3), .val (.ref bA), .val (.ref bS), .val (.ref tt), .val (.ref b1), .val (.int (0 : Int32)), .val (.int (3 : Int32)), .val (.ref b83), .unset, .unset] [(.int (3 : Int32))])
      refine GoW.st (fun _ k => XS.iconst X90.here hx rfl (hb hby at_214) k) ?_
      show GoW _ _ _ _ _ _ _ T90 (mkF m 215 #[.val (.int p0), .val (.int p1), .val (.int p2), .val (.int p3), .val (.ref bA), .val (.ref bS), .val (.ref tt), .val (.ref b1), .val (.int (0 : Int32)), .val (.int (3 : Int32)), .val (.ref b83), .unset, .unset] [(.int (3 : Int32)), (.int (3 : Int32))])
      refine GoW.st (fun _ k => XS.icmpNo X90.here hx rfl (hb hby at_215) rfl (teq (by decide : (3 : Int32) = (3 : Int32))).2 k) ?_
      show GoW _ _ _ _ _ _ _ T90 (mkF m 218 #[.val (.int p0), .val (.int p1), .val (.int p2), .val (.int p3), .val (.ref bA), .val (.ref bS), .val (.ref tt), .val (.ref b1), .val (.int (0 : Int32)), .val (.int (3 : Int32)), .val (.ref b83), .unset, .unset] [])
      refine GoW.st (fun _ k => XS.aload X90.here hx rfl (hb hby at_218) rfl rfl k) ?_
      show GoW _ _ _ _ _ _ _ T90 (mkF m 220 #[.val (.int p0), .val (.int p1), .val (.int p2), .val (.int p3), .val (.ref bA), .val (.ref bS), .val (.ref tt), .val (.ref b1), .val (.int (0 : Int32)), .val (.int (3 : Int32)), .val (.ref b83), .unset, .unset] [(.ref b83)])
      refine GoW.st (fun _ k => XS.aload X90.here hx rfl (hb hby at_220) rfl rfl k) ?_
      show GoW _ _ _ _ _ _ _ T90 (mkF m 222 #[.val (.int p0), .val (.int p1), .val (.int p2), .val (.int p3), .val (.ref bA), .val (.ref bS), .val (.ref tt), .val (.ref b1), .val (.int (0 : Int32)), .val (.int (3 : Int32)), .val (.ref b83), .unset, .unset] [(.ref b1), (.ref b83)])
      refine GoW.st (fun _ k => XS.iload X90.here hx rfl (hb hby at_222) rfl k) ?_
      show GoW _ _ _ _ _ _ _ T90 (mkF m 224 #[.val (.int p0), .val (.int p1), .val (.int p2), .val (.int p3), .val (.ref bA), .val (.ref bS), .val (.ref tt), .val (.ref b1), .val (.int (0 : Int32)), .val (.int (3 : Int32)), .val (.ref b83), .unset, .unset] [(.int (0 : Int32)), (.ref b1), (.ref b83)])
      obtain ⟨cl91, Ar91, qq91, SS91, NN91, HH91, GG91⟩ := id V_b1__90
      have hin92 : ¬ ((0 : Int32) < 0 ∨ cl91.slots.size ≤ ((0 : Int32)).toNatClampNeg) := inb_of SS91 ⟨by decide, by decide⟩
      refine GoW.st (fun _ k => X90.aaload hx (j := (0 : Int32)) (v := (.ref b2)) (by rw [e90]; exact Ar91.1) (State.isArrayOf_alike hZ.alike Ar91.2.1) rfl Ar91.2.2 hin92 (HH91.at hin92 rfl) (g := (mkF m 224 #[.val (.int p0), .val (.int p1), .val (.int p2), .val (.int p3), .val (.ref bA), .val (.ref bS), .val (.ref tt), .val (.ref b1), .val (.int (0 : Int32)), .val (.int (3 : Int32)), .val (.ref b83), .unset, .unset] [(.int (0 : Int32)), (.ref b1), (.ref b83)])) rfl rfl (hb hby at_224) _ k) ?_
      show GoW _ _ _ _ _ _ _ T90 (mkF m 225 #[.val (.int p0), .val (.int p1), .val (.int p2), .val (.int p3), .val (.ref bA), .val (.ref bS), .val (.ref tt), .val (.ref b1), .val (.int (0 : Int32)), .val (.int (3 : Int32)), .val (.ref b83), .unset, .unset] [(.ref b2), (.ref b83)])
      obtain ⟨cq93, kq93, q93a, q93b, q93c⟩ := isOf hZ e90 EE90
      obtain ⟨_, _, ⟨T93, L93, k93, n93⟩, -, X93, ⟨Lc93, hQ93, l93, y93, z93⟩, st93⟩ := X90.virtualBack hx (y := (⟨"com/example/prudent_checker/prudentchecker/language/VariableReference", "equals", "(Ljava/lang/Object;)Z"⟩ : MethodName)) (z := (⟨"com/example/prudent_checker/prudentchecker/language/VariableReference", "equals", "(Ljava/lang/Object;)Z"⟩ : MethodName)) hown (mvT hZ (hw _ (List.mem_of_getElem? (i := 68) rfl))) (mvT hZ (hw _ (List.mem_of_getElem? (i := 69) rfl))) (notFace_of_selects (args := #[]) (mvT hZ (hw _ (List.mem_of_getElem? (i := 71) rfl)))) (mvT hZ (hw _ (List.mem_of_getElem? (i := 71) rfl))) (mvT hZ (hw _ (List.mem_of_getElem? (i := 70) rfl))) (by decide) (backOf (W := 0) (rm10v l Z a0 hw [] b83 b2  h90 n0 Z90 EE4__90) hZ (hw _ (List.mem_of_getElem? (i := 72) rfl)) (hw _ (List.mem_of_getElem? (i := 56) rfl)) (by decide) (by decide)) q93a q93c (g := (mkF m 225 #[.val (.int p0), .val (.int p1), .val (.int p2), .val (.int p3), .val (.ref bA), .val (.ref bS), .val (.ref tt), .val (.ref b1), .val (.int (0 : Int32)), .val (.int (3 : Int32)), .val (.ref b83), .unset, .unset] [(.ref b2), (.ref b83)])) rfl (by rw [hml]; rfl) (Steps.refl _) (argsL := [(.ref b2)]) (rest := []) (lenOf pd_3 rfl) rfl (by show 2 * 0 + _ ≤ _; exact Nat.le_of_eq rfl) (hb hby at_225) (fun _ _ => ⟨rfl, e90, (by decide : 10 + 0 ≤ _), (by decide : 32 + 0 ≤ _)⟩)
      dsimp only [Pt.U, Pt.locs, Pt.cells, Pt.slots] at X93 l93 y93 z93 st93 hQ93
      subst l93 y93 z93
      obtain ⟨rfl, N93q, e93⟩ := hQ93
      have N93 := Fr.app N90 N93q
      refine GoW.st (fun _ k => st93.trans k) ?_
      show GoW _ _ _ _ _ _ _ T93 (mkF m 228 #[.val (.int p0), .val (.int p1), .val (.int p2), .val (.int p3), .val (.ref bA), .val (.ref bS), .val (.ref tt), .val (.ref b1), .val (.int (0 : Int32)), .val (.int (3 : Int32)), .val (.ref b83), .unset, .unset] [(.int (val_10v b83 b2))])
      rw [show (val_10v b83 b2) = (0 : Int32) from by unfold val_10v; rfl]
      show GoW _ _ _ _ _ _ _ T93 (mkF m 228 #[.val (.int p0), .val (.int p1), .val (.int p2), .val (.int p3), .val (.ref bA), .val (.ref bS), .val (.ref tt), .val (.ref b1), .val (.int (0 : Int32)), .val (.int (3 : Int32)), .val (.ref b83), .unset, .unset] [(.int (0 : Int32))])
      refine GoW.st (fun _ k => XS.ifNo X93.here hx rfl (hb hby at_228) rfl ((if0 _ _).trans (teq (by decide : (0 : Int32) = (0 : Int32))).2) k) ?_
      show GoW _ _ _ _ _ _ _ T93 (mkF m 231 #[.val (.int p0), .val (.int p1), .val (.int p2), .val (.int p3), .val (.ref bA), .val (.ref bS), .val (.ref tt), .val (.ref b1), .val (.int (0 : Int32)), .val (.int (3 : Int32)), .val (.ref b83), .unset, .unset] [])
      refine GoW.st (fun _ k => XS.iconst X93.here hx rfl (hb hby at_231) k) ?_
      show GoW _ _ _ _ _ _ _ T93 (mkF m 232 #[.val (.int p0), .val (.int p1), .val (.int p2), .val (.int p3), .val (.ref bA), .val (.ref bS), .val (.ref tt), .val (.ref b1), .val (.int (0 : Int32)), .val (.int (3 : Int32)), .val (.ref b83), .unset, .unset] [(.int (1 : Int32))])
      refine GoW.st (fun _ k => XS.goto X93.here hx rfl (pc0 := 232) (pc' := 236) rfl (hb hby at_232) (by decide) (by decide) k) ?_
      show GoW _ _ _ _ _ _ _ T93 (mkF m 236 #[.val (.int p0), .val (.int p1), .val (.int p2), .val (.int p3), .val (.ref bA), .val (.ref bS), .val (.ref tt), .val (.ref b1), .val (.int (0 : Int32)), .val (.int (3 : Int32)), .val (.ref b83), .unset, .unset] [(.int (1 : Int32))])
      refine GoW.ret X93 hS (by rw [e93]; exact hk90) hlk (v := some (.int (1 : Int32))) (fun h => by rw [hret] at h; cases h) (fun fs hr => retN X93 hx (t := .boolean) hret (by simp) (hb hby at_236) hr) ?_ (by decide) (by decide)
      show Q0 Z p0 p1 p2 p3 w_BYTE w_INT G1 h0 n0 (some (.int (1 : Int32))) T93.heap _
      rw [e93]
      exact ⟨rfl, N93⟩
    · rw [hk25]
      show GoW _ _ _ _ _ _ _ T23 (mkF m 132 #[.val (.int p0), .val (.int p1), .val (.int p2), .val (.int p3), .val (.ref bA), .val (.ref bS), .val (.ref tt), .val (.ref b1), .val (.int (0 : Int32)), .unset, .unset, .unset, .unset] [(.int (4 : Int32))])
      refine GoW.st (fun _ k => XS.istore X23.here hx rfl (hb hby at_132) rfl (l' := #[.val (.int p0), .val (.int p1), .val (.int p2), .val (.int p3), .val (.ref bA), .val (.ref bS), .val (.ref tt), .val (.ref b1), .val (.int (0 : Int32)), .val (.int (4 : Int32)), .unset, .unset, .unset]) rfl k) ?_
      show GoW _ _ _ _ _ _ _ T23 (mkF m 134 #[.val (.int p0), .val (.int p1), .val (.int p2), .val (.int p3), .val (.ref bA), .val (.ref bS), .val (.ref tt), .val (.ref b1), .val (.int (0 : Int32)), .val (.int (4 : Int32)), .unset, .unset, .unset] [])
      obtain ⟨T94, h94, X94, e94, E94, A94, D94, -, st94⟩ := newO X23 hx hZ hown (hw _ (List.mem_of_getElem? (i := 54) rfl)) (hw _ (List.mem_of_getElem? (i := 55) rfl)) (hw _ (List.mem_of_getElem? (i := 56) rfl)) e23 (g := (mkF m 134 #[.val (.int p0), .val (.int p1), .val (.int p2), .val (.int p3), .val (.ref bA), .val (.ref bS), .val (.ref tt), .val (.ref b1), .val (.int (0 : Int32)), .val (.int (4 : Int32)), .unset, .unset, .unset] [])) rfl (hb hby at_134) (by decide) (by decide)
      obtain ⟨b94, g94⟩ : ∃ z, z = h23.size := ⟨_, rfl⟩
      rw [← g94] at A94 D94 st94
      have ne95 : b2 ≠ b94 := Nat.ne_of_lt (Nat.lt_of_lt_of_le EE4__23.lt (Nat.le_of_eq g94.symm))
      have ne96 : b8 ≠ b94 := Nat.ne_of_lt (Nat.lt_of_lt_of_le EE11__23.lt (Nat.le_of_eq g94.symm))
      have ne97 : b15 ≠ b94 := Nat.ne_of_lt (Nat.lt_of_lt_of_le EE20__23.lt (Nat.le_of_eq g94.symm))
      have ne98 : b1 ≠ b94 := Nat.ne_of_lt (Nat.lt_of_lt_of_le V_b1__23.lt (Nat.le_of_eq g94.symm))
      have g_b94 : n0 ≤ b94 := Nat.le_trans Z23 (Nat.le_of_eq g94.symm)
      have EE4__94 := EE4__23.ext E94
      have EE11__94 := EE11__23.ext E94
      have EE20__94 := EE20__23.ext E94
      have V_b1__94 := V_b1__23.ext E94
      have Z94 : n0 ≤ h94.size := Nat.le_trans Z23 E94.1
      have hk94 := Nat.le_trans hk23 E94.1
      have F_variable_b94 : Fld Z h94 b94 "com/example/prudent_checker/prudentchecker/language/VariableReference" "variable" "Lcom/example/prudent_checker/prudentchecker/language/Variable;" .null := D94 (Or.inr (hw _ (List.mem_of_getElem? (i := 67) rfl))) (ty := (.object "com/example/prudent_checker/prudentchecker/language/Variable")) (by decide)
      refine GoW.st st94 ?_
      show GoW _ _ _ _ _ _ _ T94 (mkF m 137 #[.val (.int p0), .val (.int p1), .val (.int p2), .val (.int p3), .val (.ref bA), .val (.ref bS), .val (.ref tt), .val (.ref b1), .val (.int (0 : Int32)), .val (.int (4 : Int32)), .unset, .unset, .unset] [(.ref b94)])
      refine GoW.st (fun _ k => XS.dup X94.here hx rfl (hb hby at_137) rfl rfl k) ?_
      show GoW _ _ _ _ _ _ _ T94 (mkF m 138 #[.val (.int p0), .val (.int p1), .val (.int p2), .val (.int p3), .val (.ref bA), .val (.ref bS), .val (.ref tt), .val (.ref b1), .val (.int (0 : Int32)), .val (.int (4 : Int32)), .unset, .unset, .unset] [(.ref b94), (.ref b94)])
      refine GoW.st (fun _ k => XS.aload X94.here hx rfl (hb hby at_138) rfl rfl k) ?_
      show GoW _ _ _ _ _ _ _ T94 (mkF m 140 #[.val (.int p0), .val (.int p1), .val (.int p2), .val (.int p3), .val (.ref bA), .val (.ref bS), .val (.ref tt), .val (.ref b1), .val (.int (0 : Int32)), .val (.int (4 : Int32)), .unset, .unset, .unset] [(.ref b1), (.ref b94), (.ref b94)])
      refine GoW.st (fun _ k => XS.iload X94.here hx rfl (hb hby at_140) rfl k) ?_
      show GoW _ _ _ _ _ _ _ T94 (mkF m 142 #[.val (.int p0), .val (.int p1), .val (.int p2), .val (.int p3), .val (.ref bA), .val (.ref bS), .val (.ref tt), .val (.ref b1), .val (.int (0 : Int32)), .val (.int (4 : Int32)), .unset, .unset, .unset] [(.int (0 : Int32)), (.ref b1), (.ref b94), (.ref b94)])
      obtain ⟨cl99, Ar99, qq99, SS99, NN99, HH99, GG99⟩ := id V_b1__94
      have hin100 : ¬ ((0 : Int32) < 0 ∨ cl99.slots.size ≤ ((0 : Int32)).toNatClampNeg) := inb_of SS99 ⟨by decide, by decide⟩
      refine GoW.st (fun _ k => X94.aaload hx (j := (0 : Int32)) (v := (.ref b2)) (by rw [e94]; exact Ar99.1) (State.isArrayOf_alike hZ.alike Ar99.2.1) rfl Ar99.2.2 hin100 (HH99.at hin100 rfl) (g := (mkF m 142 #[.val (.int p0), .val (.int p1), .val (.int p2), .val (.int p3), .val (.ref bA), .val (.ref bS), .val (.ref tt), .val (.ref b1), .val (.int (0 : Int32)), .val (.int (4 : Int32)), .unset, .unset, .unset] [(.int (0 : Int32)), (.ref b1), (.ref b94), (.ref b94)])) rfl rfl (hb hby at_142) _ k) ?_
      show GoW _ _ _ _ _ _ _ T94 (mkF m 143 #[.val (.int p0), .val (.int p1), .val (.int p2), .val (.int p3), .val (.ref bA), .val (.ref bS), .val (.ref tt), .val (.ref b1), .val (.int (0 : Int32)), .val (.int (4 : Int32)), .unset, .unset, .unset] [(.ref b2), (.ref b94), (.ref b94)])
      obtain ⟨_, _, ⟨T101, L101, k101, n101⟩, -, X101, ⟨Lc101, hQ101, l101, y101, z101⟩, st101⟩ := X94.specialBack hx (y := (⟨"com/example/prudent_checker/prudentchecker/language/VariableReference", "<init>", "(Lcom/example/prudent_checker/prudentchecker/language/Variable;)V"⟩ : MethodName)) rfl hown (mvT hZ (hw _ (List.mem_of_getElem? (i := 57) rfl))) (mvT hZ (hw _ (List.mem_of_getElem? (i := 58) rfl))) (mvT hZ (hw _ (List.mem_of_getElem? (i := 59) rfl))) (by decide) (backOf (W := 1) (rm8 l Z a0 hw [] b94 b2 .null h94 n0 Z94 A94 F_variable_b94 g_b94) hZ (hw _ (List.mem_of_getElem? (i := 59) rfl)) (hw _ (List.mem_of_getElem? (i := 56) rfl)) (by decide) (by decide)) (g := (mkF m 143 #[.val (.int p0), .val (.int p1), .val (.int p2), .val (.int p3), .val (.ref bA), .val (.ref bS), .val (.ref tt), .val (.ref b1), .val (.int (0 : Int32)), .val (.int (4 : Int32)), .unset, .unset, .unset] [(.ref b2), (.ref b94), (.ref b94)])) rfl (by rw [hml]; rfl) (Steps.refl _) (a := b94) (argsL := [(.ref b2)]) (rest := [(.ref b94)]) (lenOf pd_2 rfl) rfl (by show 2 * 0 + _ ≤ _; exact Nat.le_of_eq rfl) (hb hby at_143) (fun _ _ => ⟨rfl, e94, (by decide : 10 + 0 ≤ _), (by decide : 32 + 0 ≤ _)⟩)
      dsimp only [Pt.U, Pt.locs, Pt.cells, Pt.slots] at X101 l101 y101 z101 st101 hQ101
      subst l101 y101 z101
      generalize e101 : T101.heap = h101 at hQ101
      obtain ⟨rfl, N101q, K101, EE101, FF_variable_101⟩ := hQ101
      have N101 := Fr.app N23 N101q
      refine GoW.st (fun _ k => st101.trans k) ?_
      have EE4__101 := EE4__94.keep K101
      have EE11__101 := EE11__94.keep K101
      have EE20__101 := EE20__94.keep K101
      have V_b1__101 := V_b1__94.keep K101 (ninS ne98 (nin0))
      have A94__101 := A94.keep K101
      have Z101 : n0 ≤ h101.size := Nat.le_trans Z94 K101.1
      have hk101 := Nat.le_trans hk94 K101.1
      rw [show (val_8_variable b94 b2 .null) = (.ref b2) from by unfold val_8_variable; rfl] at FF_variable_101
      have F_variable_b94__101 := FF_variable_101
      show GoW _ _ _ _ _ _ _ T101 (mkF m 146 #[.val (.int p0), .val (.int p1), .val (.int p2), .val (.int p3), .val (.ref bA), .val (.ref bS), .val (.ref tt), .val (.ref b1), .val (.int (0 : Int32)), .val (.int (4 : Int32)), .unset, .unset, .unset] [(.ref b94)])
      refine GoW.st (fun _ k => XS.astore X101.here hx rfl (hb hby at_146) rfl rfl (l' := #[.val (.int p0), .val (.int p1), .val (.int p2), .val (.int p3), .val (.ref bA), .val (.ref bS), .val (.ref tt), .val (.ref b1), .val (.int (0 : Int32)), .val (.int (4 : Int32)), .val (.ref b94), .unset, .unset]) rfl k) ?_
      show GoW _ _ _ _ _ _ _ T101 (mkF m 148 #[.val (.int p0), .val (.int p1), .val (.int p2), .val (.int p3), .val (.ref bA), .val (.ref bS), .val (.ref tt), .val (.ref b1), .val (.int (0 : Int32)), .val (.int (4 : Int32)), .val (.ref b94), .unset, .unset] [])
      refine GoW.st (fun _ k => XS.iload X101.here hx rfl (hb hby at_148) rfl k) ?_
      show GoW _ _ _ _ _ _ _ T101 (mkF m 150 #[.val (.int p0), .val (.int p1), .val (.int p2), .val (.int p3), .val (.ref bA), .val (.ref bS), .val (.ref tt), .val (.ref b1), .val (.int (0 : Int32)), .val (.int (4 : Int32)), .val (.ref b94), .unset, .unset] [(.int (4 : Int32))])
      refine GoW.st (fun _ k => XS.iconst X101.here hx rfl (hb hby at_150) k) ?_
      show GoW _ _ _ _ _ _ _ T101 (mkF m 151 #[.val (.int p0), .val (.int p1), .val (.int p2), .val (.int p3), .val (.ref bA), .val (.ref bS), .val (.ref tt), .val (.ref b1), .val (.int (0 : Int32)), .val (.int (4 : Int32)), .val (.ref b94), .unset, .unset] [(.int (3 : Int32)), (.int (4 : Int32))])
      refine GoW.st (fun _ k => XS.icmpYes X101.here hx rfl (pc0 := 151) (pc' := 212) rfl (hb hby at_151) rfl (flt (by decide : ¬ ((4 : Int32) < (3 : Int32)))).2.1 (by decide) (by decide) k) ?_
      show GoW _ _ _ _ _ _ _ T101 (mkF m 212 #[.val (.int p0), .val (.int p1), .val (.int p2), .val (.int p3), .val (.ref bA), .val (.ref bS), .val (.ref tt), .val (.ref b1), .val (.int (0 : Int32)), .val (.int (4 : Int32)), .val (.ref b94), .unset, .unset] [])
      refine GoW.st (fun _ k => XS.iload X101.here hx rfl (hb hby at_212) rfl k) ?_
      show GoW _ _ _ _ _ _ _ T101 (mkF m 214 #[.val (.int p0), .val (.int p1), .val (.int p2), .val (.int p3), .val (.ref bA), .val (.ref bS), .val (.ref tt), .val (.ref b1), .val (.int (0 : Int32)), .val (.int (4 : Int32)), .val (.ref b94), .unset, .unset] [(.int (4 : Int32))])
      refine GoW.st (fun _ k => XS.iconst X101.here hx rfl (hb hby at_214) k) ?_
      show GoW _ _ _ _ _ _ _ T101 (mkF m 215 #[.val (.int p0), .val (.int p1), .val (.int p2), .val (.int p3), .val (.ref bA), .val (.ref bS), .val (.ref tt), .val (.ref b1), .val (.int (0 : Int32)), .val (.int (4 : Int32)), .val (.ref b94), .unset, .unset] [(.int (3 : Int32)), (.int (4 : Int32))])
      refine GoW.st (fun _ k => XS.icmpYes X101.here hx rfl (pc0 := 215) (pc' := 237) rfl (hb hby at_215) rfl (feq (by decide : ¬ ((4 : Int32) = (3 : Int32)))).2 (by decide) (by decide) k) ?_
      show GoW _ _ _ _ _ _ _ T101 (mkF m 237 #[.val (.int p0), .val (.int p1), .val (.int p2), .val (.int p3), .val (.ref bA), .val (.ref bS), .val (.ref tt), .val (.ref b1), .val (.int (0 : Int32)), .val (.int (4 : Int32)), .val (.ref b94), .unset, .unset] [])
      refine GoW.st (fun _ k => XS.iload X101.here hx rfl (hb hby at_237) rfl k) ?_
      show GoW _ _ _ _ _ _ _ T101 (mkF m 239 #[.val (.int p0), .val (.int p1), .val (.int p2), .val (.int p3), .val (.ref bA), .val (.ref bS), .val (.ref tt), .val (.ref b1), .val (.int (0 : Int32)), .val (.int (4 : Int32)), .val (.ref b94), .unset, .unset] [(.int (4 : Int32))])
      refine GoW.st (fun _ k => XS.iconst X101.here hx rfl (hb hby at_239) k) ?_
      show GoW _ _ _ _ _ _ _ T101 (mkF m 240 #[.val (.int p0), .val (.int p1), .val (.int p2), .val (.int p3), .val (.ref bA), .val (.ref bS), .val (.ref tt), .val (.ref b1), .val (.int (0 : Int32)), .val (.int (4 : Int32)), .val (.ref b94), .unset, .unset] [(.int (4 : Int32)), (.int (4 : Int32))])
      refine GoW.st (fun _ k => XS.icmpNo X101.here hx rfl (hb hby at_240) rfl (teq (by decide : (4 : Int32) = (4 : Int32))).2 k) ?_
      show GoW _ _ _ _ _ _ _ T101 (mkF m 243 #[.val (.int p0), .val (.int p1), .val (.int p2), .val (.int p3), .val (.ref bA), .val (.ref bS), .val (.ref tt), .val (.ref b1), .val (.int (0 : Int32)), .val (.int (4 : Int32)), .val (.ref b94), .unset, .unset] [])
      refine GoW.st (fun _ k => XS.aload X101.here hx rfl (hb hby at_243) rfl rfl k) ?_
      show GoW _ _ _ _ _ _ _ T101 (mkF m 245 #[.val (.int p0), .val (.int p1), .val (.int p2), .val (.int p3), .val (.ref bA), .val (.ref bS), .val (.ref tt), .val (.ref b1), .val (.int (0 : Int32)), .val (.int (4 : Int32)), .val (.ref b94), .unset, .unset] [(.ref b94)])
      refine GoW.st (fun _ k => XS.aconstNull X101.here hx rfl (hb hby at_245) k) ?_
      show GoW _ _ _ _ _ _ _ T101 (mkF m 246 #[.val (.int p0), .val (.int p1), .val (.int p2), .val (.int p3), .val (.ref bA), .val (.ref bS), .val (.ref tt), .val (.ref b1), .val (.int (0 : Int32)), .val (.int (4 : Int32)), .val (.ref b94), .unset, .unset] [.null, (.ref b94)])
      obtain ⟨cq102, kq102, q102a, q102b, q102c⟩ := isOf hZ e101 EE101
      obtain ⟨_, _, ⟨T102, L102, k102, n102⟩, -, X102, ⟨Lc102, hQ102, l102, y102, z102⟩, st102⟩ := X101.virtualBack hx (y := (⟨"com/example/prudent_checker/prudentchecker/language/VariableReference", "equals", "(Ljava/lang/Object;)Z"⟩ : MethodName)) (z := (⟨"com/example/prudent_checker/prudentchecker/language/VariableReference", "equals", "(Ljava/lang/Object;)Z"⟩ : MethodName)) hown (mvT hZ (hw _ (List.mem_of_getElem? (i := 68) rfl))) (mvT hZ (hw _ (List.mem_of_getElem? (i := 69) rfl))) (notFace_of_selects (args := #[]) (mvT hZ (hw _ (List.mem_of_getElem? (i := 71) rfl)))) (mvT hZ (hw _ (List.mem_of_getElem? (i := 71) rfl))) (mvT hZ (hw _ (List.mem_of_getElem? (i := 70) rfl))) (by decide) (backOf (W := 0) (rm10n l Z a0 hw [] b94  h101 n0 Z101 ) hZ (hw _ (List.mem_of_getElem? (i := 72) rfl)) (hw _ (List.mem_of_getElem? (i := 56) rfl)) (by decide) (by decide)) q102a q102c (g := (mkF m 246 #[.val (.int p0), .val (.int p1), .val (.int p2), .val (.int p3), .val (.ref bA), .val (.ref bS), .val (.ref tt), .val (.ref b1), .val (.int (0 : Int32)), .val (.int (4 : Int32)), .val (.ref b94), .unset, .unset] [.null, (.ref b94)])) rfl (by rw [hml]; rfl) (Steps.refl _) (argsL := [.null]) (rest := []) (lenOf pd_3 rfl) rfl (by show 2 * 0 + _ ≤ _; exact Nat.le_of_eq rfl) (hb hby at_246) (fun _ _ => ⟨rfl, e101, (by decide : 10 + 0 ≤ _), (by decide : 32 + 0 ≤ _)⟩)
      dsimp only [Pt.U, Pt.locs, Pt.cells, Pt.slots] at X102 l102 y102 z102 st102 hQ102
      subst l102 y102 z102
      obtain ⟨rfl, N102q, e102⟩ := hQ102
      have N102 := Fr.app N101 N102q
      refine GoW.st (fun _ k => st102.trans k) ?_
      show GoW _ _ _ _ _ _ _ T102 (mkF m 249 #[.val (.int p0), .val (.int p1), .val (.int p2), .val (.int p3), .val (.ref bA), .val (.ref bS), .val (.ref tt), .val (.ref b1), .val (.int (0 : Int32)), .val (.int (4 : Int32)), .val (.ref b94), .unset, .unset] [(.int (val_10n b94))])
      rw [show (val_10n b94) = (0 : Int32) from by unfold val_10n; rfl]
      show GoW _ _ _ _ _ _ _ T102 (mkF m 249 #[.val (.int p0), .val (.int p1), .val (.int p2), .val (.int p3), .val (.ref bA), .val (.ref bS), .val (.ref tt), .val (.ref b1), .val (.int (0 : Int32)), .val (.int (4 : Int32)), .val (.ref b94), .unset, .unset] [(.int (0 : Int32))])
      refine GoW.st (fun _ k => XS.ifNo X102.here hx rfl (hb hby at_249) rfl ((if0 _ _).trans (teq (by decide : (0 : Int32) = (0 : Int32))).2) k) ?_
      show GoW _ _ _ _ _ _ _ T102 (mkF m 252 #[.val (.int p0), .val (.int p1), .val (.int p2), .val (.int p3), .val (.ref bA), .val (.ref bS), .val (.ref tt), .val (.ref b1), .val (.int (0 : Int32)), .val (.int (4 : Int32)), .val (.ref b94), .unset, .unset] [])
      refine GoW.st (fun _ k => XS.iconst X102.here hx rfl (hb hby at_252) k) ?_
      show GoW _ _ _ _ _ _ _ T102 (mkF m 253 #[.val (.int p0), .val (.int p1), .val (.int p2), .val (.int p3), .val (.ref bA), .val (.ref bS), .val (.ref tt), .val (.ref b1), .val (.int (0 : Int32)), .val (.int (4 : Int32)), .val (.ref b94), .unset, .unset] [(.int (1 : Int32))])
      refine GoW.st (fun _ k => XS.goto X102.here hx rfl (pc0 := 253) (pc' := 257) rfl (hb hby at_253) (by decide) (by decide) k) ?_
      show GoW _ _ _ _ _ _ _ T102 (mkF m 257 #[.val (.int p0), .val (.int p1), .val (.int p2), .val (.int p3), .val (.ref bA), .val (.ref bS), .val (.ref tt), .val (.ref b1), .val (.int (0 : Int32)), .val (.int (4 : Int32)), .val (.ref b94), .unset, .unset] [(.int (1 : Int32))])
      refine GoW.ret X102 hS (by rw [e102]; exact hk101) hlk (v := some (.int (1 : Int32))) (fun h => by rw [hret] at h; cases h) (fun fs hr => retN X102 hx (t := .boolean) hret (by simp) (hb hby at_257) hr) ?_ (by decide) (by decide)
      show Q0 Z p0 p1 p2 p3 w_BYTE w_INT G1 h0 n0 (some (.int (1 : Int32))) T102.heap _
      rw [e102]
      exact ⟨rfl, N102⟩
    · rw [hk25]
      show GoW _ _ _ _ _ _ _ T23 (mkF m 132 #[.val (.int p0), .val (.int p1), .val (.int p2), .val (.int p3), .val (.ref bA), .val (.ref bS), .val (.ref tt), .val (.ref b1), .val (.int (0 : Int32)), .unset, .unset, .unset, .unset] [(.int (5 : Int32))])
      refine GoW.st (fun _ k => XS.istore X23.here hx rfl (hb hby at_132) rfl (l' := #[.val (.int p0), .val (.int p1), .val (.int p2), .val (.int p3), .val (.ref bA), .val (.ref bS), .val (.ref tt), .val (.ref b1), .val (.int (0 : Int32)), .val (.int (5 : Int32)), .unset, .unset, .unset]) rfl k) ?_
      show GoW _ _ _ _ _ _ _ T23 (mkF m 134 #[.val (.int p0), .val (.int p1), .val (.int p2), .val (.int p3), .val (.ref bA), .val (.ref bS), .val (.ref tt), .val (.ref b1), .val (.int (0 : Int32)), .val (.int (5 : Int32)), .unset, .unset, .unset] [])
      obtain ⟨T103, h103, X103, e103, E103, A103, D103, -, st103⟩ := newO X23 hx hZ hown (hw _ (List.mem_of_getElem? (i := 54) rfl)) (hw _ (List.mem_of_getElem? (i := 55) rfl)) (hw _ (List.mem_of_getElem? (i := 56) rfl)) e23 (g := (mkF m 134 #[.val (.int p0), .val (.int p1), .val (.int p2), .val (.int p3), .val (.ref bA), .val (.ref bS), .val (.ref tt), .val (.ref b1), .val (.int (0 : Int32)), .val (.int (5 : Int32)), .unset, .unset, .unset] [])) rfl (hb hby at_134) (by decide) (by decide)
      obtain ⟨b103, g103⟩ : ∃ z, z = h23.size := ⟨_, rfl⟩
      rw [← g103] at A103 D103 st103
      have ne104 : b2 ≠ b103 := Nat.ne_of_lt (Nat.lt_of_lt_of_le EE4__23.lt (Nat.le_of_eq g103.symm))
      have ne105 : b8 ≠ b103 := Nat.ne_of_lt (Nat.lt_of_lt_of_le EE11__23.lt (Nat.le_of_eq g103.symm))
      have ne106 : b15 ≠ b103 := Nat.ne_of_lt (Nat.lt_of_lt_of_le EE20__23.lt (Nat.le_of_eq g103.symm))
      have ne107 : b1 ≠ b103 := Nat.ne_of_lt (Nat.lt_of_lt_of_le V_b1__23.lt (Nat.le_of_eq g103.symm))
      have g_b103 : n0 ≤ b103 := Nat.le_trans Z23 (Nat.le_of_eq g103.symm)
      have EE4__103 := EE4__23.ext E103
      have EE11__103 := EE11__23.ext E103
      have EE20__103 := EE20__23.ext E103
      have V_b1__103 := V_b1__23.ext E103
      have Z103 : n0 ≤ h103.size := Nat.le_trans Z23 E103.1
      have hk103 := Nat.le_trans hk23 E103.1
      have F_variable_b103 : Fld Z h103 b103 "com/example/prudent_checker/prudentchecker/language/VariableReference" "variable" "Lcom/example/prudent_checker/prudentchecker/language/Variable;" .null := D103 (Or.inr (hw _ (List.mem_of_getElem? (i := 67) rfl))) (ty := (.object "com/example/prudent_checker/prudentchecker/language/Variable")) (by decide)
      refine GoW.st st103 ?_
      show GoW _ _ _ _ _ _ _ T103 (mkF m 137 #[.val (.int p0), .val (.int p1), .val (.int p2), .val (.int p3), .val (.ref bA), .val (.ref bS), .val (.ref tt), .val (.ref b1), .val (.int (0 : Int32)), .val (.int (5 : Int32)), .unset, .unset, .unset] [(.ref b103)])
      refine GoW.st (fun _ k => XS.dup X103.here hx rfl (hb hby at_137) rfl rfl k) ?_
      show GoW _ _ _ _ _ _ _ T103 (mkF m 138 #[.val (.int p0), .val (.int p1), .val (.int p2), .val (.int p3), .val (.ref bA), .val (.ref bS), .val (.ref tt), .val (.ref b1), .val (.int (0 : Int32)), .val (.int (5 : Int32)), .unset, .unset, .unset] [(.ref b103), (.ref b103)])
      refine GoW.st (fun _ k => XS.aload X103.here hx rfl (hb hby at_138) rfl rfl k) ?_
      show GoW _ _ _ _ _ _ _ T103 (mkF m 140 #[.val (.int p0), .val (.int p1), .val (.int p2), .val (.int p3), .val (.ref bA), .val (.ref bS), .val (.ref tt), .val (.ref b1), .val (.int (0 : Int32)), .val (.int (5 : Int32)), .unset, .unset, .unset] [(.ref b1), (.ref b103), (.ref b103)])
      refine GoW.st (fun _ k => XS.iload X103.here hx rfl (hb hby at_140) rfl k) ?_
      show GoW _ _ _ _ _ _ _ T103 (mkF m 142 #[.val (.int p0), .val (.int p1), .val (.int p2), .val (.int p3), .val (.ref bA), .val (.ref bS), .val (.ref tt), .val (.ref b1), .val (.int (0 : Int32)), .val (.int (5 : Int32)), .unset, .unset, .unset] [(.int (0 : Int32)), (.ref b1), (.ref b103), (.ref b103)])
      obtain ⟨cl108, Ar108, qq108, SS108, NN108, HH108, GG108⟩ := id V_b1__103
      have hin109 : ¬ ((0 : Int32) < 0 ∨ cl108.slots.size ≤ ((0 : Int32)).toNatClampNeg) := inb_of SS108 ⟨by decide, by decide⟩
      refine GoW.st (fun _ k => X103.aaload hx (j := (0 : Int32)) (v := (.ref b2)) (by rw [e103]; exact Ar108.1) (State.isArrayOf_alike hZ.alike Ar108.2.1) rfl Ar108.2.2 hin109 (HH108.at hin109 rfl) (g := (mkF m 142 #[.val (.int p0), .val (.int p1), .val (.int p2), .val (.int p3), .val (.ref bA), .val (.ref bS), .val (.ref tt), .val (.ref b1), .val (.int (0 : Int32)), .val (.int (5 : Int32)), .unset, .unset, .unset] [(.int (0 : Int32)), (.ref b1), (.ref b103), (.ref b103)])) rfl rfl (hb hby at_142) _ k) ?_
      show GoW _ _ _ _ _ _ _ T103 (mkF m 143 #[.val (.int p0), .val (.int p1), .val (.int p2), .val (.int p3), .val (.ref bA), .val (.ref bS), .val (.ref tt), .val (.ref b1), .val (.int (0 : Int32)), .val (.int (5 : Int32)), .unset, .unset, .unset] [(.ref b2), (.ref b103), (.ref b103)])
      obtain ⟨_, _, ⟨T110, L110, k110, n110⟩, -, X110, ⟨Lc110, hQ110, l110, y110, z110⟩, st110⟩ := X103.specialBack hx (y := (⟨"com/example/prudent_checker/prudentchecker/language/VariableReference", "<init>", "(Lcom/example/prudent_checker/prudentchecker/language/Variable;)V"⟩ : MethodName)) rfl hown (mvT hZ (hw _ (List.mem_of_getElem? (i := 57) rfl))) (mvT hZ (hw _ (List.mem_of_getElem? (i := 58) rfl))) (mvT hZ (hw _ (List.mem_of_getElem? (i := 59) rfl))) (by decide) (backOf (W := 1) (rm8 l Z a0 hw [] b103 b2 .null h103 n0 Z103 A103 F_variable_b103 g_b103) hZ (hw _ (List.mem_of_getElem? (i := 59) rfl)) (hw _ (List.mem_of_getElem? (i := 56) rfl)) (by decide) (by decide)) (g := (mkF m 143 #[.val (.int p0), .val (.int p1), .val (.int p2), .val (.int p3), .val (.ref bA), .val (.ref bS), .val (.ref tt), .val (.ref b1), .val (.int (0 : Int32)), .val (.int (5 : Int32)), .unset, .unset, .unset] [(.ref b2), (.ref b103), (.ref b103)])) rfl (by rw [hml]; rfl) (Steps.refl _) (a := b103) (argsL := [(.ref b2)]) (rest := [(.ref b103)]) (lenOf pd_2 rfl) rfl (by show 2 * 0 + _ ≤ _; exact Nat.le_of_eq rfl) (hb hby at_143) (fun _ _ => ⟨rfl, e103, (by decide : 10 + 0 ≤ _), (by decide : 32 + 0 ≤ _)⟩)
      dsimp only [Pt.U, Pt.locs, Pt.cells, Pt.slots] at X110 l110 y110 z110 st110 hQ110
      subst l110 y110 z110
      generalize e110 : T110.heap = h110 at hQ110
      obtain ⟨rfl, N110q, K110, EE110, FF_variable_110⟩ := hQ110
      have N110 := Fr.app N23 N110q
      refine GoW.st (fun _ k => st110.trans k) ?_
      have EE4__110 := EE4__103.keep K110
      have EE11__110 := EE11__103.keep K110
      have EE20__110 := EE20__103.keep K110
      have V_b1__110 := V_b1__103.keep K110 (ninS ne107 (nin0))
      have A103__110 := A103.keep K110
      have Z110 : n0 ≤ h110.size := Nat.le_trans Z103 K110.1
      have hk110 := Nat.le_trans hk103 K110.1
      rw [show (val_8_variable b103 b2 .null) = (.ref b2) from by unfold val_8_variable; rfl] at FF_variable_110
      have F_variable_b103__110 := FF_variable_110
      show GoW _ _ _ _ _ _ _ T110 (mkF m 146 #[.val (.int p0), .val (.int p1), .val (.int p2), .val (.int p3), .val (.ref bA), .val (.ref bS), .val (.ref tt), .val (.ref b1), .val (.int (0 : Int32)), .val (.int (5 : Int32)), .unset, .unset, .unset] [(.ref b103)])
      refine GoW.st (fun _ k => XS.astore X110.here hx rfl (hb hby at_146) rfl rfl (l' := #[.val (.int p0), .val (.int p1), .val (.int p2), .val (.int p3), .val (.ref bA), .val (.ref bS), .val (.ref tt), .val (.ref b1), .val (.int (0 : Int32)), .val (.int (5 : Int32)), .val (.ref b103), .unset, .unset]) rfl k) ?_
      show GoW _ _ _ _ _ _ _ T110 (mkF m 148 #[.val (.int p0), .val (.int p1), .val (.int p2), .val (.int p3), .val (.ref bA), .val (.ref bS), .val (.ref tt), .val (.ref b1), .val (.int (0 : Int32)), .val (.int (5 : Int32)), .val (.ref b103), .unset, .unset] [])
      refine GoW.st (fun _ k => XS.iload X110.here hx rfl (hb hby at_148) rfl k) ?_
      show GoW _ _ _ _ _ _ _ T110 (mkF m 150 #[.val (.int p0), .val (.int p1), .val (.int p2), .val (.int p3), .val (.ref bA), .val (.ref bS), .val (.ref tt), .val (.ref b1), .val (.int (0 : Int32)), .val (.int (5 : Int32)), .val (.ref b103), .unset, .unset] [(.int (5 : Int32))])
      refine GoW.st (fun _ k => XS.iconst X110.here hx rfl (hb hby at_150) k) ?_
      show GoW _ _ _ _ _ _ _ T110 (mkF m 151 #[.val (.int p0), .val (.int p1), .val (.int p2), .val (.int p3), .val (.ref bA), .val (.ref bS), .val (.ref tt), .val (.ref b1), .val (.int (0 : Int32)), .val (.int (5 : Int32)), .val (.ref b103), .unset, .unset] [(.int (3 : Int32)), (.int (5 : Int32))])
      refine GoW.st (fun _ k => XS.icmpYes X110.here hx rfl (pc0 := 151) (pc' := 212) rfl (hb hby at_151) rfl (flt (by decide : ¬ ((5 : Int32) < (3 : Int32)))).2.1 (by decide) (by decide) k) ?_
      show GoW _ _ _ _ _ _ _ T110 (mkF m 212 #[.val (.int p0), .val (.int p1), .val (.int p2), .val (.int p3), .val (.ref bA), .val (.ref bS), .val (.ref tt), .val (.ref b1), .val (.int (0 : Int32)), .val (.int (5 : Int32)), .val (.ref b103), .unset, .unset] [])
      refine GoW.st (fun _ k => XS.iload X110.here hx rfl (hb hby at_212) rfl k) ?_
      show GoW _ _ _ _ _ _ _ T110 (mkF m 214 #[.val (.int p0), .val (.int p1), .val (.int p2), .val (.int p3), .val (.ref bA), .val (.ref bS), .val (.ref tt), .val (.ref b1), .val (.int (0 : Int32)), .val (.int (5 : Int32)), .val (.ref b103), .unset, .unset] [(.int (5 : Int32))])
      refine GoW.st (fun _ k => XS.iconst X110.here hx rfl (hb hby at_214) k) ?_
      show GoW _ _ _ _ _ _ _ T110 (mkF m 215 #[.val (.int p0), .val (.int p1), .val (.int p2), .val (.int p3), .val (.ref bA), .val (.ref bS), .val (.ref tt), .val (.ref b1), .val (.int (0 : Int32)), .val (.int (5 : Int32)), .val (.ref b103), .unset, .unset] [(.int (3 : Int32)), (.int (5 : Int32))])
      refine GoW.st (fun _ k => XS.icmpYes X110.here hx rfl (pc0 := 215) (pc' := 237) rfl (hb hby at_215) rfl (feq (by decide : ¬ ((5 : Int32) = (3 : Int32)))).2 (by decide) (by decide) k) ?_
      show GoW _ _ _ _ _ _ _ T110 (mkF m 237 #[.val (.int p0), .val (.int p1), .val (.int p2), .val (.int p3), .val (.ref bA), .val (.ref bS), .val (.ref tt), .val (.ref b1), .val (.int (0 : Int32)), .val (.int (5 : Int32)), .val (.ref b103), .unset, .unset] [])
      refine GoW.st (fun _ k => XS.iload X110.here hx rfl (hb hby at_237) rfl k) ?_
      show GoW _ _ _ _ _ _ _ T110 (mkF m 239 #[.val (.int p0), .val (.int p1), .val (.int p2), .val (.int p3), .val (.ref bA), .val (.ref bS), .val (.ref tt), .val (.ref b1), .val (.int (0 : Int32)), .val (.int (5 : Int32)), .val (.ref b103), .unset, .unset] [(.int (5 : Int32))])
      refine GoW.st (fun _ k => XS.iconst X110.here hx rfl (hb hby at_239) k) ?_
      show GoW _ _ _ _ _ _ _ T110 (mkF m 240 #[.val (.int p0), .val (.int p1), .val (.int p2), .val (.int p3), .val (.ref bA), .val (.ref bS), .val (.ref tt), .val (.ref b1), .val (.int (0 : Int32)), .val (.int (5 : Int32)), .val (.ref b103), .unset, .unset] [(.int (4 : Int32)), (.int (5 : Int32))])
      refine GoW.st (fun _ k => XS.icmpYes X110.here hx rfl (pc0 := 240) (pc' := 258) rfl (hb hby at_240) rfl (feq (by decide : ¬ ((5 : Int32) = (4 : Int32)))).2 (by decide) (by decide) k) ?_
      show GoW _ _ _ _ _ _ _ T110 (mkF m 258 #[.val (.int p0), .val (.int p1), .val (.int p2), .val (.int p3), .val (.ref bA), .val (.ref bS), .val (.ref tt), .val (.ref b1), .val (.int (0 : Int32)), .val (.int (5 : Int32)), .val (.ref b103), .unset, .unset] [])
      refine GoW.st (fun _ k => XS.aload X110.here hx rfl (hb hby at_258) rfl rfl k) ?_
      show GoW _ _ _ _ _ _ _ T110 (mkF m 260 #[.val (.int p0), .val (.int p1), .val (.int p2), .val (.int p3), .val (.ref bA), .val (.ref bS), .val (.ref tt), .val (.ref b1), .val (.int (0 : Int32)), .val (.int (5 : Int32)), .val (.ref b103), .unset, .unset] [(.ref b103)])
      refine GoW.st (fun _ k => XS.aload X110.here hx rfl (hb hby at_260) rfl rfl k) ?_
      show GoW _ _ _ _ _ _ _ T110 (mkF m 262 #[.val (.int p0), .val (.int p1), .val (.int p2), .val (.int p3), .val (.ref bA), .val (.ref bS), .val (.ref tt), .val (.ref b1), .val (.int (0 : Int32)), .val (.int (5 : Int32)), .val (.ref b103), .unset, .unset] [(.ref b103), (.ref b103)])
      obtain ⟨cq111, kq111, q111a, q111b, q111c⟩ := isOf hZ e110 EE110
      obtain ⟨_, _, ⟨T111, L111, k111, n111⟩, -, X111, ⟨Lc111, hQ111, l111, y111, z111⟩, st111⟩ := X110.virtualBack hx (y := (⟨"com/example/prudent_checker/prudentchecker/language/VariableReference", "equals", "(Ljava/lang/Object;)Z"⟩ : MethodName)) (z := (⟨"com/example/prudent_checker/prudentchecker/language/VariableReference", "equals", "(Ljava/lang/Object;)Z"⟩ : MethodName)) hown (mvT hZ (hw _ (List.mem_of_getElem? (i := 68) rfl))) (mvT hZ (hw _ (List.mem_of_getElem? (i := 69) rfl))) (notFace_of_selects (args := #[]) (mvT hZ (hw _ (List.mem_of_getElem? (i := 71) rfl)))) (mvT hZ (hw _ (List.mem_of_getElem? (i := 71) rfl))) (mvT hZ (hw _ (List.mem_of_getElem? (i := 70) rfl))) (by decide) (backOf (W := 0) (rm10r l Z a0 hw [] b103 b103 b2 b2 h110 n0 Z110 EE110 F_variable_b103__110 F_variable_b103__110) hZ (hw _ (List.mem_of_getElem? (i := 72) rfl)) (hw _ (List.mem_of_getElem? (i := 56) rfl)) (by decide) (by decide)) q111a q111c (g := (mkF m 262 #[.val (.int p0), .val (.int p1), .val (.int p2), .val (.int p3), .val (.ref bA), .val (.ref bS), .val (.ref tt), .val (.ref b1), .val (.int (0 : Int32)), .val (.int (5 : Int32)), .val (.ref b103), .unset, .unset] [(.ref b103), (.ref b103)])) rfl (by rw [hml]; rfl) (Steps.refl _) (argsL := [(.ref b103)]) (rest := []) (lenOf pd_3 rfl) rfl (by show 2 * 0 + _ ≤ _; exact Nat.le_of_eq rfl) (hb hby at_262) (fun _ _ => ⟨rfl, e110, (by decide : 10 + 0 ≤ _), (by decide : 32 + 0 ≤ _)⟩)
      dsimp only [Pt.U, Pt.locs, Pt.cells, Pt.slots] at X111 l111 y111 z111 st111 hQ111
      subst l111 y111 z111
      obtain ⟨rfl, N111q, e111⟩ := hQ111
      have N111 := Fr.app N110 N111q
      refine GoW.st (fun _ k => st111.trans k) ?_
      show GoW _ _ _ _ _ _ _ T111 (mkF m 265 #[.val (.int p0), .val (.int p1), .val (.int p2), .val (.int p3), .val (.ref bA), .val (.ref bS), .val (.ref tt), .val (.ref b1), .val (.int (0 : Int32)), .val (.int (5 : Int32)), .val (.ref b103), .unset, .unset] [(.int (val_10r b103 b103 b2 b2))])
      rw [show (val_10r b103 b103 b2 b2) = (1 : Int32) from by unfold val_10r; rw [if_pos rfl]]
      show GoW _ _ _ _ _ _ _ T111 (mkF m 265 #[.val (.int p0), .val (.int p1), .val (.int p2), .val (.int p3), .val (.ref bA), .val (.ref bS), .val (.ref tt), .val (.ref b1), .val (.int (0 : Int32)), .val (.int (5 : Int32)), .val (.ref b103), .unset, .unset] [(.int (1 : Int32))])
      refine GoW.ret X111 hS (by rw [e111]; exact hk110) hlk (v := some (.int (1 : Int32))) (fun h => by rw [hret] at h; cases h) (fun fs hr => retN X111 hx (t := .boolean) hret (by simp) (hb hby at_265) hr) ?_ (by decide) (by decide)
      show Q0 Z p0 p1 p2 p3 w_BYTE w_INT G1 h0 n0 (some (.int (1 : Int32))) T111.heap _
      rw [e111]
      exact ⟨rfl, N111⟩
  · rw [hk24]
    show GoW _ _ _ _ _ _ _ T23 (mkF m 123 #[.val (.int p0), .val (.int p1), .val (.int p2), .val (.int p3), .val (.ref bA), .val (.ref bS), .val (.ref tt), .val (.ref b1), .unset, .unset, .unset, .unset, .unset] [(.int (1 : Int32))])
    refine GoW.st (fun _ k => XS.istore X23.here hx rfl (hb hby at_123) rfl (l' := #[.val (.int p0), .val (.int p1), .val (.int p2), .val (.int p3), .val (.ref bA), .val (.ref bS), .val (.ref tt), .val (.ref b1), .val (.int (1 : Int32)), .unset, .unset, .unset, .unset]) rfl k) ?_
    show GoW _ _ _ _ _ _ _ T23 (mkF m 125 #[.val (.int p0), .val (.int p1), .val (.int p2), .val (.int p3), .val (.ref bA), .val (.ref bS), .val (.ref tt), .val (.ref b1), .val (.int (1 : Int32)), .unset, .unset, .unset, .unset] [])
    refine GoW.st (fun _ k => XS.iloadN X23.here hx rfl (hb hby at_125) rfl k) ?_
    show GoW _ _ _ _ _ _ _ T23 (mkF m 126 #[.val (.int p0), .val (.int p1), .val (.int p2), .val (.int p3), .val (.ref bA), .val (.ref bS), .val (.ref tt), .val (.ref b1), .val (.int (1 : Int32)), .unset, .unset, .unset, .unset] [(.int p2)])
    refine GoW.st (fun _ k => Jvm.Stand.ldcI X23 hx hown (mvT hZ (hw _ (List.mem_of_getElem? (i := 53) rfl))) rfl (hb hby at_126) k) ?_
    show GoW _ _ _ _ _ _ _ T23 (mkF m 128 #[.val (.int p0), .val (.int p1), .val (.int p2), .val (.int p3), .val (.ref bA), .val (.ref bS), .val (.ref tt), .val (.ref b1), .val (.int (1 : Int32)), .unset, .unset, .unset, .unset] [(.int (2147483647 : Int32)), (.int p2)])
    refine GoW.st (fun _ k => XS.iand X23.here hx rfl (hb hby at_128) rfl k) ?_
    show GoW _ _ _ _ _ _ _ T23 (mkF m 129 #[.val (.int p0), .val (.int p1), .val (.int p2), .val (.int p3), .val (.ref bA), .val (.ref bS), .val (.ref tt), .val (.ref b1), .val (.int (1 : Int32)), .unset, .unset, .unset, .unset] [(.int (p2 &&& (2147483647 : Int32)))])
    refine GoW.st (fun _ k => XS.bipush X23.here hx rfl (hb hby at_129) k) ?_
    show GoW _ _ _ _ _ _ _ T23 (mkF m 131 #[.val (.int p0), .val (.int p1), .val (.int p2), .val (.int p3), .val (.ref bA), .val (.ref bS), .val (.ref tt), .val (.ref b1), .val (.int (1 : Int32)), .unset, .unset, .unset, .unset] [(.int (6 : Int32)), (.int (p2 &&& (2147483647 : Int32)))])
    refine GoW.st (fun _ k => iremM (g := (mkF m 131 #[.val (.int p0), .val (.int p1), .val (.int p2), .val (.int p3), .val (.ref bA), .val (.ref bS), .val (.ref tt), .val (.ref b1), .val (.int (1 : Int32)), .unset, .unset, .unset, .unset] [(.int (6 : Int32)), (.int (p2 &&& (2147483647 : Int32)))])) X23 hx rfl (hb hby at_131) rfl (by decide) k) ?_
    show GoW _ _ _ _ _ _ _ T23 (mkF m 132 #[.val (.int p0), .val (.int p1), .val (.int p2), .val (.int p3), .val (.ref bA), .val (.ref bS), .val (.ref tt), .val (.ref b1), .val (.int (1 : Int32)), .unset, .unset, .unset, .unset] [(.int ((p2 &&& (2147483647 : Int32)) % (6 : Int32)))])
    rcases own_mod6 p2 with hk112 | hk112 | hk112 | hk112 | hk112 | hk112
    · rw [hk112]
      show GoW _ _ _ _ _ _ _ T23 (mkF m 132 #[.val (.int p0), .val (.int p1), .val (.int p2), .val (.int p3), .val (.ref bA), .val (.ref bS), .val (.ref tt), .val (.ref b1), .val (.int (1 : Int32)), .unset, .unset, .unset, .unset] [(.int (0 : Int32))])
      refine GoW.st (fun _ k => XS.istore X23.here hx rfl (hb hby at_132) rfl (l' := #[.val (.int p0), .val (.int p1), .val (.int p2), .val (.int p3), .val (.ref bA), .val (.ref bS), .val (.ref tt), .val (.ref b1), .val (.int (1 : Int32)), .val (.int (0 : Int32)), .unset, .unset, .unset]) rfl k) ?_
      show GoW _ _ _ _ _ _ _ T23 (mkF m 134 #[.val (.int p0), .val (.int p1), .val (.int p2), .val (.int p3), .val (.ref bA), .val (.ref bS), .val (.ref tt), .val (.ref b1), .val (.int (1 : Int32)), .val (.int (0 : Int32)), .unset, .unset, .unset] [])
      obtain ⟨T113, h113, X113, e113, E113, A113, D113, -, st113⟩ := newO X23 hx hZ hown (hw _ (List.mem_of_getElem? (i := 54) rfl)) (hw _ (List.mem_of_getElem? (i := 55) rfl)) (hw _ (List.mem_of_getElem? (i := 56) rfl)) e23 (g := (mkF m 134 #[.val (.int p0), .val (.int p1), .val (.int p2), .val (.int p3), .val (.ref bA), .val (.ref bS), .val (.ref tt), .val (.ref b1), .val (.int (1 : Int32)), .val (.int (0 : Int32)), .unset, .unset, .unset] [])) rfl (hb hby at_134) (by decide) (by decide)
      obtain ⟨b113, g113⟩ : ∃ z, z = h23.size := ⟨_, rfl⟩
      rw [← g113] at A113 D113 st113
      have ne114 : b2 ≠ b113 := Nat.ne_of_lt (Nat.lt_of_lt_of_le EE4__23.lt (Nat.le_of_eq g113.symm))
      have ne115 : b8 ≠ b113 := Nat.ne_of_lt (Nat.lt_of_lt_of_le EE11__23.lt (Nat.le_of_eq g113.symm))
      have ne116 : b15 ≠ b113 := Nat.ne_of_lt (Nat.lt_of_lt_of_le EE20__23.lt (Nat.le_of_eq g113.symm))
      have ne117 : b1 ≠ b113 := Nat.ne_of_lt (Nat.lt_of_lt_of_le V_b1__23.lt (Nat.le_of_eq g113.symm))
      have g_b113 : n0 ≤ b113 := Nat.le_trans Z23 (Nat.le_of_eq g113.symm)
      have EE4__113 := EE4__23.ext E113
      have EE11__113 := EE11__23.ext E113
      have EE20__113 := EE20__23.ext E113
      have V_b1__113 := V_b1__23.ext E113
      have Z113 : n0 ≤ h113.size := Nat.le_trans Z23 E113.1
      have hk113 := Nat.le_trans hk23 E113.1
      have F_variable_b113 : Fld Z h113 b113 "com/example/prudent_checker/prudentchecker/language/VariableReference" "variable" "Lcom/example/prudent_checker/prudentchecker/language/Variable;" .null := D113 (Or.inr (hw _ (List.mem_of_getElem? (i := 67) rfl))) (ty := (.object "com/example/prudent_checker/prudentchecker/language/Variable")) (by decide)
      refine GoW.st st113 ?_
      show GoW _ _ _ _ _ _ _ T113 (mkF m 137 #[.val (.int p0), .val (.int p1), .val (.int p2), .val (.int p3), .val (.ref bA), .val (.ref bS), .val (.ref tt), .val (.ref b1), .val (.int (1 : Int32)), .val (.int (0 : Int32)), .unset, .unset, .unset] [(.ref b113)])
      refine GoW.st (fun _ k => XS.dup X113.here hx rfl (hb hby at_137) rfl rfl k) ?_
      show GoW _ _ _ _ _ _ _ T113 (mkF m 138 #[.val (.int p0), .val (.int p1), .val (.int p2), .val (.int p3), .val (.ref bA), .val (.ref bS), .val (.ref tt), .val (.ref b1), .val (.int (1 : Int32)), .val (.int (0 : Int32)), .unset, .unset, .unset] [(.ref b113), (.ref b113)])
      refine GoW.st (fun _ k => XS.aload X113.here hx rfl (hb hby at_138) rfl rfl k) ?_
      show GoW _ _ _ _ _ _ _ T113 (mkF m 140 #[.val (.int p0), .val (.int p1), .val (.int p2), .val (.int p3), .val (.ref bA), .val (.ref bS), .val (.ref tt), .val (.ref b1), .val (.int (1 : Int32)), .val (.int (0 : Int32)), .unset, .unset, .unset] [(.ref b1), (.ref b113), (.ref b113)])
      refine GoW.st (fun _ k => XS.iload X113.here hx rfl (hb hby at_140) rfl k) ?_
      show GoW _ _ _ _ _ _ _ T113 (mkF m 142 #[.val (.int p0), .val (.int p1), .val (.int p2), .val (.int p3), .val (.ref bA), .val (.ref bS), .val (.ref tt), .val (.ref b1), .val (.int (1 : Int32)), .val (.int (0 : Int32)), .unset, .unset, .unset] [(.int (1 : Int32)), (.ref b1), (.ref b113), (.ref b113)])
      obtain ⟨cl118, Ar118, qq118, SS118, NN118, HH118, GG118⟩ := id V_b1__113
      have hin119 : ¬ ((1 : Int32) < 0 ∨ cl118.slots.size ≤ ((1 : Int32)).toNatClampNeg) := inb_of SS118 ⟨by decide, by decide⟩
      refine GoW.st (fun _ k => X113.aaload hx (j := (1 : Int32)) (v := (.ref b8)) (by rw [e113]; exact Ar118.1) (State.isArrayOf_alike hZ.alike Ar118.2.1) rfl Ar118.2.2 hin119 (HH118.at hin119 rfl) (g := (mkF m 142 #[.val (.int p0), .val (.int p1), .val (.int p2), .val (.int p3), .val (.ref bA), .val (.ref bS), .val (.ref tt), .val (.ref b1), .val (.int (1 : Int32)), .val (.int (0 : Int32)), .unset, .unset, .unset] [(.int (1 : Int32)), (.ref b1), (.ref b113), (.ref b113)])) rfl rfl (hb hby at_142) _ k) ?_
      show GoW _ _ _ _ _ _ _ T113 (mkF m 143 #[.val (.int p0), .val (.int p1), .val (.int p2), .val (.int p3), .val (.ref bA), .val (.ref bS), .val (.ref tt), .val (.ref b1), .val (.int (1 : Int32)), .val (.int (0 : Int32)), .unset, .unset, .unset] [(.ref b8), (.ref b113), (.ref b113)])
      obtain ⟨_, _, ⟨T120, L120, k120, n120⟩, -, X120, ⟨Lc120, hQ120, l120, y120, z120⟩, st120⟩ := X113.specialBack hx (y := (⟨"com/example/prudent_checker/prudentchecker/language/VariableReference", "<init>", "(Lcom/example/prudent_checker/prudentchecker/language/Variable;)V"⟩ : MethodName)) rfl hown (mvT hZ (hw _ (List.mem_of_getElem? (i := 57) rfl))) (mvT hZ (hw _ (List.mem_of_getElem? (i := 58) rfl))) (mvT hZ (hw _ (List.mem_of_getElem? (i := 59) rfl))) (by decide) (backOf (W := 1) (rm8 l Z a0 hw [] b113 b8 .null h113 n0 Z113 A113 F_variable_b113 g_b113) hZ (hw _ (List.mem_of_getElem? (i := 59) rfl)) (hw _ (List.mem_of_getElem? (i := 56) rfl)) (by decide) (by decide)) (g := (mkF m 143 #[.val (.int p0), .val (.int p1), .val (.int p2), .val (.int p3), .val (.ref bA), .val (.ref bS), .val (.ref tt), .val (.ref b1), .val (.int (1 : Int32)), .val (.int (0 : Int32)), .unset, .unset, .unset] [(.ref b8), (.ref b113), (.ref b113)])) rfl (by rw [hml]; rfl) (Steps.refl _) (a := b113) (argsL := [(.ref b8)]) (rest := [(.ref b113)]) (lenOf pd_2 rfl) rfl (by show 2 * 0 + _ ≤ _; exact Nat.le_of_eq rfl) (hb hby at_143) (fun _ _ => ⟨rfl, e113, (by decide : 10 + 0 ≤ _), (by decide : 32 + 0 ≤ _)⟩)
      dsimp only [Pt.U, Pt.locs, Pt.cells, Pt.slots] at X120 l120 y120 z120 st120 hQ120
      subst l120 y120 z120
      generalize e120 : T120.heap = h120 at hQ120
      obtain ⟨rfl, N120q, K120, EE120, FF_variable_120⟩ := hQ120
      have N120 := Fr.app N23 N120q
      refine GoW.st (fun _ k => st120.trans k) ?_
      have EE4__120 := EE4__113.keep K120
      have EE11__120 := EE11__113.keep K120
      have EE20__120 := EE20__113.keep K120
      have V_b1__120 := V_b1__113.keep K120 (ninS ne117 (nin0))
      have A113__120 := A113.keep K120
      have Z120 : n0 ≤ h120.size := Nat.le_trans Z113 K120.1
      have hk120 := Nat.le_trans hk113 K120.1
      rw [show (val_8_variable b113 b8 .null) = (.ref b8) from by unfold val_8_variable; rfl] at FF_variable_120
      have F_variable_b113__120 := FF_variable_120
      show GoW _ _ _ _ _ _ _ T120 (mkF m 146 #[.val (.int p0), .val (.int p1), .val (.int p2), .val (.int p3), .val (.ref bA), .val (.ref bS), .val (.ref tt), .val (.ref b1), .val (.int (1 : Int32)), .val (.int (0 : Int32)), .unset, .unset, .unset] [(.ref b113)])
      refine GoW.st (fun _ k => XS.astore X120.here hx rfl (hb hby at_146) rfl rfl (l' := #[.val (.int p0), .val (.int p1), .val (.int p2), .val (.int p3), .val (.ref bA), .val (.ref bS), .val (.ref tt), .val (.ref b1), .val (.int (1 : Int32)), .val (.int (0 : Int32)), .val (.ref b113), .unset, .unset]) rfl k) ?_
      show GoW _ _ _ _ _ _ _ T120 (mkF m 148 #[.val (.int p0), .val (.int p1), .val (.int p2), .val (.int p3), .val (.ref bA), .val (.ref bS), .val (.ref tt), .val (.ref b1), .val (.int (1 : Int32)), .val (.int (0 : Int32)), .val (.ref b113), .unset, .unset] [])
      refine GoW.st (fun _ k => XS.iload X120.here hx rfl (hb hby at_148) rfl k) ?_
      show GoW _ _ _ _ _ _ _ T120 (mkF m 150 #[.val (.int p0), .val (.int p1), .val (.int p2), .val (.int p3), .val (.ref bA), .val (.ref bS), .val (.ref tt), .val (.ref b1), .val (.int (1 : Int32)), .val (.int (0 : Int32)), .val (.ref b113), .unset, .unset] [(.int (0 : Int32))])
      refine GoW.st (fun _ k => XS.iconst X120.here hx rfl (hb hby at_150) k) ?_
      show GoW _ _ _ _ _ _ _ T120 (mkF m 151 #[.val (.int p0), .val (.int p1), .val (.int p2), .val (.int p3), .val (.ref bA), .val (.ref bS), .val (.ref tt), .val (.ref b1), .val (.int (1 : Int32)), .val (.int (0 : Int32)), .val (.ref b113), .unset, .unset] [(.int (3 : Int32)), (.int (0 : Int32))])
      refine GoW.st (fun _ k => XS.icmpNo X120.here hx rfl (hb hby at_151) rfl (tlt (by decide : (0 : Int32) < (3 : Int32))).2.1 k) ?_
      show GoW _ _ _ _ _ _ _ T120 (mkF m 154 #[.val (.int p0), .val (.int p1), .val (.int p2), .val (.int p3), .val (.ref bA), .val (.ref bS), .val (.ref tt), .val (.ref b1), .val (.int (1 : Int32)), .val (.int (0 : Int32)), .val (.ref b113), .unset, .unset] [])
      obtain ⟨T121, h121, X121, e121, E121, A121, D121, -, st121⟩ := newO X120 hx hZ hown (hw _ (List.mem_of_getElem? (i := 54) rfl)) (hw _ (List.mem_of_getElem? (i := 55) rfl)) (hw _ (List.mem_of_getElem? (i := 56) rfl)) e120 (g := (mkF m 154 #[.val (.int p0), .val (.int p1), .val (.int p2), .val (.int p3), .val (.ref bA), .val (.ref bS), .val (.ref tt), .val (.ref b1), .val (.int (1 : Int32)), .val (.int (0 : Int32)), .val (.ref b113), .unset, .unset] [])) rfl (hb hby at_154) (by decide) (by decide)
      obtain ⟨b121, g121⟩ : ∃ z, z = h120.size := ⟨_, rfl⟩
      rw [← g121] at A121 D121 st121
      have ne122 : b2 ≠ b121 := Nat.ne_of_lt (Nat.lt_of_lt_of_le EE4__120.lt (Nat.le_of_eq g121.symm))
      have ne123 : b8 ≠ b121 := Nat.ne_of_lt (Nat.lt_of_lt_of_le EE11__120.lt (Nat.le_of_eq g121.symm))
      have ne124 : b15 ≠ b121 := Nat.ne_of_lt (Nat.lt_of_lt_of_le EE20__120.lt (Nat.le_of_eq g121.symm))
      have ne125 : b1 ≠ b121 := Nat.ne_of_lt (Nat.lt_of_lt_of_le V_b1__120.lt (Nat.le_of_eq g121.symm))
      have ne126 : b113 ≠ b121 := Nat.ne_of_lt (Nat.lt_of_lt_of_le EE120.lt (Nat.le_of_eq g121.symm))
      have g_b121 : n0 ≤ b121 := Nat.le_trans Z120 (Nat.le_of_eq g121.symm)
      have EE4__121 := EE4__120.ext E121
      have EE11__121 := EE11__120.ext E121
      have EE20__121 := EE20__120.ext E121
      have V_b1__121 := V_b1__120.ext E121
      have EE120__121 := EE120.ext E121
      have F_variable_b113__121 := F_variable_b113__120.ext E121
      have Z121 : n0 ≤ h121.size := Nat.le_trans Z120 E121.1
      have hk121 := Nat.le_trans hk120 E121.1
      have F_variable_b121 : Fld Z h121 b121 "com/example/prudent_checker/prudentchecker/language/VariableReference" "variable" "Lcom/example/prudent_checker/prudentchecker/language/Variable;" .null := D121 (Or.inr (hw _ (List.mem_of_getElem? (i := 67) rfl))) (ty := (.object "com/example/prudent_checker/prudentchecker/language/Variable")) (by decide)
      refine GoW.st st121 ?_
      show GoW _ _ _ _ _ _ _ T121 (mkF m 157 #[.val (.int p0), .val (.int p1), .val (.int p2), .val (.int p3), .val (.ref bA), .val (.ref bS), .val (.ref tt), .val (.ref b1), .val (.int (1 : Int32)), .val (.int (0 : Int32)), .val (.ref b113), .unset, .unset] [(.ref b121)])
      refine GoW.st (fun _ k => XS.dup X121.here hx rfl (hb hby at_157) rfl rfl k) ?_
      show GoW _ _ _ _ _ _ _ T121 (mkF m 158 #[.val (.int p0), .val (.int p1), .val (.int p2), .val (.int p3), .val (.ref bA), .val (.ref bS), .val (.ref tt), .val (.ref b1), .val (.int (1 : Int32)), .val (.int (0 : Int32)), .val (.ref b113), .unset, .unset] [(.ref b121), (.ref b121)])
      refine GoW.st (fun _ k => XS.aload X121.here hx rfl (hb hby at_158) rfl rfl k) ?_
      show GoW _ _ _ _ _ _ _ T121 (mkF m 160 #[.val (.int p0), .val (.int p1), .val (.int p2), .val (.int p3), .val (.ref bA), .val (.ref bS), .val (.ref tt), .val (.ref b1), .val (.int (1 : Int32)), .val (.int (0 : Int32)), .val (.ref b113), .unset, .unset] [(.ref b1), (.ref b121), (.ref b121)])
      refine GoW.st (fun _ k => XS.iload X121.here hx rfl (hb hby at_160) rfl k) ?_
      show GoW _ _ _ _ _ _ _ T121 (mkF m 162 #[.val (.int p0), .val (.int p1), .val (.int p2), .val (.int p3), .val (.ref bA), .val (.ref bS), .val (.ref tt), .val (.ref b1), .val (.int (1 : Int32)), .val (.int (0 : Int32)), .val (.ref b113), .unset, .unset] [(.int (0 : Int32)), (.ref b1), (.ref b121), (.ref b121)])
      obtain ⟨cl127, Ar127, qq127, SS127, NN127, HH127, GG127⟩ := id V_b1__121
      have hin128 : ¬ ((0 : Int32) < 0 ∨ cl127.slots.size ≤ ((0 : Int32)).toNatClampNeg) := inb_of SS127 ⟨by decide, by decide⟩
      refine GoW.st (fun _ k => X121.aaload hx (j := (0 : Int32)) (v := (.ref b2)) (by rw [e121]; exact Ar127.1) (State.isArrayOf_alike hZ.alike Ar127.2.1) rfl Ar127.2.2 hin128 (HH127.at hin128 rfl) (g := (mkF m 162 #[.val (.int p0), .val (.int p1), .val (.int p2), .val (.int p3), .val (.ref bA), .val (.ref bS), .val (.ref tt), .val (.ref b1), .val (.int (1 : Int32)), .val (.int (0 : Int32)), .val (.ref b113), .unset, .unset] [(.int (0 : Int32)), (.ref b1), (.ref b121), (.ref b121)])) rfl rfl (hb hby at_162) _ k) ?_
      show GoW _ _ _ _ _ _ _ T121 (mkF m 163 #[.val (.int p0), .val (.int p1), .val (.int p2), .val (.int p3), .val (.ref bA), .val (.ref bS), .val (.ref tt), .val (.ref b1), .val (.int (1 : Int32)), .val (.int (0 : Int32)), .val (.ref b113), .unset, .unset] [(.ref b2), (.ref b121), (.ref b121)])
      obtain ⟨_, _, ⟨T129, L129, k129, n129⟩, -, X129, ⟨Lc129, hQ129, l129, y129, z129⟩, st129⟩ := X121.specialBack hx (y := (⟨"com/example/prudent_checker/prudentchecker/language/VariableReference", "<init>", "(Lcom/example/prudent_checker/prudentchecker/language/Variable;)V"⟩ : MethodName)) rfl hown (mvT hZ (hw _ (List.mem_of_getElem? (i := 57) rfl))) (mvT hZ (hw _ (List.mem_of_getElem? (i := 58) rfl))) (mvT hZ (hw _ (List.mem_of_getElem? (i := 59) rfl))) (by decide) (backOf (W := 1) (rm8 l Z a0 hw [] b121 b2 .null h121 n0 Z121 A121 F_variable_b121 g_b121) hZ (hw _ (List.mem_of_getElem? (i := 59) rfl)) (hw _ (List.mem_of_getElem? (i := 56) rfl)) (by decide) (by decide)) (g := (mkF m 163 #[.val (.int p0), .val (.int p1), .val (.int p2), .val (.int p3), .val (.ref bA), .val (.ref bS), .val (.ref tt), .val (.ref b1), .val (.int (1 : Int32)), .val (.int (0 : Int32)), .val (.ref b113), .unset, .unset] [(.ref b2), (.ref b121), (.ref b121)])) rfl (by rw [hml]; rfl) (Steps.refl _) (a := b121) (argsL := [(.ref b2)]) (rest := [(.ref b121)]) (lenOf pd_2 rfl) rfl (by show 2 * 0 + _ ≤ _; exact Nat.le_of_eq rfl) (hb hby at_163) (fun _ _ => ⟨rfl, e121, (by decide : 11 + 0 ≤ _), (by decide : 33 + 0 ≤ _)⟩)
      dsimp only [Pt.U, Pt.locs, Pt.cells, Pt.slots] at X129 l129 y129 z129 st129 hQ129
      subst l129 y129 z129
      generalize e129 : T129.heap = h129 at hQ129
      obtain ⟨rfl, N129q, K129, EE129, FF_variable_129⟩ := hQ129
      have N129 := Fr.app N120 N129q
      refine GoW.st (fun _ k => st129.trans k) ?_
      have EE4__129 := EE4__121.keep K129
      have EE11__129 := EE11__121.keep K129
      have EE20__129 := EE20__121.keep K129
      have V_b1__129 := V_b1__121.keep K129 (ninS ne125 (nin0))
      have EE120__129 := EE120__121.keep K129
      have F_variable_b113__129 := F_variable_b113__121.keep K129 (ninS ne126 (nin0))
      have A121__129 := A121.keep K129
      have Z129 : n0 ≤ h129.size := Nat.le_trans Z121 K129.1
      have hk129 := Nat.le_trans hk121 K129.1
      rw [show (val_8_variable b121 b2 .null) = (.ref b2) from by unfold val_8_variable; rfl] at FF_variable_129
      have F_variable_b121__129 := FF_variable_129
      show GoW _ _ _ _ _ _ _ T129 (mkF m 166 #[.val (.int p0), .val (.int p1), .val (.int p2), .val (.int p3), .val (.ref bA), .val (.ref bS), .val (.ref tt), .val (.ref b1), .val (.int (1 : Int32)), .val (.int (0 : Int32)), .val (.ref b113), .unset, .unset] [(.ref b121)])
      refine GoW.st (fun _ k => XS.astore X129.here hx rfl (hb hby at_166) rfl rfl (l' := #[.val (.int p0), .val (.int p1), .val (.int p2), .val (.int p3), .val (.ref bA), .val (.ref bS), .val (.ref tt), .val (.ref b1), .val (.int (1 : Int32)), .val (.int (0 : Int32)), .val (.ref b113), .val (.ref b121), .unset]) rfl k) ?_
      show GoW _ _ _ _ _ _ _ T129 (mkF m 168 #[.val (.int p0), .val (.int p1), .val (.int p2), .val (.int p3), .val (.ref bA), .val (.ref bS), .val (.ref tt), .val (.ref b1), .val (.int (1 : Int32)), .val (.int (0 : Int32)), .val (.ref b113), .val (.ref b121), .unset] [])
      refine GoW.st (fun _ k => XS.iload X129.here hx rfl (hb hby at_168) rfl k) ?_
      show GoW _ _ _ _ _ _ _ T129 (mkF m 170 #[.val (.int p0), .val (.int p1), .val (.int p2), .val (.int p3), .val (.ref bA), .val (.ref bS), .val (.ref tt), .val (.ref b1), .val (.int (1 : Int32)), .val (.int (0 : Int32)), .val (.ref b113), .val (.ref b121), .unset] [(.int (1 : Int32))])
      refine GoW.st (fun _ k => XS.iload X129.here hx rfl (hb hby at_170) rfl k) ?_
      show GoW _ _ _ _ _ _ _ T129 (mkF m 172 #[.val (.int p0), .val (.int p1), .val (.int p2), .val (.int p3), .val (.ref bA), .val (.ref bS), .val (.ref tt), .val (.ref b1), .val (.int (1 : Int32)), .val (.int (0 : Int32)), .val (.ref b113), .val (.ref b121), .unset] [(.int (0 : Int32)), (.int (1 : Int32))])
      refine GoW.st (fun _ k => XS.icmpYes X129.here hx rfl (pc0 := 172) (pc' := 179) rfl (hb hby at_172) rfl (feq (by decide : ¬ ((1 : Int32) = (0 : Int32)))).2 (by decide) (by decide) k) ?_
      show GoW _ _ _ _ _ _ _ T129 (mkF m 179 #[.val (.int p0), .val (.int p1), .val (.int p2), .val (.int p3), .val (.ref bA), .val (.ref bS), .val (.ref tt), .val (.ref b1), .val (.int (1 : Int32)), .val (.int (0 : Int32)), .val (.ref b113), .val (.ref b121), .unset] [])
      refine GoW.st (fun _ k => XS.iconst X129.here hx rfl (hb hby at_179) k) ?_
      show GoW _ _ _ _ _ _ _ T129 (mkF m 180 #[.val (.int p0), .val (.int p1), .val (.int p2), .val (.int p3), .val (.ref bA), .val (.ref bS), .val (.ref tt), .val (.ref b1), .val (.int (1 : Int32)), .val (.int (0 : Int32)), .val (.ref b113), .val (.ref b121), .unset] [(.int (0 : Int32))])
      refine GoW.st (fun _ k => XS.istore X129.here hx rfl (hb hby at_180) rfl (l' := #[.val (.int p0), .val (.int p1), .val (.int p2), .val (.int p3), .val (.ref bA), .val (.ref bS), .val (.ref tt), .val (.ref b1), .val (.int (1 : Int32)), .val (.int (0 : Int32)), .val (.ref b113), .val (.ref b121), .val (.int (0 : Int32))]) rfl k) ?_
      show GoW _ _ _ _ _ _ _ T129 (mkF m 182 #[.val (.int p0), .val (.int p1), .val (.int p2), .val (.int p3), .val (.ref bA), .val (.ref bS), .val (.ref tt), .val (.ref b1), .val (.int (1 : Int32)), .val (.int (0 : Int32)), .val (.ref b113), .val (.ref b121), .val (.int (0 : Int32))] [])
      refine GoW.st (fun _ k => XS.aload X129.here hx rfl (hb hby at_182) rfl rfl k) ?_
      show GoW _ _ _ _ _ _ _ T129 (mkF m 184 #[.val (.int p0), .val (.int p1), .val (.int p2), .val (.int p3), .val (.ref bA), .val (.ref bS), .val (.ref tt), .val (.ref b1), .val (.int (1 : Int32)), .val (.int (0 : Int32)), .val (.ref b113), .val (.ref b121), .val (.int (0 : Int32))] [(.ref b113)])
      refine GoW.st (fun _ k => XS.aload X129.here hx rfl (hb hby at_184) rfl rfl k) ?_
      show GoW _ _ _ _ _ _ _ T129 (mkF m 186 #[.val (.int p0), .val (.int p1), .val (.int p2), .val (.int p3), .val (.ref bA), .val (.ref bS), .val (.ref tt), .val (.ref b1), .val (.int (1 : Int32)), .val (.int (0 : Int32)), .val (.ref b113), .val (.ref b121), .val (.int (0 : Int32))] [(.ref b121), (.ref b113)])
      obtain ⟨cq130, kq130, q130a, q130b, q130c⟩ := isOf hZ e129 EE120__129
      obtain ⟨_, _, ⟨T130, L130, k130, n130⟩, -, X130, ⟨Lc130, hQ130, l130, y130, z130⟩, st130⟩ := X129.virtualBack hx (y := (⟨"com/example/prudent_checker/prudentchecker/language/VariableReference", "equals", "(Ljava/lang/Object;)Z"⟩ : MethodName)) (z := (⟨"com/example/prudent_checker/prudentchecker/language/VariableReference", "equals", "(Ljava/lang/Object;)Z"⟩ : MethodName)) hown (mvT hZ (hw _ (List.mem_of_getElem? (i := 68) rfl))) (mvT hZ (hw _ (List.mem_of_getElem? (i := 69) rfl))) (notFace_of_selects (args := #[]) (mvT hZ (hw _ (List.mem_of_getElem? (i := 71) rfl)))) (mvT hZ (hw _ (List.mem_of_getElem? (i := 71) rfl))) (mvT hZ (hw _ (List.mem_of_getElem? (i := 70) rfl))) (by decide) (backOf (W := 0) (rm10r l Z a0 hw [] b113 b121 b8 b2 h129 n0 Z129 EE129 F_variable_b113__129 F_variable_b121__129) hZ (hw _ (List.mem_of_getElem? (i := 72) rfl)) (hw _ (List.mem_of_getElem? (i := 56) rfl)) (by decide) (by decide)) q130a q130c (g := (mkF m 186 #[.val (.int p0), .val (.int p1), .val (.int p2), .val (.int p3), .val (.ref bA), .val (.ref bS), .val (.ref tt), .val (.ref b1), .val (.int (1 : Int32)), .val (.int (0 : Int32)), .val (.ref b113), .val (.ref b121), .val (.int (0 : Int32))] [(.ref b121), (.ref b113)])) rfl (by rw [hml]; rfl) (Steps.refl _) (argsL := [(.ref b121)]) (rest := []) (lenOf pd_3 rfl) rfl (by show 2 * 0 + _ ≤ _; exact Nat.le_of_eq rfl) (hb hby at_186) (fun _ _ => ⟨rfl, e129, (by decide : 11 + 0 ≤ _), (by decide : 33 + 0 ≤ _)⟩)
      dsimp only [Pt.U, Pt.locs, Pt.cells, Pt.slots] at X130 l130 y130 z130 st130 hQ130
      subst l130 y130 z130
      obtain ⟨rfl, N130q, e130⟩ := hQ130
      have N130 := Fr.app N129 N130q
      refine GoW.st (fun _ k => st130.trans k) ?_
      show GoW _ _ _ _ _ _ _ T130 (mkF m 189 #[.val (.int p0), .val (.int p1), .val (.int p2), .val (.int p3), .val (.ref bA), .val (.ref bS), .val (.ref tt), .val (.ref b1), .val (.int (1 : Int32)), .val (.int (0 : Int32)), .val (.ref b113), .val (.ref b121), .val (.int (0 : Int32))] [(.int (val_10r b113 b121 b8 b2))])
      rw [show (val_10r b113 b121 b8 b2) = (0 : Int32) from by unfold val_10r; rw [if_neg (Ne.symm ne9)]]
      show GoW _ _ _ _ _ _ _ T130 (mkF m 189 #[.val (.int p0), .val (.int p1), .val (.int p2), .val (.int p3), .val (.ref bA), .val (.ref bS), .val (.ref tt), .val (.ref b1), .val (.int (1 : Int32)), .val (.int (0 : Int32)), .val (.ref b113), .val (.ref b121), .val (.int (0 : Int32))] [(.int (0 : Int32))])
      refine GoW.st (fun _ k => XS.iload X130.here hx rfl (hb hby at_189) rfl k) ?_
      show GoW _ _ _ _ _ _ _ T130 (mkF m 191 #[.val (.int p0), .val (.int p1), .val (.int p2), .val (.int p3), .val (.ref bA), .val (.ref bS), .val (.ref tt), .val (.ref b1), .val (.int (1 : Int32)), .val (.int (0 : Int32)), .val (.ref b113), .val (.ref b121), .val (.int (0 : Int32))] [(.int (0 : Int32)), (.int (0 : Int32))])
      refine GoW.st (fun _ k => XS.icmpNo X130.here hx rfl (hb hby at_191) rfl (teq (by decide : (0 : Int32) = (0 : Int32))).2 k) ?_
      show GoW _ _ _ _ _ _ _ T130 (mkF m 194 #[.val (.int p0), .val (.int p1), .val (.int p2), .val (.int p3), .val (.ref bA), .val (.ref bS), .val (.ref tt), .val (.ref b1), .val (.int (1 : Int32)), .val (.int (0 : Int32)), .val (.ref b113), .val (.ref b121), .val (.int (0 : Int32))] [])
      refine GoW.st (fun _ k => XS.aload X130.here hx rfl (hb hby at_194) rfl rfl k) ?_
      show GoW _ _ _ _ _ _ _ T130 (mkF m 196 #[.val (.int p0), .val (.int p1), .val (.int p2), .val (.int p3), .val (.ref bA), .val (.ref bS), .val (.ref tt), .val (.ref b1), .val (.int (1 : Int32)), .val (.int (0 : Int32)), .val (.ref b113), .val (.ref b121), .val (.int (0 : Int32))] [(.ref b121)])
      refine GoW.st (fun _ k => XS.aload X130.here hx rfl (hb hby at_196) rfl rfl k) ?_
      show GoW _ _ _ _ _ _ _ T130 (mkF m 198 #[.val (.int p0), .val (.int p1), .val (.int p2), .val (.int p3), .val (.ref bA), .val (.ref bS), .val (.ref tt), .val (.ref b1), .val (.int (1 : Int32)), .val (.int (0 : Int32)), .val (.ref b113), .val (.ref b121), .val (.int (0 : Int32))] [(.ref b113), (.ref b121)])
      obtain ⟨cq131, kq131, q131a, q131b, q131c⟩ := isOf hZ e130 EE129
      obtain ⟨_, _, ⟨T131, L131, k131, n131⟩, -, X131, ⟨Lc131, hQ131, l131, y131, z131⟩, st131⟩ := X130.virtualBack hx (y := (⟨"com/example/prudent_checker/prudentchecker/language/VariableReference", "equals", "(Ljava/lang/Object;)Z"⟩ : MethodName)) (z := (⟨"com/example/prudent_checker/prudentchecker/language/VariableReference", "equals", "(Ljava/lang/Object;)Z"⟩ : MethodName)) hown (mvT hZ (hw _ (List.mem_of_getElem? (i := 68) rfl))) (mvT hZ (hw _ (List.mem_of_getElem? (i := 69) rfl))) (notFace_of_selects (args := #[]) (mvT hZ (hw _ (List.mem_of_getElem? (i := 71) rfl)))) (mvT hZ (hw _ (List.mem_of_getElem? (i := 71) rfl))) (mvT hZ (hw _ (List.mem_of_getElem? (i := 70) rfl))) (by decide) (backOf (W := 0) (rm10r l Z a0 hw [] b121 b113 b2 b8 h129 n0 Z129 EE120__129 F_variable_b121__129 F_variable_b113__129) hZ (hw _ (List.mem_of_getElem? (i := 72) rfl)) (hw _ (List.mem_of_getElem? (i := 56) rfl)) (by decide) (by decide)) q131a q131c (g := (mkF m 198 #[.val (.int p0), .val (.int p1), .val (.int p2), .val (.int p3), .val (.ref bA), .val (.ref bS), .val (.ref tt), .val (.ref b1), .val (.int (1 : Int32)), .val (.int (0 : Int32)), .val (.ref b113), .val (.ref b121), .val (.int (0 : Int32))] [(.ref b113), (.ref b121)])) rfl (by rw [hml]; rfl) (Steps.refl _) (argsL := [(.ref b113)]) (rest := []) (lenOf pd_3 rfl) rfl (by show 2 * 0 + _ ≤ _; exact Nat.le_of_eq rfl) (hb hby at_198) (fun _ _ => ⟨rfl, e130, (by decide : 11 + 0 ≤ _), (by decide : 33 + 0 ≤ _)⟩)
      dsimp only [Pt.U, Pt.locs, Pt.cells, Pt.slots] at X131 l131 y131 z131 st131 hQ131
      subst l131 y131 z131
      obtain ⟨rfl, N131q, e131⟩ := hQ131
      have N131 := Fr.app N130 N131q
      refine GoW.st (fun _ k => st131.trans k) ?_
      show GoW _ _ _ _ _ _ _ T131 (mkF m 201 #[.val (.int p0), .val (.int p1), .val (.int p2), .val (.int p3), .val (.ref bA), .val (.ref bS), .val (.ref tt), .val (.ref b1), .val (.int (1 : Int32)), .val (.int (0 : Int32)), .val (.ref b113), .val (.ref b121), .val (.int (0 : Int32))] [(.int (val_10r b121 b113 b2 b8))])
      rw [show (val_10r b121 b113 b2 b8) = (0 : Int32) from by unfold val_10r; rw [if_neg ne9]]
      show GoW _ _ _ _ _ _ _ T131 (mkF m 201 #[.val (.int p0), .val (.int p1), .val (.int p2), .val (.int p3), .val (.ref bA), .val (.ref bS), .val (.ref tt), .val (.ref b1), .val (.int (1 : Int32)), .val (.int (0 : Int32)), .val (.ref b113), .val (.ref b121), .val (.int (0 : Int32))] [(.int (0 : Int32))])
      refine GoW.st (fun _ k => XS.iload X131.here hx rfl (hb hby at_201) rfl k) ?_
      show GoW _ _ _ _ _ _ _ T131 (mkF m 203 #[.val (.int p0), .val (.int p1), .val (.int p2), .val (.int p3), .val (.ref bA), .val (.ref bS), .val (.ref tt), .val (.ref b1), .val (.int (1 : Int32)), .val (.int (0 : Int32)), .val (.ref b113), .val (.ref b121), .val (.int (0 : Int32))] [(.int (0 : Int32)), (.int (0 : Int32))])
      refine GoW.st (fun _ k => XS.icmpNo X131.here hx rfl (hb hby at_203) rfl (teq (by decide : (0 : Int32) = (0 : Int32))).2 k) ?_
      show GoW _ _ _ _ _ _ _ T131 (mkF m 206 #[.val (.int p0), .val (.int p1), .val (.int p2), .val (.int p3), .val (.ref bA), .val (.ref bS), .val (.ref tt), .val (.ref b1), .val (.int (1 : Int32)), .val (.int (0 : Int32)), .val (.ref b113), .val (.ref b121), .val (.int (0 : Int32))] [])
      refine GoW.st (fun _ k => XS.iconst X131.here hx rfl (hb hby at_206) k) ?_
      show GoW _ _ _ _ _ _ _ T131 (mkF m 207 #[.val (.int p0), .val (.int p1), .val (.int p2), .val (.int p3), .val (.ref bA), .val (.ref bS), .val (.ref tt), .val (.ref b1), .val (.int (1 : Int32)), .val (.int (0 : Int32)), .val (.ref b113), .val (.ref b121), .val (.int (0 : Int32))] [(.int (1 : Int32))])
      refine GoW.st (fun _ k => XS.goto X131.here hx rfl (pc0 := 207) (pc' := 211) rfl (hb hby at_207) (by decide) (by decide) k) ?_
      show GoW _ _ _ _ _ _ _ T131 (mkF m 211 #[.val (.int p0), .val (.int p1), .val (.int p2), .val (.int p3), .val (.ref bA), .val (.ref bS), .val (.ref tt), .val (.ref b1), .val (.int (1 : Int32)), .val (.int (0 : Int32)), .val (.ref b113), .val (.ref b121), .val (.int (0 : Int32))] [(.int (1 : Int32))])
      refine GoW.ret X131 hS (by rw [e131]; exact hk129) hlk (v := some (.int (1 : Int32))) (fun h => by rw [hret] at h; cases h) (fun fs hr => retN X131 hx (t := .boolean) hret (by simp) (hb hby at_211) hr) ?_ (by decide) (by decide)
      show Q0 Z p0 p1 p2 p3 w_BYTE w_INT G1 h0 n0 (some (.int (1 : Int32))) T131.heap _
      rw [e131]
      exact ⟨rfl, N131⟩
    · rw [hk112]
      show GoW _ _ _ _ _ _ _ T23 (mkF m 132 #[.val (.int p0), .val (.int p1), .val (.int p2), .val (.int p3), .val (.ref bA), .val (.ref bS), .val (.ref tt), .val (.ref b1), .val (.int (1 : Int32)), .unset, .unset, .unset, .unset] [(.int (1 : Int32))])
      refine GoW.st (fun _ k => XS.istore X23.here hx rfl (hb hby at_132) rfl (l' := #[.val (.int p0), .val (.int p1), .val (.int p2), .val (.int p3), .val (.ref bA), .val (.ref bS), .val (.ref tt), .val (.ref b1), .val (.int (1 : Int32)), .val (.int (1 : Int32)), .unset, .unset, .unset]) rfl k) ?_
      show GoW _ _ _ _ _ _ _ T23 (mkF m 134 #[.val (.int p0), .val (.int p1), .val (.int p2), .val (.int p3), .val (.ref bA), .val (.ref bS), .val (.ref tt), .val (.ref b1), .val (.int (1 : Int32)), .val (.int (1 : Int32)), .unset, .unset, .unset] [])
      obtain ⟨T132, h132, X132, e132, E132, A132, D132, -, st132⟩ := newO X23 hx hZ hown (hw _ (List.mem_of_getElem? (i := 54) rfl)) (hw _ (List.mem_of_getElem? (i := 55) rfl)) (hw _ (List.mem_of_getElem? (i := 56) rfl)) e23 (g := (mkF m 134 #[.val (.int p0), .val (.int p1), .val (.int p2), .val (.int p3), .val (.ref bA), .val (.ref bS), .val (.ref tt), .val (.ref b1), .val (.int (1 : Int32)), .val (.int (1 : Int32)), .unset, .unset, .unset] [])) rfl (hb hby at_134) (by decide) (by decide)
      obtain ⟨b132, g132⟩ : ∃ z, z = h23.size := ⟨_, rfl⟩
      rw [← g132] at A132 D132 st132
      have ne133 : b2 ≠ b132 := Nat.ne_of_lt (Nat.lt_of_lt_of_le EE4__23.lt (Nat.le_of_eq g132.symm))
      have ne134 : b8 ≠ b132 := Nat.ne_of_lt (Nat.lt_of_lt_of_le EE11__23.lt (Nat.le_of_eq g132.symm))
      have ne135 : b15 ≠ b132 := Nat.ne_of_lt (Nat.lt_of_lt_of_le EE20__23.lt (Nat.le_of_eq g132.symm))
      have ne136 : b1 ≠ b132 := Nat.ne_of_lt (Nat.lt_of_lt_of_le V_b1__23.lt (Nat.le_of_eq g132.symm))
      have g_b132 : n0 ≤ b132 := Nat.le_trans Z23 (Nat.le_of_eq g132.symm)
      have EE4__132 := EE4__23.ext E132
      have EE11__132 := EE11__23.ext E132
      have EE20__132 := EE20__23.ext E132
      have V_b1__132 := V_b1__23.ext E132
      have Z132 : n0 ≤ h132.size := Nat.le_trans Z23 E132.1
      have hk132 := Nat.le_trans hk23 E132.1
      have F_variable_b132 : Fld Z h132 b132 "com/example/prudent_checker/prudentchecker/language/VariableReference" "variable" "Lcom/example/prudent_checker/prudentchecker/language/Variable;" .null := D132 (Or.inr (hw _ (List.mem_of_getElem? (i := 67) rfl))) (ty := (.object "com/example/prudent_checker/prudentchecker/language/Variable")) (by decide)
      refine GoW.st st132 ?_
      show GoW _ _ _ _ _ _ _ T132 (mkF m 137 #[.val (.int p0), .val (.int p1), .val (.int p2), .val (.int p3), .val (.ref bA), .val (.ref bS), .val (.ref tt), .val (.ref b1), .val (.int (1 : Int32)), .val (.int (1 : Int32)), .unset, .unset, .unset] [(.ref b132)])
      refine GoW.st (fun _ k => XS.dup X132.here hx rfl (hb hby at_137) rfl rfl k) ?_
      show GoW _ _ _ _ _ _ _ T132 (mkF m 138 #[.val (.int p0), .val (.int p1), .val (.int p2), .val (.int p3), .val (.ref bA), .val (.ref bS), .val (.ref tt), .val (.ref b1), .val (.int (1 : Int32)), .val (.int (1 : Int32)), .unset, .unset, .unset] [(.ref b132), (.ref b132)])
      refine GoW.st (fun _ k => XS.aload X132.here hx rfl (hb hby at_138) rfl rfl k) ?_
      show GoW _ _ _ _ _ _ _ T132 (mkF m 140 #[.val (.int p0), .val (.int p1), .val (.int p2), .val (.int p3), .val (.ref bA), .val (.ref bS), .val (.ref tt), .val (.ref b1), .val (.int (1 : Int32)), .val (.int (1 : Int32)), .unset, .unset, .unset] [(.ref b1), (.ref b132), (.ref b132)])
      refine GoW.st (fun _ k => XS.iload X132.here hx rfl (hb hby at_140) rfl k) ?_
      show GoW _ _ _ _ _ _ _ T132 (mkF m 142 #[.val (.int p0), .val (.int p1), .val (.int p2), .val (.int p3), .val (.ref bA), .val (.ref bS), .val (.ref tt), .val (.ref b1), .val (.int (1 : Int32)), .val (.int (1 : Int32)), .unset, .unset, .unset] [(.int (1 : Int32)), (.ref b1), (.ref b132), (.ref b132)])
      obtain ⟨cl137, Ar137, qq137, SS137, NN137, HH137, GG137⟩ := id V_b1__132
      have hin138 : ¬ ((1 : Int32) < 0 ∨ cl137.slots.size ≤ ((1 : Int32)).toNatClampNeg) := inb_of SS137 ⟨by decide, by decide⟩
      refine GoW.st (fun _ k => X132.aaload hx (j := (1 : Int32)) (v := (.ref b8)) (by rw [e132]; exact Ar137.1) (State.isArrayOf_alike hZ.alike Ar137.2.1) rfl Ar137.2.2 hin138 (HH137.at hin138 rfl) (g := (mkF m 142 #[.val (.int p0), .val (.int p1), .val (.int p2), .val (.int p3), .val (.ref bA), .val (.ref bS), .val (.ref tt), .val (.ref b1), .val (.int (1 : Int32)), .val (.int (1 : Int32)), .unset, .unset, .unset] [(.int (1 : Int32)), (.ref b1), (.ref b132), (.ref b132)])) rfl rfl (hb hby at_142) _ k) ?_
      show GoW _ _ _ _ _ _ _ T132 (mkF m 143 #[.val (.int p0), .val (.int p1), .val (.int p2), .val (.int p3), .val (.ref bA), .val (.ref bS), .val (.ref tt), .val (.ref b1), .val (.int (1 : Int32)), .val (.int (1 : Int32)), .unset, .unset, .unset] [(.ref b8), (.ref b132), (.ref b132)])
      obtain ⟨_, _, ⟨T139, L139, k139, n139⟩, -, X139, ⟨Lc139, hQ139, l139, y139, z139⟩, st139⟩ := X132.specialBack hx (y := (⟨"com/example/prudent_checker/prudentchecker/language/VariableReference", "<init>", "(Lcom/example/prudent_checker/prudentchecker/language/Variable;)V"⟩ : MethodName)) rfl hown (mvT hZ (hw _ (List.mem_of_getElem? (i := 57) rfl))) (mvT hZ (hw _ (List.mem_of_getElem? (i := 58) rfl))) (mvT hZ (hw _ (List.mem_of_getElem? (i := 59) rfl))) (by decide) (backOf (W := 1) (rm8 l Z a0 hw [] b132 b8 .null h132 n0 Z132 A132 F_variable_b132 g_b132) hZ (hw _ (List.mem_of_getElem? (i := 59) rfl)) (hw _ (List.mem_of_getElem? (i := 56) rfl)) (by decide) (by decide)) (g := (mkF m 143 #[.val (.int p0), .val (.int p1), .val (.int p2), .val (.int p3), .val (.ref bA), .val (.ref bS), .val (.ref tt), .val (.ref b1), .val (.int (1 : Int32)), .val (.int (1 : Int32)), .unset, .unset, .unset] [(.ref b8), (.ref b132), (.ref b132)])) rfl (by rw [hml]; rfl) (Steps.refl _) (a := b132) (argsL := [(.ref b8)]) (rest := [(.ref b132)]) (lenOf pd_2 rfl) rfl (by show 2 * 0 + _ ≤ _; exact Nat.le_of_eq rfl) (hb hby at_143) (fun _ _ => ⟨rfl, e132, (by decide : 10 + 0 ≤ _), (by decide : 32 + 0 ≤ _)⟩)
      dsimp only [Pt.U, Pt.locs, Pt.cells, Pt.slots] at X139 l139 y139 z139 st139 hQ139
      subst l139 y139 z139
      generalize e139 : T139.heap = h139 at hQ139
      obtain ⟨rfl, N139q, K139, EE139, FF_variable_139⟩ := hQ139
      have N139 := Fr.app N23 N139q
      refine GoW.st (fun _ k => st139.trans k) ?_
      have EE4__139 := EE4__132.keep K139
      have EE11__139 := EE11__132.keep K139
      have EE20__139 := EE20__132.keep K139
      have V_b1__139 := V_b1__132.keep K139 (ninS ne136 (nin0))
      have A132__139 := A132.keep K139
      have Z139 : n0 ≤ h139.size := Nat.le_trans Z132 K139.1
      have hk139 := Nat.le_trans hk132 K139.1
      rw [show (val_8_variable b132 b8 .null) = (.ref b8) from by unfold val_8_variable; rfl] at FF_variable_139
      have F_variable_b132__139 := FF_variable_139
      show GoW _ _ _ _ _ _ _ T139 (mkF m 146 #[.val (.int p0), .val (.int p1), .val (.int p2), .val (.int p3), .val (.ref bA), .val (.ref bS), .val (.ref tt), .val (.ref b1), .val (.int (1 : Int32)), .val (.int (1 : Int32)), .unset, .unset, .unset] [(.ref b132)])
      refine GoW.st (fun _ k => XS.astore X139.here hx rfl (hb hby at_146) rfl rfl (l' := #[.val (.int p0), .val (.int p1), .val (.int p2), .val (.int p3), .val (.ref bA), .val (.ref bS), .val (.ref tt), .val (.ref b1), .val (.int (1 : Int32)), .val (.int (1 : Int32)), .val (.ref b132), .unset, .unset]) rfl k) ?_
      show GoW _ _ _ _ _ _ _ T139 (mkF m 148 #[.val (.int p0), .val (.int p1), .val (.int p2), .val (.int p3), .val (.ref bA), .val (.ref bS), .val (.ref tt), .val (.ref b1), .val (.int (1 : Int32)), .val (.int (1 : Int32)), .val (.ref b132), .unset, .unset] [])
      refine GoW.st (fun _ k => XS.iload X139.here hx rfl (hb hby at_148) rfl k) ?_
      show GoW _ _ _ _ _ _ _ T139 (mkF m 150 #[.val (.int p0), .val (.int p1), .val (.int p2), .val (.int p3), .val (.ref bA), .val (.ref bS), .val (.ref tt), .val (.ref b1), .val (.int (1 : Int32)), .val (.int (1 : Int32)), .val (.ref b132), .unset, .unset] [(.int (1 : Int32))])
      refine GoW.st (fun _ k => XS.iconst X139.here hx rfl (hb hby at_150) k) ?_
      show GoW _ _ _ _ _ _ _ T139 (mkF m 151 #[.val (.int p0), .val (.int p1), .val (.int p2), .val (.int p3), .val (.ref bA), .val (.ref bS), .val (.ref tt), .val (.ref b1), .val (.int (1 : Int32)), .val (.int (1 : Int32)), .val (.ref b132), .unset, .unset] [(.int (3 : Int32)), (.int (1 : Int32))])
      refine GoW.st (fun _ k => XS.icmpNo X139.here hx rfl (hb hby at_151) rfl (tlt (by decide : (1 : Int32) < (3 : Int32))).2.1 k) ?_
      show GoW _ _ _ _ _ _ _ T139 (mkF m 154 #[.val (.int p0), .val (.int p1), .val (.int p2), .val (.int p3), .val (.ref bA), .val (.ref bS), .val (.ref tt), .val (.ref b1), .val (.int (1 : Int32)), .val (.int (1 : Int32)), .val (.ref b132), .unset, .unset] [])
      obtain ⟨T140, h140, X140, e140, E140, A140, D140, -, st140⟩ := newO X139 hx hZ hown (hw _ (List.mem_of_getElem? (i := 54) rfl)) (hw _ (List.mem_of_getElem? (i := 55) rfl)) (hw _ (List.mem_of_getElem? (i := 56) rfl)) e139 (g := (mkF m 154 #[.val (.int p0), .val (.int p1), .val (.int p2), .val (.int p3), .val (.ref bA), .val (.ref bS), .val (.ref tt), .val (.ref b1), .val (.int (1 : Int32)), .val (.int (1 : Int32)), .val (.ref b132), .unset, .unset] [])) rfl (hb hby at_154) (by decide) (by decide)
      obtain ⟨b140, g140⟩ : ∃ z, z = h139.size := ⟨_, rfl⟩
      rw [← g140] at A140 D140 st140
      have ne141 : b2 ≠ b140 := Nat.ne_of_lt (Nat.lt_of_lt_of_le EE4__139.lt (Nat.le_of_eq g140.symm))
      have ne142 : b8 ≠ b140 := Nat.ne_of_lt (Nat.lt_of_lt_of_le EE11__139.lt (Nat.le_of_eq g140.symm))
      have ne143 : b15 ≠ b140 := Nat.ne_of_lt (Nat.lt_of_lt_of_le EE20__139.lt (Nat.le_of_eq g140.symm))
      have ne144 : b1 ≠ b140 := Nat.ne_of_lt (Nat.lt_of_lt_of_le V_b1__139.lt (Nat.le_of_eq g140.symm))
      have ne145 : b132 ≠ b140 := Nat.ne_of_lt (Nat.lt_of_lt_of_le EE139.lt (Nat.le_of_eq g140.symm))
      have g_b140 : n0 ≤ b140 := Nat.le_trans Z139 (Nat.le_of_eq g140.symm)
      have EE4__140 := EE4__139.ext E140
      have EE11__140 := EE11__139.ext E140
      have EE20__140 := EE20__139.ext E140
      have V_b1__140 := V_b1__139.ext E140
      have EE139__140 := EE139.ext E140
      have F_variable_b132__140 := F_variable_b132__139.ext E140
      have Z140 : n0 ≤ h140.size := Nat.le_trans Z139 E140.1
      have hk140 := Nat.le_trans hk139 E140.1
      have F_variable_b140 : Fld Z h140 b140 "com/example/prudent_checker/prudentchecker/language/VariableReference" "variable" "Lcom/example/prudent_checker/prudentchecker/language/Variable;" .null := D140 (Or.inr (hw _ (List.mem_of_getElem? (i := 67) rfl))) (ty := (.object "com/example/prudent_checker/prudentchecker/language/Variable")) (by decide)
      refine GoW.st st140 ?_
      show GoW _ _ _ _ _ _ _ T140 (mkF m 157 #[.val (.int p0), .val (.int p1), .val (.int p2), .val (.int p3), .val (.ref bA), .val (.ref bS), .val (.ref tt), .val (.ref b1), .val (.int (1 : Int32)), .val (.int (1 : Int32)), .val (.ref b132), .unset, .unset] [(.ref b140)])
      refine GoW.st (fun _ k => XS.dup X140.here hx rfl (hb hby at_157) rfl rfl k) ?_
      show GoW _ _ _ _ _ _ _ T140 (mkF m 158 #[.val (.int p0), .val (.int p1), .val (.int p2), .val (.int p3), .val (.ref bA), .val (.ref bS), .val (.ref tt), .val (.ref b1), .val (.int (1 : Int32)), .val (.int (1 : Int32)), .val (.ref b132), .unset, .unset] [(.ref b140), (.ref b140)])
      refine GoW.st (fun _ k => XS.aload X140.here hx rfl (hb hby at_158) rfl rfl k) ?_
      show GoW _ _ _ _ _ _ _ T140 (mkF m 160 #[.val (.int p0), .val (.int p1), .val (.int p2), .val (.int p3), .val (.ref bA), .val (.ref bS), .val (.ref tt), .val (.ref b1), .val (.int (1 : Int32)), .val (.int (1 : Int32)), .val (.ref b132), .unset, .unset] [(.ref b1), (.ref b140), (.ref b140)])
      refine GoW.st (fun _ k => XS.iload X140.here hx rfl (hb hby at_160) rfl k) ?_
      show GoW _ _ _ _ _ _ _ T140 (mkF m 162 #[.val (.int p0), .val (.int p1), .val (.int p2), .val (.int p3), .val (.ref bA), .val (.ref bS), .val (.ref tt), .val (.ref b1), .val (.int (1 : Int32)), .val (.int (1 : Int32)), .val (.ref b132), .unset, .unset] [(.int (1 : Int32)), (.ref b1), (.ref b140), (.ref b140)])
      obtain ⟨cl146, Ar146, qq146, SS146, NN146, HH146, GG146⟩ := id V_b1__140
      have hin147 : ¬ ((1 : Int32) < 0 ∨ cl146.slots.size ≤ ((1 : Int32)).toNatClampNeg) := inb_of SS146 ⟨by decide, by decide⟩
      refine GoW.st (fun _ k => X140.aaload hx (j := (1 : Int32)) (v := (.ref b8)) (by rw [e140]; exact Ar146.1) (State.isArrayOf_alike hZ.alike Ar146.2.1) rfl Ar146.2.2 hin147 (HH146.at hin147 rfl) (g := (mkF m 162 #[.val (.int p0), .val (.int p1), .val (.int p2), .val (.int p3), .val (.ref bA), .val (.ref bS), .val (.ref tt), .val (.ref b1), .val (.int (1 : Int32)), .val (.int (1 : Int32)), .val (.ref b132), .unset, .unset] [(.int (1 : Int32)), (.ref b1), (.ref b140), (.ref b140)])) rfl rfl (hb hby at_162) _ k) ?_
      show GoW _ _ _ _ _ _ _ T140 (mkF m 163 #[.val (.int p0), .val (.int p1), .val (.int p2), .val (.int p3), .val (.ref bA), .val (.ref bS), .val (.ref tt), .val (.ref b1), .val (.int (1 : Int32)), .val (.int (1 : Int32)), .val (.ref b132), .unset, .unset] [(.ref b8), (.ref b140), (.ref b140)])
      obtain ⟨_, _, ⟨T148, L148, k148, n148⟩, -, X148, ⟨Lc148, hQ148, l148, y148, z148⟩, st148⟩ := X140.specialBack hx (y := (⟨"com/example/prudent_checker/prudentchecker/language/VariableReference", "<init>", "(Lcom/example/prudent_checker/prudentchecker/language/Variable;)V"⟩ : MethodName)) rfl hown (mvT hZ (hw _ (List.mem_of_getElem? (i := 57) rfl))) (mvT hZ (hw _ (List.mem_of_getElem? (i := 58) rfl))) (mvT hZ (hw _ (List.mem_of_getElem? (i := 59) rfl))) (by decide) (backOf (W := 1) (rm8 l Z a0 hw [] b140 b8 .null h140 n0 Z140 A140 F_variable_b140 g_b140) hZ (hw _ (List.mem_of_getElem? (i := 59) rfl)) (hw _ (List.mem_of_getElem? (i := 56) rfl)) (by decide) (by decide)) (g := (mkF m 163 #[.val (.int p0), .val (.int p1), .val (.int p2), .val (.int p3), .val (.ref bA), .val (.ref bS), .val (.ref tt), .val (.ref b1), .val (.int (1 : Int32)), .val (.int (1 : Int32)), .val (.ref b132), .unset, .unset] [(.ref b8), (.ref b140), (.ref b140)])) rfl (by rw [hml]; rfl) (Steps.refl _) (a := b140) (argsL := [(.ref b8)]) (rest := [(.ref b140)]) (lenOf pd_2 rfl) rfl (by show 2 * 0 + _ ≤ _; exact Nat.le_of_eq rfl) (hb hby at_163) (fun _ _ => ⟨rfl, e140, (by decide : 11 + 0 ≤ _), (by decide : 33 + 0 ≤ _)⟩)
      dsimp only [Pt.U, Pt.locs, Pt.cells, Pt.slots] at X148 l148 y148 z148 st148 hQ148
      subst l148 y148 z148
      generalize e148 : T148.heap = h148 at hQ148
      obtain ⟨rfl, N148q, K148, EE148, FF_variable_148⟩ := hQ148
      have N148 := Fr.app N139 N148q
      refine GoW.st (fun _ k => st148.trans k) ?_
      have EE4__148 := EE4__140.keep K148
      have EE11__148 := EE11__140.keep K148
      have EE20__148 := EE20__140.keep K148
      have V_b1__148 := V_b1__140.keep K148 (ninS ne144 (nin0))
      have EE139__148 := EE139__140.keep K148
      have F_variable_b132__148 := F_variable_b132__140.keep K148 (ninS ne145 (nin0))
      have A140__148 := A140.keep K148
      have Z148 : n0 ≤ h148.size := Nat.le_trans Z140 K148.1
      have hk148 := Nat.le_trans hk140 K148.1
      rw [show (val_8_variable b140 b8 .null) = (.ref b8) from by unfold val_8_variable; rfl] at FF_variable_148
      have F_variable_b140__148 := FF_variable_148
      show GoW _ _ _ _ _ _ _ T148 (mkF m 166 #[.val (.int p0), .val (.int p1), .val (.int p2), .val (.int p3), .val (.ref bA), .val (.ref bS), .val (.ref tt), .val (.ref b1), .val (.int (1 : Int32)), .val (.int (1 : Int32)), .val (.ref b132), .unset, .unset] [(.ref b140)])
      refine GoW.st (fun _ k => XS.astore X148.here hx rfl (hb hby at_166) rfl rfl (l' := #[.val (.int p0), .val (.int p1), .val (.int p2), .val (.int p3), .val (.ref bA), .val (.ref bS), .val (.ref tt), .val (.ref b1), .val (.int (1 : Int32)), .val (.int (1 : Int32)), .val (.ref b132), .val (.ref b140), .unset]) rfl k) ?_
      show GoW _ _ _ _ _ _ _ T148 (mkF m 168 #[.val (.int p0), .val (.int p1), .val (.int p2), .val (.int p3), .val (.ref bA), .val (.ref bS), .val (.ref tt), .val (.ref b1), .val (.int (1 : Int32)), .val (.int (1 : Int32)), .val (.ref b132), .val (.ref b140), .unset] [])
      refine GoW.st (fun _ k => XS.iload X148.here hx rfl (hb hby at_168) rfl k) ?_
      show GoW _ _ _ _ _ _ _ T148 (mkF m 170 #[.val (.int p0), .val (.int p1), .val (.int p2), .val (.int p3), .val (.ref bA), .val (.ref bS), .val (.ref tt), .val (.ref b1), .val (.int (1 : Int32)), .val (.int (1 : Int32)), .val (.ref b132), .val (.ref b140), .unset] [(.int (1 : Int32))])
      refine GoW.st (fun _ k => XS.iload X148.here hx rfl (hb hby at_170) rfl k) ?_
      show GoW _ _ _ _ _ _ _ T148 (mkF m 172 #[.val (.int p0), .val (.int p1), .val (.int p2), .val (.int p3), .val (.ref bA), .val (.ref bS), .val (.ref tt), .val (.ref b1), .val (.int (1 : Int32)), .val (.int (1 : Int32)), .val (.ref b132), .val (.ref b140), .unset] [(.int (1 : Int32)), (.int (1 : Int32))])
      refine GoW.st (fun _ k => XS.icmpNo X148.here hx rfl (hb hby at_172) rfl (teq (by decide : (1 : Int32) = (1 : Int32))).2 k) ?_
      show GoW _ _ _ _ _ _ _ T148 (mkF m 175 #[.val (.int p0), .val (.int p1), .val (.int p2), .val (.int p3), .val (.ref bA), .val (.ref bS), .val (.ref tt), .val (.ref b1), .val (.int (1 : Int32)), .val (.int (1 : Int32)), .val (.ref b132), .val (.ref b140), .unset] [])
      refine GoW.st (fun _ k => XS.iconst X148.here hx rfl (hb hby at_175) k) ?_
      show GoW _ _ _ _ _ _ _ T148 (mkF m 176 #[.val (.int p0), .val (.int p1), .val (.int p2), .val (.int p3), .val (.ref bA), .val (.ref bS), .val (.ref tt), .val (.ref b1), .val (.int (1 : Int32)), .val (.int (1 : Int32)), .val (.ref b132), .val (.ref b140), .unset] [(.int (1 : Int32))])
      refine GoW.st (fun _ k => XS.goto X148.here hx rfl (pc0 := 176) (pc' := 180) rfl (hb hby at_176) (by decide) (by decide) k) ?_
      show GoW _ _ _ _ _ _ _ T148 (mkF m 180 #[.val (.int p0), .val (.int p1), .val (.int p2), .val (.int p3), .val (.ref bA), .val (.ref bS), .val (.ref tt), .val (.ref b1), .val (.int (1 : Int32)), .val (.int (1 : Int32)), .val (.ref b132), .val (.ref b140), .unset] [(.int (1 : Int32))])
      refine GoW.st (fun _ k => XS.istore X148.here hx rfl (hb hby at_180) rfl (l' := #[.val (.int p0), .val (.int p1), .val (.int p2), .val (.int p3), .val (.ref bA), .val (.ref bS), .val (.ref tt), .val (.ref b1), .val (.int (1 : Int32)), .val (.int (1 : Int32)), .val (.ref b132), .val (.ref b140), .val (.int (1 : Int32))]) rfl k) ?_
      show GoW _ _ _ _ _ _ _ T148 (mkF m 182 #[.val (.int p0), .val (.int p1), .val (.int p2), .val (.int p3), .val (.ref bA), .val (.ref bS), .val (.ref tt), .val (.ref b1), .val (.int (1 : Int32)), .val (.int (1 : Int32)), .val (.ref b132), .val (.ref b140), .val (.int (1 : Int32))] [])
      refine GoW.st (fun _ k => XS.aload X148.here hx rfl (hb hby at_182) rfl rfl k) ?_
      show GoW _ _ _ _ _ _ _ T148 (mkF m 184 #[.val (.int p0), .val (.int p1), .val (.int p2), .val (.int p3), .val (.ref bA), .val (.ref bS), .val (.ref tt), .val (.ref b1), .val (.int (1 : Int32)), .val (.int (1 : Int32)), .val (.ref b132), .val (.ref b140), .val (.int (1 : Int32))] [(.ref b132)])
      refine GoW.st (fun _ k => XS.aload X148.here hx rfl (hb hby at_184) rfl rfl k) ?_
      show GoW _ _ _ _ _ _ _ T148 (mkF m 186 #[.val (.int p0), .val (.int p1), .val (.int p2), .val (.int p3), .val (.ref bA), .val (.ref bS), .val (.ref tt), .val (.ref b1), .val (.int (1 : Int32)), .val (.int (1 : Int32)), .val (.ref b132), .val (.ref b140), .val (.int (1 : Int32))] [(.ref b140), (.ref b132)])
      obtain ⟨cq149, kq149, q149a, q149b, q149c⟩ := isOf hZ e148 EE139__148
      obtain ⟨_, _, ⟨T149, L149, k149, n149⟩, -, X149, ⟨Lc149, hQ149, l149, y149, z149⟩, st149⟩ := X148.virtualBack hx (y := (⟨"com/example/prudent_checker/prudentchecker/language/VariableReference", "equals", "(Ljava/lang/Object;)Z"⟩ : MethodName)) (z := (⟨"com/example/prudent_checker/prudentchecker/language/VariableReference", "equals", "(Ljava/lang/Object;)Z"⟩ : MethodName)) hown (mvT hZ (hw _ (List.mem_of_getElem? (i := 68) rfl))) (mvT hZ (hw _ (List.mem_of_getElem? (i := 69) rfl))) (notFace_of_selects (args := #[]) (mvT hZ (hw _ (List.mem_of_getElem? (i := 71) rfl)))) (mvT hZ (hw _ (List.mem_of_getElem? (i := 71) rfl))) (mvT hZ (hw _ (List.mem_of_getElem? (i := 70) rfl))) (by decide) (backOf (W := 0) (rm10r l Z a0 hw [] b132 b140 b8 b8 h148 n0 Z148 EE148 F_variable_b132__148 F_variable_b140__148) hZ (hw _ (List.mem_of_getElem? (i := 72) rfl)) (hw _ (List.mem_of_getElem? (i := 56) rfl)) (by decide) (by decide)) q149a q149c (g := (mkF m 186 #[.val (.int p0), .val (.int p1), .val (.int p2), .val (.int p3), .val (.ref bA), .val (.ref bS), .val (.ref tt), .val (.ref b1), .val (.int (1 : Int32)), .val (.int (1 : Int32)), .val (.ref b132), .val (.ref b140), .val (.int (1 : Int32))] [(.ref b140), (.ref b132)])) rfl (by rw [hml]; rfl) (Steps.refl _) (argsL := [(.ref b140)]) (rest := []) (lenOf pd_3 rfl) rfl (by show 2 * 0 + _ ≤ _; exact Nat.le_of_eq rfl) (hb hby at_186) (fun _ _ => ⟨rfl, e148, (by decide : 11 + 0 ≤ _), (by decide : 33 + 0 ≤ _)⟩)
      dsimp only [Pt.U, Pt.locs, Pt.cells, Pt.slots] at X149 l149 y149 z149 st149 hQ149
      subst l149 y149 z149
      obtain ⟨rfl, N149q, e149⟩ := hQ149
      have N149 := Fr.app N148 N149q
      refine GoW.st (fun _ k => st149.trans k) ?_
      show GoW _ _ _ _ _ _ _ T149 (mkF m 189 #[.val (.int p0), .val (.int p1), .val (.int p2), .val (.int p3), .val (.ref bA), .val (.ref bS), .val (.ref tt), .val (.ref b1), .val (.int (1 : Int32)), .val (.int (1 : Int32)), .val (.ref b132), .val (.ref b140), .val (.int (1 : Int32))] [(.int (val_10r b132 b140 b8 b8))])
      rw [show (val_10r b132 b140 b8 b8) = (1 : Int32) from by unfold val_10r; rw [if_pos rfl]]
      show GoW _ _ _ _ _ _ _ T149 (mkF m 189 #[.val (.int p0), .val (.int p1), .val (.int p2), .val (.int p3), .val (.ref bA), .val (.ref bS), .val (.ref tt), .val (.ref b1), .val (.int (1 : Int32)), .val (.int (1 : Int32)), .val (.ref b132), .val (.ref b140), .val (.int (1 : Int32))] [(.int (1 : Int32))])
      refine GoW.st (fun _ k => XS.iload X149.here hx rfl (hb hby at_189) rfl k) ?_
      show GoW _ _ _ _ _ _ _ T149 (mkF m 191 #[.val (.int p0), .val (.int p1), .val (.int p2), .val (.int p3), .val (.ref bA), .val (.ref bS), .val (.ref tt), .val (.ref b1), .val (.int (1 : Int32)), .val (.int (1 : Int32)), .val (.ref b132), .val (.ref b140), .val (.int (1 : Int32))] [(.int (1 : Int32)), (.int (1 : Int32))])
      refine GoW.st (fun _ k => XS.icmpNo X149.here hx rfl (hb hby at_191) rfl (teq (by decide : (1 : Int32) = (1 : Int32))).2 k) ?_
      show GoW _ _ _ _ _ _ _ T149 (mkF m 194 #[.val (.int p0), .val (.int p1), .val (.int p2), .val (.int p3), .val (.ref bA), .val (.ref bS), .val (.ref tt), .val (.ref b1), .val (.int (1 : Int32)), .val (.int (1 : Int32)), .val (.ref b132), .val (.ref b140), .val (.int (1 : Int32))] [])
      refine GoW.st (fun _ k => XS.aload X149.here hx rfl (hb hby at_194) rfl rfl k) ?_
      show GoW _ _ _ _ _ _ _ T149 (mkF m 196 #[.val (.int p0), .val (.int p1), .val (.int p2), .val (.int p3), .val (.ref bA), .val (.ref bS), .val (.ref tt), .val (.ref b1), .val (.int (1 : Int32)), .val (.int (1 : Int32)), .val (.ref b132), .val (.ref b140), .val (.int (1 : Int32))] [(.ref b140)])
      refine GoW.st (fun _ k => XS.aload X149.here hx rfl (hb hby at_196) rfl rfl k) ?_
      show GoW _ _ _ _ _ _ _ T149 (mkF m 198 #[.val (.int p0), .val (.int p1), .val (.int p2), .val (.int p3), .val (.ref bA), .val (.ref bS), .val (.ref tt), .val (.ref b1), .val (.int (1 : Int32)), .val (.int (1 : Int32)), .val (.ref b132), .val (.ref b140), .val (.int (1 : Int32))] [(.ref b132), (.ref b140)])
      obtain ⟨cq150, kq150, q150a, q150b, q150c⟩ := isOf hZ e149 EE148
      obtain ⟨_, _, ⟨T150, L150, k150, n150⟩, -, X150, ⟨Lc150, hQ150, l150, y150, z150⟩, st150⟩ := X149.virtualBack hx (y := (⟨"com/example/prudent_checker/prudentchecker/language/VariableReference", "equals", "(Ljava/lang/Object;)Z"⟩ : MethodName)) (z := (⟨"com/example/prudent_checker/prudentchecker/language/VariableReference", "equals", "(Ljava/lang/Object;)Z"⟩ : MethodName)) hown (mvT hZ (hw _ (List.mem_of_getElem? (i := 68) rfl))) (mvT hZ (hw _ (List.mem_of_getElem? (i := 69) rfl))) (notFace_of_selects (args := #[]) (mvT hZ (hw _ (List.mem_of_getElem? (i := 71) rfl)))) (mvT hZ (hw _ (List.mem_of_getElem? (i := 71) rfl))) (mvT hZ (hw _ (List.mem_of_getElem? (i := 70) rfl))) (by decide) (backOf (W := 0) (rm10r l Z a0 hw [] b140 b132 b8 b8 h148 n0 Z148 EE139__148 F_variable_b140__148 F_variable_b132__148) hZ (hw _ (List.mem_of_getElem? (i := 72) rfl)) (hw _ (List.mem_of_getElem? (i := 56) rfl)) (by decide) (by decide)) q150a q150c (g := (mkF m 198 #[.val (.int p0), .val (.int p1), .val (.int p2), .val (.int p3), .val (.ref bA), .val (.ref bS), .val (.ref tt), .val (.ref b1), .val (.int (1 : Int32)), .val (.int (1 : Int32)), .val (.ref b132), .val (.ref b140), .val (.int (1 : Int32))] [(.ref b132), (.ref b140)])) rfl (by rw [hml]; rfl) (Steps.refl _) (argsL := [(.ref b132)]) (rest := []) (lenOf pd_3 rfl) rfl (by show 2 * 0 + _ ≤ _; exact Nat.le_of_eq rfl) (hb hby at_198) (fun _ _ => ⟨rfl, e149, (by decide : 11 + 0 ≤ _), (by decide : 33 + 0 ≤ _)⟩)
      dsimp only [Pt.U, Pt.locs, Pt.cells, Pt.slots] at X150 l150 y150 z150 st150 hQ150
      subst l150 y150 z150
      obtain ⟨rfl, N150q, e150⟩ := hQ150
      have N150 := Fr.app N149 N150q
      refine GoW.st (fun _ k => st150.trans k) ?_
      show GoW _ _ _ _ _ _ _ T150 (mkF m 201 #[.val (.int p0), .val (.int p1), .val (.int p2), .val (.int p3), .val (.ref bA), .val (.ref bS), .val (.ref tt), .val (.ref b1), .val (.int (1 : Int32)), .val (.int (1 : Int32)), .val (.ref b132), .val (.ref b140), .val (.int (1 : Int32))] [(.int (val_10r b140 b132 b8 b8))])
      rw [show (val_10r b140 b132 b8 b8) = (1 : Int32) from by unfold val_10r; rw [if_pos rfl]]
      show GoW _ _ _ _ _ _ _ T150 (mkF m 201 #[.val (.int p0), .val (.int p1), .val (.int p2), .val (.int p3), .val (.ref bA), .val (.ref bS), .val (.ref tt), .val (.ref b1), .val (.int (1 : Int32)), .val (.int (1 : Int32)), .val (.ref b132), .val (.ref b140), .val (.int (1 : Int32))] [(.int (1 : Int32))])
      refine GoW.st (fun _ k => XS.iload X150.here hx rfl (hb hby at_201) rfl k) ?_
      show GoW _ _ _ _ _ _ _ T150 (mkF m 203 #[.val (.int p0), .val (.int p1), .val (.int p2), .val (.int p3), .val (.ref bA), .val (.ref bS), .val (.ref tt), .val (.ref b1), .val (.int (1 : Int32)), .val (.int (1 : Int32)), .val (.ref b132), .val (.ref b140), .val (.int (1 : Int32))] [(.int (1 : Int32)), (.int (1 : Int32))])
      refine GoW.st (fun _ k => XS.icmpNo X150.here hx rfl (hb hby at_203) rfl (teq (by decide : (1 : Int32) = (1 : Int32))).2 k) ?_
      show GoW _ _ _ _ _ _ _ T150 (mkF m 206 #[.val (.int p0), .val (.int p1), .val (.int p2), .val (.int p3), .val (.ref bA), .val (.ref bS), .val (.ref tt), .val (.ref b1), .val (.int (1 : Int32)), .val (.int (1 : Int32)), .val (.ref b132), .val (.ref b140), .val (.int (1 : Int32))] [])
      refine GoW.st (fun _ k => XS.iconst X150.here hx rfl (hb hby at_206) k) ?_
      show GoW _ _ _ _ _ _ _ T150 (mkF m 207 #[.val (.int p0), .val (.int p1), .val (.int p2), .val (.int p3), .val (.ref bA), .val (.ref bS), .val (.ref tt), .val (.ref b1), .val (.int (1 : Int32)), .val (.int (1 : Int32)), .val (.ref b132), .val (.ref b140), .val (.int (1 : Int32))] [(.int (1 : Int32))])
      refine GoW.st (fun _ k => XS.goto X150.here hx rfl (pc0 := 207) (pc' := 211) rfl (hb hby at_207) (by decide) (by decide) k) ?_
      show GoW _ _ _ _ _ _ _ T150 (mkF m 211 #[.val (.int p0), .val (.int p1), .val (.int p2), .val (.int p3), .val (.ref bA), .val (.ref bS), .val (.ref tt), .val (.ref b1), .val (.int (1 : Int32)), .val (.int (1 : Int32)), .val (.ref b132), .val (.ref b140), .val (.int (1 : Int32))] [(.int (1 : Int32))])
      refine GoW.ret X150 hS (by rw [e150]; exact hk148) hlk (v := some (.int (1 : Int32))) (fun h => by rw [hret] at h; cases h) (fun fs hr => retN X150 hx (t := .boolean) hret (by simp) (hb hby at_211) hr) ?_ (by decide) (by decide)
      show Q0 Z p0 p1 p2 p3 w_BYTE w_INT G1 h0 n0 (some (.int (1 : Int32))) T150.heap _
      rw [e150]
      exact ⟨rfl, N150⟩
    · rw [hk112]
      show GoW _ _ _ _ _ _ _ T23 (mkF m 132 #[.val (.int p0), .val (.int p1), .val (.int p2), .val (.int p3), .val (.ref bA), .val (.ref bS), .val (.ref tt), .val (.ref b1), .val (.int (1 : Int32)), .unset, .unset, .unset, .unset] [(.int (2 : Int32))])
      refine GoW.st (fun _ k => XS.istore X23.here hx rfl (hb hby at_132) rfl (l' := #[.val (.int p0), .val (.int p1), .val (.int p2), .val (.int p3), .val (.ref bA), .val (.ref bS), .val (.ref tt), .val (.ref b1), .val (.int (1 : Int32)), .val (.int (2 : Int32)), .unset, .unset, .unset]) rfl k) ?_
      show GoW _ _ _ _ _ _ _ T23 (mkF m 134 #[.val (.int p0), .val (.int p1), .val (.int p2), .val (.int p3), .val (.ref bA), .val (.ref bS), .val (.ref tt), .val (.ref b1), .val (.int (1 : Int32)), .val (.int (2 : Int32)), .unset, .unset, .unset] [])
      obtain ⟨T151, h151, X151, e151, E151, A151, D151, -, st151⟩ := newO X23 hx hZ hown (hw _ (List.mem_of_getElem? (i := 54) rfl)) (hw _ (List.mem_of_getElem? (i := 55) rfl)) (hw _ (List.mem_of_getElem? (i := 56) rfl)) e23 (g := (mkF m 134 #[.val (.int p0), .val (.int p1), .val (.int p2), .val (.int p3), .val (.ref bA), .val (.ref bS), .val (.ref tt), .val (.ref b1), .val (.int (1 : Int32)), .val (.int (2 : Int32)), .unset, .unset, .unset] [])) rfl (hb hby at_134) (by decide) (by decide)
      obtain ⟨b151, g151⟩ : ∃ z, z = h23.size := ⟨_, rfl⟩
      rw [← g151] at A151 D151 st151
      have ne152 : b2 ≠ b151 := Nat.ne_of_lt (Nat.lt_of_lt_of_le EE4__23.lt (Nat.le_of_eq g151.symm))
      have ne153 : b8 ≠ b151 := Nat.ne_of_lt (Nat.lt_of_lt_of_le EE11__23.lt (Nat.le_of_eq g151.symm))
      have ne154 : b15 ≠ b151 := Nat.ne_of_lt (Nat.lt_of_lt_of_le EE20__23.lt (Nat.le_of_eq g151.symm))
      have ne155 : b1 ≠ b151 := Nat.ne_of_lt (Nat.lt_of_lt_of_le V_b1__23.lt (Nat.le_of_eq g151.symm))
      have g_b151 : n0 ≤ b151 := Nat.le_trans Z23 (Nat.le_of_eq g151.symm)
      have EE4__151 := EE4__23.ext E151
      have EE11__151 := EE11__23.ext E151
      have EE20__151 := EE20__23.ext E151
      have V_b1__151 := V_b1__23.ext E151
      have Z151 : n0 ≤ h151.size := Nat.le_trans Z23 E151.1
      have hk151 := Nat.le_trans hk23 E151.1
      have F_variable_b151 : Fld Z h151 b151 "com/example/prudent_checker/prudentchecker/language/VariableReference" "variable" "Lcom/example/prudent_checker/prudentchecker/language/Variable;" .null := D151 (Or.inr (hw _ (List.mem_of_getElem? (i := 67) rfl))) (ty := (.object "com/example/prudent_checker/prudentchecker/language/Variable")) (by decide)
      refine GoW.st st151 ?_
      show GoW _ _ _ _ _ _ _ T151 (mkF m 137 #[.val (.int p0), .val (.int p1), .val (.int p2), .val (.int p3), .val (.ref bA), .val (.ref bS), .val (.ref tt), .val (.ref b1), .val (.int (1 : Int32)), .val (.int (2 : Int32)), .unset, .unset, .unset] [(.ref b151)])
      refine GoW.st (fun _ k => XS.dup X151.here hx rfl (hb hby at_137) rfl rfl k) ?_
      show GoW _ _ _ _ _ _ _ T151 (mkF m 138 #[.val (.int p0), .val (.int p1), .val (.int p2), .val (.int p3), .val (.ref bA), .val (.ref bS), .val (.ref tt), .val (.ref b1), .val (.int (1 : Int32)), .val (.int (2 : Int32)), .unset, .unset, .unset] [(.ref b151), (.ref b151)])
      refine GoW.st (fun _ k => XS.aload X151.here hx rfl (hb hby at_138) rfl rfl k) ?_
      show GoW _ _ _ _ _ _ _ T151 (mkF m 140 #[.val (.int p0), .val (.int p1), .val (.int p2), .val (.int p3), .val (.ref bA), .val (.ref bS), .val (.ref tt), .val (.ref b1), .val (.int (1 : Int32)), .val (.int (2 : Int32)), .unset, .unset, .unset] [(.ref b1), (.ref b151), (.ref b151)])
      refine GoW.st (fun _ k => XS.iload X151.here hx rfl (hb hby at_140) rfl k) ?_
      show GoW _ _ _ _ _ _ _ T151 (mkF m 142 #[.val (.int p0), .val (.int p1), .val (.int p2), .val (.int p3), .val (.ref bA), .val (.ref bS), .val (.ref tt), .val (.ref b1), .val (.int (1 : Int32)), .val (.int (2 : Int32)), .unset, .unset, .unset] [(.int (1 : Int32)), (.ref b1), (.ref b151), (.ref b151)])
      obtain ⟨cl156, Ar156, qq156, SS156, NN156, HH156, GG156⟩ := id V_b1__151
      have hin157 : ¬ ((1 : Int32) < 0 ∨ cl156.slots.size ≤ ((1 : Int32)).toNatClampNeg) := inb_of SS156 ⟨by decide, by decide⟩
      refine GoW.st (fun _ k => X151.aaload hx (j := (1 : Int32)) (v := (.ref b8)) (by rw [e151]; exact Ar156.1) (State.isArrayOf_alike hZ.alike Ar156.2.1) rfl Ar156.2.2 hin157 (HH156.at hin157 rfl) (g := (mkF m 142 #[.val (.int p0), .val (.int p1), .val (.int p2), .val (.int p3), .val (.ref bA), .val (.ref bS), .val (.ref tt), .val (.ref b1), .val (.int (1 : Int32)), .val (.int (2 : Int32)), .unset, .unset, .unset] [(.int (1 : Int32)), (.ref b1), (.ref b151), (.ref b151)])) rfl rfl (hb hby at_142) _ k) ?_
      show GoW _ _ _ _ _ _ _ T151 (mkF m 143 #[.val (.int p0), .val (.int p1), .val (.int p2), .val (.int p3), .val (.ref bA), .val (.ref bS), .val (.ref tt), .val (.ref b1), .val (.int (1 : Int32)), .val (.int (2 : Int32)), .unset, .unset, .unset] [(.ref b8), (.ref b151), (.ref b151)])
      obtain ⟨_, _, ⟨T158, L158, k158, n158⟩, -, X158, ⟨Lc158, hQ158, l158, y158, z158⟩, st158⟩ := X151.specialBack hx (y := (⟨"com/example/prudent_checker/prudentchecker/language/VariableReference", "<init>", "(Lcom/example/prudent_checker/prudentchecker/language/Variable;)V"⟩ : MethodName)) rfl hown (mvT hZ (hw _ (List.mem_of_getElem? (i := 57) rfl))) (mvT hZ (hw _ (List.mem_of_getElem? (i := 58) rfl))) (mvT hZ (hw _ (List.mem_of_getElem? (i := 59) rfl))) (by decide) (backOf (W := 1) (rm8 l Z a0 hw [] b151 b8 .null h151 n0 Z151 A151 F_variable_b151 g_b151) hZ (hw _ (List.mem_of_getElem? (i := 59) rfl)) (hw _ (List.mem_of_getElem? (i := 56) rfl)) (by decide) (by decide)) (g := (mkF m 143 #[.val (.int p0), .val (.int p1), .val (.int p2), .val (.int p3), .val (.ref bA), .val (.ref bS), .val (.ref tt), .val (.ref b1), .val (.int (1 : Int32)), .val (.int (2 : Int32)), .unset, .unset, .unset] [(.ref b8), (.ref b151), (.ref b151)])) rfl (by rw [hml]; rfl) (Steps.refl _) (a := b151) (argsL := [(.ref b8)]) (rest := [(.ref b151)]) (lenOf pd_2 rfl) rfl (by show 2 * 0 + _ ≤ _; exact Nat.le_of_eq rfl) (hb hby at_143) (fun _ _ => ⟨rfl, e151, (by decide : 10 + 0 ≤ _), (by decide : 32 + 0 ≤ _)⟩)
      dsimp only [Pt.U, Pt.locs, Pt.cells, Pt.slots] at X158 l158 y158 z158 st158 hQ158
      subst l158 y158 z158
      generalize e158 : T158.heap = h158 at hQ158
      obtain ⟨rfl, N158q, K158, EE158, FF_variable_158⟩ := hQ158
      have N158 := Fr.app N23 N158q
      refine GoW.st (fun _ k => st158.trans k) ?_
      have EE4__158 := EE4__151.keep K158
      have EE11__158 := EE11__151.keep K158
      have EE20__158 := EE20__151.keep K158
      have V_b1__158 := V_b1__151.keep K158 (ninS ne155 (nin0))
      have A151__158 := A151.keep K158
      have Z158 : n0 ≤ h158.size := Nat.le_trans Z151 K158.1
      have hk158 := Nat.le_trans hk151 K158.1
      rw [show (val_8_variable b151 b8 .null) = (.ref b8) from by unfold val_8_variable; rfl] at FF_variable_158
      have F_variable_b151__158 := FF_variable_158
      show GoW _ _ _ _ _ _ _ T158 (mkF m 146 #[.val (.int p0), .val (.int p1), .val (.int p2), .val (.int p3), .val (.ref bA), .val (.ref bS), .val (.ref tt), .val (.ref b1), .val (.int (1 : Int32)), .val (.int (2 : Int32)), .unset, .unset, .unset] [(.ref b151)])
      refine GoW.st (fun _ k => XS.astore X158.here hx rfl (hb hby at_146) rfl rfl (l' := #[.val (.int p0), .val (.int p1), .val (.int p2), .val (.int p3), .val (.ref bA), .val (.ref bS), .val (.ref tt), .val (.ref b1), .val (.int (1 : Int32)), .val (.int (2 : Int32)), .val (.ref b151), .unset, .unset]) rfl k) ?_
      show GoW _ _ _ _ _ _ _ T158 (mkF m 148 #[.val (.int p0), .val (.int p1), .val (.int p2), .val (.int p3), .val (.ref bA), .val (.ref bS), .val (.ref tt), .val (.ref b1), .val (.int (1 : Int32)), .val (.int (2 : Int32)), .val (.ref b151), .unset, .unset] [])
      refine GoW.st (fun _ k => XS.iload X158.here hx rfl (hb hby at_148) rfl k) ?_
      show GoW _ _ _ _ _ _ _ T158 (mkF m 150 #[.val (.int p0), .val (.int p1), .val (.int p2), .val (.int p3), .val (.ref bA), .val (.ref bS), .val (.ref tt), .val (.ref b1), .val (.int (1 : Int32)), .val (.int (2 : Int32)), .val (.ref b151), .unset, .unset] [(.int (2 : Int32))])
      refine GoW.st (fun _ k => XS.iconst X158.here hx rfl (hb hby at_150) k) ?_
      show GoW _ _ _ _ _ _ _ T158 (mkF m 151 #[.val (.int p0), .val (.int p1), .val (.int p2), .val (.int p3), .val (.ref bA), .val (.ref bS), .val (.ref tt), .val (.ref b1), .val (.int (1 : Int32)), .val (.int (2 : Int32)), .val (.ref b151), .unset, .unset] [(.int (3 : Int32)), (.int (2 : Int32))])
      refine GoW.st (fun _ k => XS.icmpNo X158.here hx rfl (hb hby at_151) rfl (tlt (by decide : (2 : Int32) < (3 : Int32))).2.1 k) ?_
      show GoW _ _ _ _ _ _ _ T158 (mkF m 154 #[.val (.int p0), .val (.int p1), .val (.int p2), .val (.int p3), .val (.ref bA), .val (.ref bS), .val (.ref tt), .val (.ref b1), .val (.int (1 : Int32)), .val (.int (2 : Int32)), .val (.ref b151), .unset, .unset] [])
      obtain ⟨T159, h159, X159, e159, E159, A159, D159, -, st159⟩ := newO X158 hx hZ hown (hw _ (List.mem_of_getElem? (i := 54) rfl)) (hw _ (List.mem_of_getElem? (i := 55) rfl)) (hw _ (List.mem_of_getElem? (i := 56) rfl)) e158 (g := (mkF m 154 #[.val (.int p0), .val (.int p1), .val (.int p2), .val (.int p3), .val (.ref bA), .val (.ref bS), .val (.ref tt), .val (.ref b1), .val (.int (1 : Int32)), .val (.int (2 : Int32)), .val (.ref b151), .unset, .unset] [])) rfl (hb hby at_154) (by decide) (by decide)
      obtain ⟨b159, g159⟩ : ∃ z, z = h158.size := ⟨_, rfl⟩
      rw [← g159] at A159 D159 st159
      have ne160 : b2 ≠ b159 := Nat.ne_of_lt (Nat.lt_of_lt_of_le EE4__158.lt (Nat.le_of_eq g159.symm))
      have ne161 : b8 ≠ b159 := Nat.ne_of_lt (Nat.lt_of_lt_of_le EE11__158.lt (Nat.le_of_eq g159.symm))
      have ne162 : b15 ≠ b159 := Nat.ne_of_lt (Nat.lt_of_lt_of_le EE20__158.lt (Nat.le_of_eq g159.symm))
      have ne163 : b1 ≠ b159 := Nat.ne_of_lt (Nat.lt_of_lt_of_le V_b1__158.lt (Nat.le_of_eq g159.symm))
      have ne164 : b151 ≠ b159 := Nat.ne_of_lt (Nat.lt_of_lt_of_le EE158.lt (Nat.le_of_eq g159.symm))
      have g_b159 : n0 ≤ b159 := Nat.le_trans Z158 (Nat.le_of_eq g159.symm)
      have EE4__159 := EE4__158.ext E159
      have EE11__159 := EE11__158.ext E159
      have EE20__159 := EE20__158.ext E159
      have V_b1__159 := V_b1__158.ext E159
      have EE158__159 := EE158.ext E159
      have F_variable_b151__159 := F_variable_b151__158.ext E159
      have Z159 : n0 ≤ h159.size := Nat.le_trans Z158 E159.1
      have hk159 := Nat.le_trans hk158 E159.1
      have F_variable_b159 : Fld Z h159 b159 "com/example/prudent_checker/prudentchecker/language/VariableReference" "variable" "Lcom/example/prudent_checker/prudentchecker/language/Variable;" .null := D159 (Or.inr (hw _ (List.mem_of_getElem? (i := 67) rfl))) (ty := (.object "com/example/prudent_checker/prudentchecker/language/Variable")) (by decide)
      refine GoW.st st159 ?_
      show GoW _ _ _ _ _ _ _ T159 (mkF m 157 #[.val (.int p0), .val (.int p1), .val (.int p2), .val (.int p3), .val (.ref bA), .val (.ref bS), .val (.ref tt), .val (.ref b1), .val (.int (1 : Int32)), .val (.int (2 : Int32)), .val (.ref b151), .unset, .unset] [(.ref b159)])
      refine GoW.st (fun _ k => XS.dup X159.here hx rfl (hb hby at_157) rfl rfl k) ?_
      show GoW _ _ _ _ _ _ _ T159 (mkF m 158 #[.val (.int p0), .val (.int p1), .val (.int p2), .val (.int p3), .val (.ref bA), .val (.ref bS), .val (.ref tt), .val (.ref b1), .val (.int (1 : Int32)), .val (.int (2 : Int32)), .val (.ref b151), .unset, .unset] [(.ref b159), (.ref b159)])
      refine GoW.st (fun _ k => XS.aload X159.here hx rfl (hb hby at_158) rfl rfl k) ?_
      show GoW _ _ _ _ _ _ _ T159 (mkF m 160 #[.val (.int p0), .val (.int p1), .val (.int p2), .val (.int p3), .val (.ref bA), .val (.ref bS), .val (.ref tt), .val (.ref b1), .val (.int (1 : Int32)), .val (.int (2 : Int32)), .val (.ref b151), .unset, .unset] [(.ref b1), (.ref b159), (.ref b159)])
      refine GoW.st (fun _ k => XS.iload X159.here hx rfl (hb hby at_160) rfl k) ?_
      show GoW _ _ _ _ _ _ _ T159 (mkF m 162 #[.val (.int p0), .val (.int p1), .val (.int p2), .val (.int p3), .val (.ref bA), .val (.ref bS), .val (.ref tt), .val (.ref b1), .val (.int (1 : Int32)), .val (.int (2 : Int32)), .val (.ref b151), .unset, .unset] [(.int (2 : Int32)), (.ref b1), (.ref b159), (.ref b159)])
      obtain ⟨cl165, Ar165, qq165, SS165, NN165, HH165, GG165⟩ := id V_b1__159
      have hin166 : ¬ ((2 : Int32) < 0 ∨ cl165.slots.size ≤ ((2 : Int32)).toNatClampNeg) := inb_of SS165 ⟨by decide, by decide⟩
      refine GoW.st (fun _ k => X159.aaload hx (j := (2 : Int32)) (v := (.ref b15)) (by rw [e159]; exact Ar165.1) (State.isArrayOf_alike hZ.alike Ar165.2.1) rfl Ar165.2.2 hin166 (HH165.at hin166 rfl) (g := (mkF m 162 #[.val (.int p0), .val (.int p1), .val (.int p2), .val (.int p3), .val (.ref bA), .val (.ref bS), .val (.ref tt), .val (.ref b1), .val (.int (1 : Int32)), .val (.int (2 : Int32)), .val (.ref b151), .unset, .unset] [(.int (2 : Int32)), (.ref b1), (.ref b159), (.ref b159)])) rfl rfl (hb hby at_162) _ k) ?_
      show GoW _ _ _ _ _ _ _ T159 (mkF m 163 #[.val (.int p0), .val (.int p1), .val (.int p2), .val (.int p3), .val (.ref bA), .val (.ref bS), .val (.ref tt), .val (.ref b1), .val (.int (1 : Int32)), .val (.int (2 : Int32)), .val (.ref b151), .unset, .unset] [(.ref b15), (.ref b159), (.ref b159)])
      obtain ⟨_, _, ⟨T167, L167, k167, n167⟩, -, X167, ⟨Lc167, hQ167, l167, y167, z167⟩, st167⟩ := X159.specialBack hx (y := (⟨"com/example/prudent_checker/prudentchecker/language/VariableReference", "<init>", "(Lcom/example/prudent_checker/prudentchecker/language/Variable;)V"⟩ : MethodName)) rfl hown (mvT hZ (hw _ (List.mem_of_getElem? (i := 57) rfl))) (mvT hZ (hw _ (List.mem_of_getElem? (i := 58) rfl))) (mvT hZ (hw _ (List.mem_of_getElem? (i := 59) rfl))) (by decide) (backOf (W := 1) (rm8 l Z a0 hw [] b159 b15 .null h159 n0 Z159 A159 F_variable_b159 g_b159) hZ (hw _ (List.mem_of_getElem? (i := 59) rfl)) (hw _ (List.mem_of_getElem? (i := 56) rfl)) (by decide) (by decide)) (g := (mkF m 163 #[.val (.int p0), .val (.int p1), .val (.int p2), .val (.int p3), .val (.ref bA), .val (.ref bS), .val (.ref tt), .val (.ref b1), .val (.int (1 : Int32)), .val (.int (2 : Int32)), .val (.ref b151), .unset, .unset] [(.ref b15), (.ref b159), (.ref b159)])) rfl (by rw [hml]; rfl) (Steps.refl _) (a := b159) (argsL := [(.ref b15)]) (rest := [(.ref b159)]) (lenOf pd_2 rfl) rfl (by show 2 * 0 + _ ≤ _; exact Nat.le_of_eq rfl) (hb hby at_163) (fun _ _ => ⟨rfl, e159, (by decide : 11 + 0 ≤ _), (by decide : 33 + 0 ≤ _)⟩)
      dsimp only [Pt.U, Pt.locs, Pt.cells, Pt.slots] at X167 l167 y167 z167 st167 hQ167
      subst l167 y167 z167
      generalize e167 : T167.heap = h167 at hQ167
      obtain ⟨rfl, N167q, K167, EE167, FF_variable_167⟩ := hQ167
      have N167 := Fr.app N158 N167q
      refine GoW.st (fun _ k => st167.trans k) ?_
      have EE4__167 := EE4__159.keep K167
      have EE11__167 := EE11__159.keep K167
      have EE20__167 := EE20__159.keep K167
      have V_b1__167 := V_b1__159.keep K167 (ninS ne163 (nin0))
      have EE158__167 := EE158__159.keep K167
      have F_variable_b151__167 := F_variable_b151__159.keep K167 (ninS ne164 (nin0))
      have A159__167 := A159.keep K167
      have Z167 : n0 ≤ h167.size := Nat.le_trans Z159 K167.1
      have hk167 := Nat.le_trans hk159 K167.1
      rw [show (val_8_variable b159 b15 .null) = (.ref b15) from by unfold val_8_variable; rfl] at FF_variable_167
      have F_variable_b159__167 := FF_variable_167
      show GoW _ _ _ _ _ _ _ T167 (mkF m 166 #[.val (.int p0), .val (.int p1), .val (.int p2), .val (.int p3), .val (.ref bA), .val (.ref bS), .val (.ref tt), .val (.ref b1), .val (.int (1 : Int32)), .val (.int (2 : Int32)), .val (.ref b151), .unset, .unset] [(.ref b159)])
      refine GoW.st (fun _ k => XS.astore X167.here hx rfl (hb hby at_166) rfl rfl (l' := #[.val (.int p0), .val (.int p1), .val (.int p2), .val (.int p3), .val (.ref bA), .val (.ref bS), .val (.ref tt), .val (.ref b1), .val (.int (1 : Int32)), .val (.int (2 : Int32)), .val (.ref b151), .val (.ref b159), .unset]) rfl k) ?_
      show GoW _ _ _ _ _ _ _ T167 (mkF m 168 #[.val (.int p0), .val (.int p1), .val (.int p2), .val (.int p3), .val (.ref bA), .val (.ref bS), .val (.ref tt), .val (.ref b1), .val (.int (1 : Int32)), .val (.int (2 : Int32)), .val (.ref b151), .val (.ref b159), .unset] [])
      refine GoW.st (fun _ k => XS.iload X167.here hx rfl (hb hby at_168) rfl k) ?_
      show GoW _ _ _ _ _ _ _ T167 (mkF m 170 #[.val (.int p0), .val (.int p1), .val (.int p2), .val (.int p3), .val (.ref bA), .val (.ref bS), .val (.ref tt), .val (.ref b1), .val (.int (1 : Int32)), .val (.int (2 : Int32)), .val (.ref b151), .val (.ref b159), .unset] [(.int (1 : Int32))])
      refine GoW.st (fun _ k => XS.iload X167.here hx rfl (hb hby at_170) rfl k) ?_
      show GoW _ _ _ _ _ _ _ T167 (mkF m 172 #[.val (.int p0), .val (.int p1), .val (.int p2), .val (.int p3), .val (.ref bA), .val (.ref bS), .val (.ref tt), .val (.ref b1), .val (.int (1 : Int32)), .val (.int (2 : Int32)), .val (.ref b151), .val (.ref b159), .unset] [(.int (2 : Int32)), (.int (1 : Int32))])
      refine GoW.st (fun _ k => XS.icmpYes X167.here hx rfl (pc0 := 172) (pc' := 179) rfl (hb hby at_172) rfl (feq (by decide : ¬ ((1 : Int32) = (2 : Int32)))).2 (by decide) (by decide) k) ?_
      show GoW _ _ _ _ _ _ _ T167 (mkF m 179 #[.val (.int p0), .val (.int p1), .val (.int p2), .val (.int p3), .val (.ref bA), .val (.ref bS), .val (.ref tt), .val (.ref b1), .val (.int (1 : Int32)), .val (.int (2 : Int32)), .val (.ref b151), .val (.ref b159), .unset] [])
      refine GoW.st (fun _ k => XS.iconst X167.here hx rfl (hb hby at_179) k) ?_
      show GoW _ _ _ _ _ _ _ T167 (mkF m 180 #[.val (.int p0), .val (.int p1), .val (.int p2), .val (.int p3), .val (.ref bA), .val (.ref bS), .val (.ref tt), .val (.ref b1), .val (.int (1 : Int32)), .val (.int (2 : Int32)), .val (.ref b151), .val (.ref b159), .unset] [(.int (0 : Int32))])
      refine GoW.st (fun _ k => XS.istore X167.here hx rfl (hb hby at_180) rfl (l' := #[.val (.int p0), .val (.int p1), .val (.int p2), .val (.int p3), .val (.ref bA), .val (.ref bS), .val (.ref tt), .val (.ref b1), .val (.int (1 : Int32)), .val (.int (2 : Int32)), .val (.ref b151), .val (.ref b159), .val (.int (0 : Int32))]) rfl k) ?_
      show GoW _ _ _ _ _ _ _ T167 (mkF m 182 #[.val (.int p0), .val (.int p1), .val (.int p2), .val (.int p3), .val (.ref bA), .val (.ref bS), .val (.ref tt), .val (.ref b1), .val (.int (1 : Int32)), .val (.int (2 : Int32)), .val (.ref b151), .val (.ref b159), .val (.int (0 : Int32))] [])
      refine GoW.st (fun _ k => XS.aload X167.here hx rfl (hb hby at_182) rfl rfl k) ?_
      show GoW _ _ _ _ _ _ _ T167 (mkF m 184 #[.val (.int p0), .val (.int p1), .val (.int p2), .val (.int p3), .val (.ref bA), .val (.ref bS), .val (.ref tt), .val (.ref b1), .val (.int (1 : Int32)), .val (.int (2 : Int32)), .val (.ref b151), .val (.ref b159), .val (.int (0 : Int32))] [(.ref b151)])
      refine GoW.st (fun _ k => XS.aload X167.here hx rfl (hb hby at_184) rfl rfl k) ?_
      show GoW _ _ _ _ _ _ _ T167 (mkF m 186 #[.val (.int p0), .val (.int p1), .val (.int p2), .val (.int p3), .val (.ref bA), .val (.ref bS), .val (.ref tt), .val (.ref b1), .val (.int (1 : Int32)), .val (.int (2 : Int32)), .val (.ref b151), .val (.ref b159), .val (.int (0 : Int32))] [(.ref b159), (.ref b151)])
      obtain ⟨cq168, kq168, q168a, q168b, q168c⟩ := isOf hZ e167 EE158__167
      obtain ⟨_, _, ⟨T168, L168, k168, n168⟩, -, X168, ⟨Lc168, hQ168, l168, y168, z168⟩, st168⟩ := X167.virtualBack hx (y := (⟨"com/example/prudent_checker/prudentchecker/language/VariableReference", "equals", "(Ljava/lang/Object;)Z"⟩ : MethodName)) (z := (⟨"com/example/prudent_checker/prudentchecker/language/VariableReference", "equals", "(Ljava/lang/Object;)Z"⟩ : MethodName)) hown (mvT hZ (hw _ (List.mem_of_getElem? (i := 68) rfl))) (mvT hZ (hw _ (List.mem_of_getElem? (i := 69) rfl))) (notFace_of_selects (args := #[]) (mvT hZ (hw _ (List.mem_of_getElem? (i := 71) rfl)))) (mvT hZ (hw _ (List.mem_of_getElem? (i := 71) rfl))) (mvT hZ (hw _ (List.mem_of_getElem? (i := 70) rfl))) (by decide) (backOf (W := 0) (rm10r l Z a0 hw [] b151 b159 b8 b15 h167 n0 Z167 EE167 F_variable_b151__167 F_variable_b159__167) hZ (hw _ (List.mem_of_getElem? (i := 72) rfl)) (hw _ (List.mem_of_getElem? (i := 56) rfl)) (by decide) (by decide)) q168a q168c (g := (mkF m 186 #[.val (.int p0), .val (.int p1), .val (.int p2), .val (.int p3), .val (.ref bA), .val (.ref bS), .val (.ref tt), .val (.ref b1), .val (.int (1 : Int32)), .val (.int (2 : Int32)), .val (.ref b151), .val (.ref b159), .val (.int (0 : Int32))] [(.ref b159), (.ref b151)])) rfl (by rw [hml]; rfl) (Steps.refl _) (argsL := [(.ref b159)]) (rest := []) (lenOf pd_3 rfl) rfl (by show 2 * 0 + _ ≤ _; exact Nat.le_of_eq rfl) (hb hby at_186) (fun _ _ => ⟨rfl, e167, (by decide : 11 + 0 ≤ _), (by decide : 33 + 0 ≤ _)⟩)
      dsimp only [Pt.U, Pt.locs, Pt.cells, Pt.slots] at X168 l168 y168 z168 st168 hQ168
      subst l168 y168 z168
      obtain ⟨rfl, N168q, e168⟩ := hQ168
      have N168 := Fr.app N167 N168q
      refine GoW.st (fun _ k => st168.trans k) ?_
      show GoW _ _ _ _ _ _ _ T168 (mkF m 189 #[.val (.int p0), .val (.int p1), .val (.int p2), .val (.int p3), .val (.ref bA), .val (.ref bS), .val (.ref tt), .val (.ref b1), .val (.int (1 : Int32)), .val (.int (2 : Int32)), .val (.ref b151), .val (.ref b159), .val (.int (0 : Int32))] [(.int (val_10r b151 b159 b8 b15))])
      rw [show (val_10r b151 b159 b8 b15) = (0 : Int32) from by unfold val_10r; rw [if_neg ne17]]
      show GoW _ _ _ _ _ _ _ T168 (mkF m 189 #[.val (.int p0), .val (.int p1), .val (.int p2), .val (.int p3), .val (.ref bA), .val (.ref bS), .val (.ref tt), .val (.ref b1), .val (.int (1 : Int32)), .val (.int (2 : Int32)), .val (.ref b151), .val (.ref b159), .val (.int (0 : Int32))] [(.int (0 : Int32))])
      refine GoW.st (fun _ k => XS.iload X168.here hx rfl (hb hby at_189) rfl k) ?_
      show GoW _ _ _ _ _ _ _ T168 (mkF m 191 #[.val (.int p0), .val (.int p1), .val (.int p2), .val (.int p3), .val (.ref bA), .val (.ref bS), .val (.ref tt), .val (.ref b1), .val (.int (1 : Int32)), .val (.int (2 : Int32)), .val (.ref b151), .val (.ref b159), .val (.int (0 : Int32))] [(.int (0 : Int32)), (.int (0 : Int32))])
      refine GoW.st (fun _ k => XS.icmpNo X168.here hx rfl (hb hby at_191) rfl (teq (by decide : (0 : Int32) = (0 : Int32))).2 k) ?_
      show GoW _ _ _ _ _ _ _ T168 (mkF m 194 #[.val (.int p0), .val (.int p1), .val (.int p2), .val (.int p3), .val (.ref bA), .val (.ref bS), .val (.ref tt), .val (.ref b1), .val (.int (1 : Int32)), .val (.int (2 : Int32)), .val (.ref b151), .val (.ref b159), .val (.int (0 : Int32))] [])
      refine GoW.st (fun _ k => XS.aload X168.here hx rfl (hb hby at_194) rfl rfl k) ?_
      show GoW _ _ _ _ _ _ _ T168 (mkF m 196 #[.val (.int p0), .val (.int p1), .val (.int p2), .val (.int p3), .val (.ref bA), .val (.ref bS), .val (.ref tt), .val (.ref b1), .val (.int (1 : Int32)), .val (.int (2 : Int32)), .val (.ref b151), .val (.ref b159), .val (.int (0 : Int32))] [(.ref b159)])
      refine GoW.st (fun _ k => XS.aload X168.here hx rfl (hb hby at_196) rfl rfl k) ?_
      show GoW _ _ _ _ _ _ _ T168 (mkF m 198 #[.val (.int p0), .val (.int p1), .val (.int p2), .val (.int p3), .val (.ref bA), .val (.ref bS), .val (.ref tt), .val (.ref b1), .val (.int (1 : Int32)), .val (.int (2 : Int32)), .val (.ref b151), .val (.ref b159), .val (.int (0 : Int32))] [(.ref b151), (.ref b159)])
      obtain ⟨cq169, kq169, q169a, q169b, q169c⟩ := isOf hZ e168 EE167
      obtain ⟨_, _, ⟨T169, L169, k169, n169⟩, -, X169, ⟨Lc169, hQ169, l169, y169, z169⟩, st169⟩ := X168.virtualBack hx (y := (⟨"com/example/prudent_checker/prudentchecker/language/VariableReference", "equals", "(Ljava/lang/Object;)Z"⟩ : MethodName)) (z := (⟨"com/example/prudent_checker/prudentchecker/language/VariableReference", "equals", "(Ljava/lang/Object;)Z"⟩ : MethodName)) hown (mvT hZ (hw _ (List.mem_of_getElem? (i := 68) rfl))) (mvT hZ (hw _ (List.mem_of_getElem? (i := 69) rfl))) (notFace_of_selects (args := #[]) (mvT hZ (hw _ (List.mem_of_getElem? (i := 71) rfl)))) (mvT hZ (hw _ (List.mem_of_getElem? (i := 71) rfl))) (mvT hZ (hw _ (List.mem_of_getElem? (i := 70) rfl))) (by decide) (backOf (W := 0) (rm10r l Z a0 hw [] b159 b151 b15 b8 h167 n0 Z167 EE158__167 F_variable_b159__167 F_variable_b151__167) hZ (hw _ (List.mem_of_getElem? (i := 72) rfl)) (hw _ (List.mem_of_getElem? (i := 56) rfl)) (by decide) (by decide)) q169a q169c (g := (mkF m 198 #[.val (.int p0), .val (.int p1), .val (.int p2), .val (.int p3), .val (.ref bA), .val (.ref bS), .val (.ref tt), .val (.ref b1), .val (.int (1 : Int32)), .val (.int (2 : Int32)), .val (.ref b151), .val (.ref b159), .val (.int (0 : Int32))] [(.ref b151), (.ref b159)])) rfl (by rw [hml]; rfl) (Steps.refl _) (argsL := [(.ref b151)]) (rest := []) (lenOf pd_3 rfl) rfl (by show 2 * 0 + _ ≤ _; exact Nat.le_of_eq rfl) (hb hby at_198) (fun _ _ => ⟨rfl, e168, (by decide : 11 + 0 ≤ _), (by decide : 33 + 0 ≤ _)⟩)
      dsimp only [Pt.U, Pt.locs, Pt.cells, Pt.slots] at X169 l169 y169 z169 st169 hQ169
      subst l169 y169 z169
      obtain ⟨rfl, N169q, e169⟩ := hQ169
      have N169 := Fr.app N168 N169q
      refine GoW.st (fun _ k => st169.trans k) ?_
      show GoW _ _ _ _ _ _ _ T169 (mkF m 201 #[.val (.int p0), .val (.int p1), .val (.int p2), .val (.int p3), .val (.ref bA), .val (.ref bS), .val (.ref tt), .val (.ref b1), .val (.int (1 : Int32)), .val (.int (2 : Int32)), .val (.ref b151), .val (.ref b159), .val (.int (0 : Int32))] [(.int (val_10r b159 b151 b15 b8))])
      rw [show (val_10r b159 b151 b15 b8) = (0 : Int32) from by unfold val_10r; rw [if_neg (Ne.symm ne17)]]
      show GoW _ _ _ _ _ _ _ T169 (mkF m 201 #[.val (.int p0), .val (.int p1), .val (.int p2), .val (.int p3), .val (.ref bA), .val (.ref bS), .val (.ref tt), .val (.ref b1), .val (.int (1 : Int32)), .val (.int (2 : Int32)), .val (.ref b151), .val (.ref b159), .val (.int (0 : Int32))] [(.int (0 : Int32))])
      refine GoW.st (fun _ k => XS.iload X169.here hx rfl (hb hby at_201) rfl k) ?_
      show GoW _ _ _ _ _ _ _ T169 (mkF m 203 #[.val (.int p0), .val (.int p1), .val (.int p2), .val (.int p3), .val (.ref bA), .val (.ref bS), .val (.ref tt), .val (.ref b1), .val (.int (1 : Int32)), .val (.int (2 : Int32)), .val (.ref b151), .val (.ref b159), .val (.int (0 : Int32))] [(.int (0 : Int32)), (.int (0 : Int32))])
      refine GoW.st (fun _ k => XS.icmpNo X169.here hx rfl (hb hby at_203) rfl (teq (by decide : (0 : Int32) = (0 : Int32))).2 k) ?_
      show GoW _ _ _ _ _ _ _ T169 (mkF m 206 #[.val (.int p0), .val (.int p1), .val (.int p2), .val (.int p3), .val (.ref bA), .val (.ref bS), .val (.ref tt), .val (.ref b1), .val (.int (1 : Int32)), .val (.int (2 : Int32)), .val (.ref b151), .val (.ref b159), .val (.int (0 : Int32))] [])
      refine GoW.st (fun _ k => XS.iconst X169.here hx rfl (hb hby at_206) k) ?_
      show GoW _ _ _ _ _ _ _ T169 (mkF m 207 #[.val (.int p0), .val (.int p1), .val (.int p2), .val (.int p3), .val (.ref bA), .val (.ref bS), .val (.ref tt), .val (.ref b1), .val (.int (1 : Int32)), .val (.int (2 : Int32)), .val (.ref b151), .val (.ref b159), .val (.int (0 : Int32))] [(.int (1 : Int32))])
      refine GoW.st (fun _ k => XS.goto X169.here hx rfl (pc0 := 207) (pc' := 211) rfl (hb hby at_207) (by decide) (by decide) k) ?_
      show GoW _ _ _ _ _ _ _ T169 (mkF m 211 #[.val (.int p0), .val (.int p1), .val (.int p2), .val (.int p3), .val (.ref bA), .val (.ref bS), .val (.ref tt), .val (.ref b1), .val (.int (1 : Int32)), .val (.int (2 : Int32)), .val (.ref b151), .val (.ref b159), .val (.int (0 : Int32))] [(.int (1 : Int32))])
      refine GoW.ret X169 hS (by rw [e169]; exact hk167) hlk (v := some (.int (1 : Int32))) (fun h => by rw [hret] at h; cases h) (fun fs hr => retN X169 hx (t := .boolean) hret (by simp) (hb hby at_211) hr) ?_ (by decide) (by decide)
      show Q0 Z p0 p1 p2 p3 w_BYTE w_INT G1 h0 n0 (some (.int (1 : Int32))) T169.heap _
      rw [e169]
      exact ⟨rfl, N169⟩
    · rw [hk112]
      show GoW _ _ _ _ _ _ _ T23 (mkF m 132 #[.val (.int p0), .val (.int p1), .val (.int p2), .val (.int p3), .val (.ref bA), .val (.ref bS), .val (.ref tt), .val (.ref b1), .val (.int (1 : Int32)), .unset, .unset, .unset, .unset] [(.int (3 : Int32))])
      refine GoW.st (fun _ k => XS.istore X23.here hx rfl (hb hby at_132) rfl (l' := #[.val (.int p0), .val (.int p1), .val (.int p2), .val (.int p3), .val (.ref bA), .val (.ref bS), .val (.ref tt), .val (.ref b1), .val (.int (1 : Int32)), .val (.int (3 : Int32)), .unset, .unset, .unset]) rfl k) ?_
      show GoW _ _ _ _ _ _ _ T23 (mkF m 134 #[.val (.int p0), .val (.int p1), .val (.int p2), .val (.int p3), .val (.ref bA), .val (.ref bS), .val (.ref tt), .val (.ref b1), .val (.int (1 : Int32)), .val (.int (3 : Int32)), .unset, .unset, .unset] [])
      obtain ⟨T170, h170, X170, e170, E170, A170, D170, -, st170⟩ := newO X23 hx hZ hown (hw _ (List.mem_of_getElem? (i := 54) rfl)) (hw _ (List.mem_of_getElem? (i := 55) rfl)) (hw _ (List.mem_of_getElem? (i := 56) rfl)) e23 (g := (mkF m 134 #[.val (.int p0), .val (.int p1), .val (.int p2), .val (.int p3), .val (.ref bA), .val (.ref bS), .val (.ref tt), .val (.ref b1), .val (.int (1 : Int32)), .val (.int (3 : Int32)), .unset, .unset, .unset] [])) rfl (hb hby at_134) (by decide) (by decide)
      obtain ⟨b170, g170⟩ : ∃ z, z = h23.size := ⟨_, rfl⟩
      rw [← g170] at A170 D170 st170
      have ne171 : b2 ≠ b170 := Nat.ne_of_lt (Nat.lt_of_lt_of_le EE4__23.lt (Nat.le_of_eq g170.symm))
      have ne172 : b8 ≠ b170 := Nat.ne_of_lt (Nat.lt_of_lt_of_le EE11__23.lt (Nat.le_of_eq g170.symm))
      have ne173 : b15 ≠ b170 := Nat.ne_of_lt (Nat.lt_of_lt_of_le EE20__23.lt (Nat.le_of_eq g170.symm))
      have ne174 : b1 ≠ b170 := Nat.ne_of_lt (Nat.lt_of_lt_of_le V_b1__23.lt (Nat.le_of_eq g170.symm))
      have g_b170 : n0 ≤ b170 := Nat.le_trans Z23 (Nat.le_of_eq g170.symm)
      have EE4__170 := EE4__23.ext E170
      have EE11__170 := EE11__23.ext E170
      have EE20__170 := EE20__23.ext E170
      have V_b1__170 := V_b1__23.ext E170
      have Z170 : n0 ≤ h170.size := Nat.le_trans Z23 E170.1
      have hk170 := Nat.le_trans hk23 E170.1
      have F_variable_b170 : Fld Z h170 b170 "com/example/prudent_checker/prudentchecker/language/VariableReference" "variable" "Lcom/example/prudent_checker/prudentchecker/language/Variable;" .null := D170 (Or.inr (hw _ (List.mem_of_getElem? (i := 67) rfl))) (ty := (.object "com/example/prudent_checker/prudentchecker/language/Variable")) (by decide)
      refine GoW.st st170 ?_
      show GoW _ _ _ _ _ _ _ T170 (mkF m 137 #[.val (.int p0), .val (.int p1), .val (.int p2), .val (.int p3), .val (.ref bA), .val (.ref bS), .val (.ref tt), .val (.ref b1), .val (.int (1 : Int32)), .val (.int (3 : Int32)), .unset, .unset, .unset] [(.ref b170)])
      refine GoW.st (fun _ k => XS.dup X170.here hx rfl (hb hby at_137) rfl rfl k) ?_
      show GoW _ _ _ _ _ _ _ T170 (mkF m 138 #[.val (.int p0), .val (.int p1), .val (.int p2), .val (.int p3), .val (.ref bA), .val (.ref bS), .val (.ref tt), .val (.ref b1), .val (.int (1 : Int32)), .val (.int (3 : Int32)), .unset, .unset, .unset] [(.ref b170), (.ref b170)])
      refine GoW.st (fun _ k => XS.aload X170.here hx rfl (hb hby at_138) rfl rfl k) ?_
      show GoW _ _ _ _ _ _ _ T170 (mkF m 140 #[.val (.int p0), .val (.int p1), .val (.int p2), .val (.int p3), .val (.ref bA), .val (.ref bS), .val (.ref tt), .val (.ref b1), .val (.int (1 : Int32)), .val (.int (3 : Int32)), .unset, .unset, .unset] [(.ref b1), (.ref b170), (.ref b170)])
      refine GoW.st (fun _ k => XS.iload X170.here hx rfl (hb hby at_140) rfl k) ?_
      show GoW _ _ _ _ _ _ _ T170 (mkF m 142 #[.val (.int p0), .val (.int p1), .val (.int p2), .val (.int p3), .val (.ref bA), .val (.ref bS), .val (.ref tt), .val (.ref b1), .val (.int (1 : Int32)), .val (.int (3 : Int32)), .unset, .unset, .unset] [(.int (1 : Int32)), (.ref b1), (.ref b170), (.ref b170)])
      obtain ⟨cl175, Ar175, qq175, SS175, NN175, HH175, GG175⟩ := id V_b1__170
      have hin176 : ¬ ((1 : Int32) < 0 ∨ cl175.slots.size ≤ ((1 : Int32)).toNatClampNeg) := inb_of SS175 ⟨by decide, by decide⟩
      refine GoW.st (fun _ k => X170.aaload hx (j := (1 : Int32)) (v := (.ref b8)) (by rw [e170]; exact Ar175.1) (State.isArrayOf_alike hZ.alike Ar175.2.1) rfl Ar175.2.2 hin176 (HH175.at hin176 rfl) (g := (mkF m 142 #[.val (.int p0), .val (.int p1), .val (.int p2), .val (.int p3), .val (.ref bA), .val (.ref bS), .val (.ref tt), .val (.ref b1), .val (.int (1 : Int32)), .val (.int (3 : Int32)), .unset, .unset, .unset] [(.int (1 : Int32)), (.ref b1), (.ref b170), (.ref b170)])) rfl rfl (hb hby at_142) _ k) ?_
      show GoW _ _ _ _ _ _ _ T170 (mkF m 143 #[.val (.int p0), .val (.int p1), .val (.int p2), .val (.int p3), .val (.ref bA), .val (.ref bS), .val (.ref tt), .val (.ref b1), .val (.int (1 : Int32)), .val (.int (3 : Int32)), .unset, .unset, .unset] [(.ref b8), (.ref b170), (.ref b170)])
      obtain ⟨_, _, ⟨T177, L177, k177, n177⟩, -, X177, ⟨Lc177, hQ177, l177, y177, z177⟩, st177⟩ := X170.specialBack hx (y := (⟨"com/example/prudent_checker/prudentchecker/language/VariableReference", "<init>", "(Lcom/example/prudent_checker/prudentchecker/language/Variable;)V"⟩ : MethodName)) rfl hown (mvT hZ (hw _ (List.mem_of_getElem? (i := 57) rfl))) (mvT hZ (hw _ (List.mem_of_getElem? (i := 58) rfl))) (mvT hZ (hw _ (List.mem_of_getElem? (i := 59) rfl))) (by decide) (backOf (W := 1) (rm8 l Z a0 hw [] b170 b8 .null h170 n0 Z170 A170 F_variable_b170 g_b170) hZ (hw _ (List.mem_of_getElem? (i := 59) rfl)) (hw _ (List.mem_of_getElem? (i := 56) rfl)) (by decide) (by decide)) (g := (mkF m 143 #[.val (.int p0), .val (.int p1), .val (.int p2), .val (.int p3), .val (.ref bA), .val (.ref bS), .val (.ref tt), .val (.ref b1), .val (.int (1 : Int32)), .val (.int (3 : Int32)), .unset, .unset, .unset] [(.ref b8), (.ref b170), (.ref b170)])) rfl (by rw [hml]; rfl) (Steps.refl _) (a := b170) (argsL := [(.ref b8)]) (rest := [(.ref b170)]) (lenOf pd_2 rfl) rfl (by show 2 * 0 + _ ≤ _; exact Nat.le_of_eq rfl) (hb hby at_143) (fun _ _ => ⟨rfl, e170, (by decide : 10 + 0 ≤ _), (by decide : 32 + 0 ≤ _)⟩)
      dsimp only [Pt.U, Pt.locs, Pt.cells, Pt.slots] at X177 l177 y177 z177 st177 hQ177
      subst l177 y177 z177
      generalize e177 : T177.heap = h177 at hQ177
      obtain ⟨rfl, N177q, K177, EE177, FF_variable_177⟩ := hQ177
      have N177 := Fr.app N23 N177q
      refine GoW.st (fun _ k => st177.trans k) ?_
      have EE4__177 := EE4__170.keep K177
      have EE11__177 := EE11__170.keep K177
      have EE20__177 := EE20__170.keep K177
      have V_b1__177 := V_b1__170.keep K177 (ninS ne174 (nin0))
      have A170__177 := A170.keep K177
      have Z177 : n0 ≤ h177.size := Nat.le_trans Z170 K177.1
      have hk177 := Nat.le_trans hk170 K177.1
      rw [show (val_8_variable b170 b8 .null) = (.ref b8) from by unfold val_8_variable; rfl] at FF_variable_177
      have F_variable_b170__177 := FF_variable_177
      show GoW _ _ _ _ _ _ _ T177 (mkF m 146 #[.val (.int p0), .val (.int p1), .val (.int p2), .val (.int p3), .val (.ref bA), .val (.ref bS), .val (.ref tt), .val (.ref b1), .val (.int (1 : Int32)), .val (.int (3 : Int32)), .unset, .unset, .unset] [(.ref b170)])
      refine GoW.st (fun _ k => XS.astore X177.here hx rfl (hb hby at_146) rfl rfl (l' := #[.val (.int p0), .val (.int p1), .val (.int p2), .val (.int p3), .val (.ref bA), .val (.ref bS), .val (.ref tt), .val (.ref b1), .val (.int (1 : Int32)), .val (.int (3 : Int32)), .val (.ref b170), .unset, .unset]) rfl k) ?_
      show GoW _ _ _ _ _ _ _ T177 (mkF m 148 #[.val (.int p0), .val (.int p1), .val (.int p2), .val (.int p3), .val (.ref bA), .val (.ref bS), .val (.ref tt), .val (.ref b1), .val (.int (1 : Int32)), .val (.int (3 : Int32)), .val (.ref b170), .unset, .unset] [])
      refine GoW.st (fun _ k => XS.iload X177.here hx rfl (hb hby at_148) rfl k) ?_
      show GoW _ _ _ _ _ _ _ T177 (mkF m 150 #[.val (.int p0), .val (.int p1), .val (.int p2), .val (.int p3), .val (.ref bA), .val (.ref bS), .val (.ref tt), .val (.ref b1), .val (.int (1 : Int32)), .val (.int (3 : Int32)), .val (.ref b170), .unset, .unset] [(.int (3 : Int32))])
      refine GoW.st (fun _ k => XS.iconst X177.here hx rfl (hb hby at_150) k) ?_
      show GoW _ _ _ _ _ _ _ T177 (mkF m 151 #[.val (.int p0), .val (.int p1), .val (.int p2), .val (.int p3), .val (.ref bA), .val (.ref bS), .val (.ref tt), .val (.ref b1), .val (.int (1 : Int32)), .val (.int (3 : Int32)), .val (.ref b170), .unset, .unset] [(.int (3 : Int32)), (.int (3 : Int32))])
      refine GoW.st (fun _ k => XS.icmpYes X177.here hx rfl (pc0 := 151) (pc' := 212) rfl (hb hby at_151) rfl (flt (by decide : ¬ ((3 : Int32) < (3 : Int32)))).2.1 (by decide) (by decide) k) ?_
      show GoW _ _ _ _ _ _ _ T177 (mkF m 212 #[.val (.int p0), .val (.int p1), .val (.int p2), .val (.int p3), .val (.ref bA), .val (.ref bS), .val (.ref tt), .val (.ref b1), .val (.int (1 : Int32)), .val (.int (3 : Int32)), .val (.ref b170), .unset, .unset] [])
      refine GoW.st (fun _ k => XS.iload X177.here hx rfl (hb hby at_212) rfl k) ?_
      show GoW _ _ _ _ _ _ _ T177 (mkF m 214 #[.val (.int p0), .val (.int p1), .val (.int p2), .val (.int p3), .val (.ref bA), .val (.ref bS), .val (.ref tt), .val (.ref b1), .val (.int (1 : Int32)), .val (.int (3 : Int32)), .val (.ref b170), .unset, .unset] [(.int (3 : Int32))])
      refine GoW.st (fun _ k => XS.iconst X177.here hx rfl (hb hby at_214) k) ?_
      show GoW _ _ _ _ _ _ _ T177 (mkF m 215 #[.val (.int p0), .val (.int p1), .val (.int p2), .val (.int p3), .val (.ref bA), .val (.ref bS), .val (.ref tt), .val (.ref b1), .val (.int (1 : Int32)), .val (.int (3 : Int32)), .val (.ref b170), .unset, .unset] [(.int (3 : Int32)), (.int (3 : Int32))])
      refine GoW.st (fun _ k => XS.icmpNo X177.here hx rfl (hb hby at_215) rfl (teq (by decide : (3 : Int32) = (3 : Int32))).2 k) ?_
      show GoW _ _ _ _ _ _ _ T177 (mkF m 218 #[.val (.int p0), .val (.int p1), .val (.int p2), .val (.int p3), .val (.ref bA), .val (.ref bS), .val (.ref tt), .val (.ref b1), .val (.int (1 : Int32)), .val (.int (3 : Int32)), .val (.ref b170), .unset, .unset] [])
      refine GoW.st (fun _ k => XS.aload X177.here hx rfl (hb hby at_218) rfl rfl k) ?_
      show GoW _ _ _ _ _ _ _ T177 (mkF m 220 #[.val (.int p0), .val (.int p1), .val (.int p2), .val (.int p3), .val (.ref bA), .val (.ref bS), .val (.ref tt), .val (.ref b1), .val (.int (1 : Int32)), .val (.int (3 : Int32)), .val (.ref b170), .unset, .unset] [(.ref b170)])
      refine GoW.st (fun _ k => XS.aload X177.here hx rfl (hb hby at_220) rfl rfl k) ?_
      show GoW _ _ _ _ _ _ _ T177 (mkF m 222 #[.val (.int p0), .val (.int p1), .val (.int p2), .val (.int p3), .val (.ref bA), .val (.ref bS), .val (.ref tt), .val (.ref b1), .val (.int (1 : Int32)), .val (.int (3 : Int32)), .val (.ref b170), .unset, .unset] [(.ref b1), (.ref b170)])
      refine GoW.st (fun _ k => XS.iload X177.here hx rfl (hb hby at_222) rfl k) ?_
      show GoW _ _ _ _ _ _ _ T177 (mkF m 224 #[.val (.int p0), .val (.int p1), .val (.int p2), .val (.int p3), .val (.ref bA), .val (.ref bS), .val (.ref tt), .val (.ref b1), .val (.int (1 : Int32)), .val (.int (3 : Int32)), .val (.ref b170), .unset, .unset] [(.int (1 : Int32)), (.ref b1), (.ref b170)])
      obtain ⟨cl178, Ar178, qq178, SS178, NN178, HH178, GG178⟩ := id V_b1__177
      have hin179 : ¬ ((1 : Int32) < 0 ∨ cl178.slots.size ≤ ((1 : Int32)).toNatClampNeg) := inb_of SS178 ⟨by decide, by decide⟩
      refine GoW.st (fun _ k => X177.aaload hx (j := (1 : Int32)) (v := (.ref b8)) (by rw [e177]; exact Ar178.1) (State.isArrayOf_alike hZ.alike Ar178.2.1) rfl Ar178.2.2 hin179 (HH178.at hin179 rfl) (g := (mkF m 224 #[.val (.int p0), .val (.int p1), .val (.int p2), .val (.int p3), .val (.ref bA), .val (.ref bS), .val (.ref tt), .val (.ref b1), .val (.int (1 : Int32)), .val (.int (3 : Int32)), .val (.ref b170), .unset, .unset] [(.int (1 : Int32)), (.ref b1), (.ref b170)])) rfl rfl (hb hby at_224) _ k) ?_
      show GoW _ _ _ _ _ _ _ T177 (mkF m 225 #[.val (.int p0), .val (.int p1), .val (.int p2), .val (.int p3), .val (.ref bA), .val (.ref bS), .val (.ref tt), .val (.ref b1), .val (.int (1 : Int32)), .val (.int (3 : Int32)), .val (.ref b170), .unset, .unset] [(.ref b8), (.ref b170)])
      obtain ⟨cq180, kq180, q180a, q180b, q180c⟩ := isOf hZ e177 EE177
      obtain ⟨_, _, ⟨T180, L180, k180, n180⟩, -, X180, ⟨Lc180, hQ180, l180, y180, z180⟩, st180⟩ := X177.virtualBack hx (y := (⟨"com/example/prudent_checker/prudentchecker/language/VariableReference", "equals", "(Ljava/lang/Object;)Z"⟩ : MethodName)) (z := (⟨"com/example/prudent_checker/prudentchecker/language/VariableReference", "equals", "(Ljava/lang/Object;)Z"⟩ : MethodName)) hown (mvT hZ (hw _ (List.mem_of_getElem? (i := 68) rfl))) (mvT hZ (hw _ (List.mem_of_getElem? (i := 69) rfl))) (notFace_of_selects (args := #[]) (mvT hZ (hw _ (List.mem_of_getElem? (i := 71) rfl)))) (mvT hZ (hw _ (List.mem_of_getElem? (i := 71) rfl))) (mvT hZ (hw _ (List.mem_of_getElem? (i := 70) rfl))) (by decide) (backOf (W := 0) (rm10v l Z a0 hw [] b170 b8  h177 n0 Z177 EE11__177) hZ (hw _ (List.mem_of_getElem? (i := 72) rfl)) (hw _ (List.mem_of_getElem? (i := 56) rfl)) (by decide) (by decide)) q180a q180c (g := (mkF m 225 #[.val (.int p0), .val (.int p1), .val (.int p2), .val (.int p3), .val (.ref bA), .val (.ref bS), .val (.ref tt), .val (.ref b1), .val (.int (1 : Int32)), .val (.int (3 : Int32)), .val (.ref b170), .unset, .unset] [(.ref b8), (.ref b170)])) rfl (by rw [hml]; rfl) (Steps.refl _) (argsL := [(.ref b8)]) (rest := []) (lenOf pd_3 rfl) rfl (by show 2 * 0 + _ ≤ _; exact Nat.le_of_eq rfl) (hb hby at_225) (fun _ _ => ⟨rfl, e177, (by decide : 10 + 0 ≤ _), (by decide : 32 + 0 ≤ _)⟩)
      dsimp only [Pt.U, Pt.locs, Pt.cells, Pt.slots] at X180 l180 y180 z180 st180 hQ180
      subst l180 y180 z180
      obtain ⟨rfl, N180q, e180⟩ := hQ180
      have N180 := Fr.app N177 N180q
      refine GoW.st (fun _ k => st180.trans k) ?_
      show GoW _ _ _ _ _ _ _ T180 (mkF m 228 #[.val (.int p0), .val (.int p1), .val (.int p2), .val (.int p3), .val (.ref bA), .val (.ref bS), .val (.ref tt), .val (.ref b1), .val (.int (1 : Int32)), .val (.int (3 : Int32)), .val (.ref b170), .unset, .unset] [(.int (val_10v b170 b8))])
      rw [show (val_10v b170 b8) = (0 : Int32) from by unfold val_10v; rfl]
      show GoW _ _ _ _ _ _ _ T180 (mkF m 228 #[.val (.int p0), .val (.int p1), .val (.int p2), .val (.int p3), .val (.ref bA), .val (.ref bS), .val (.ref tt), .val (.ref b1), .val (.int (1 : Int32)), .val (.int (3 : Int32)), .val (.ref b170), .unset, .unset] [(.int (0 : Int32))])
      refine GoW.st (fun _ k => XS.ifNo X180.here hx rfl (hb hby at_228) rfl ((if0 _ _).trans (teq (by decide : (0 : Int32) = (0 : Int32))).2) k) ?_
      show GoW _ _ _ _ _ _ _ T180 (mkF m 231 #[.val (.int p0), .val (.int p1), .val (.int p2), .val (.int p3), .val (.ref bA), .val (.ref bS), .val (.ref tt), .val (.ref b1), .val (.int (1 : Int32)), .val (.int (3 : Int32)), .val (.ref b170), .unset, .unset] [])
      refine GoW.st (fun _ k => XS.iconst X180.here hx rfl (hb hby at_231) k) ?_
      show GoW _ _ _ _ _ _ _ T180 (mkF m 232 #[.val (.int p0), .val (.int p1), .val (.int p2), .val (.int p3), .val (.ref bA), .val (.ref bS), .val (.ref tt), .val (.ref b1), .val (.int (1 : Int32)), .val (.int (3 : Int32)), .val (.ref b170), .unset, .unset] [(.int (1 : Int32))])
      refine GoW.st (fun _ k => XS.goto X180.here hx rfl (pc0 := 232) (pc' := 236) rfl (hb hby at_232) (by decide) (by decide) k) ?_
      show GoW _ _ _ _ _ _ _ T180 (mkF m 236 #[.val (.int p0), .val (.int p1), .val (.int p2), .val (.int p3), .val (.ref bA), .val (.ref bS), .val (.ref tt), .val (.ref b1), .val (.int (1 : Int32)), .val (.int (3 : Int32)), .val (.ref b170), .unset, .unset] [(.int (1 : Int32))])
      refine GoW.ret X180 hS (by rw [e180]; exact hk177) hlk (v := some (.int (1 : Int32))) (fun h => by rw [hret] at h; cases h) (fun fs hr => retN X180 hx (t := .boolean) hret (by simp) (hb hby at_236) hr) ?_ (by decide) (by decide)
      show Q0 Z p0 p1 p2 p3 w_BYTE w_INT G1 h0 n0 (some (.int (1 : Int32))) T180.heap _
      rw [e180]
      exact ⟨rfl, N180⟩
    · rw [hk112]
      show GoW _ _ _ _ _ _ _ T23 (mkF m 132 #[.val (.int p0), .val (.int p1), .val (.int p2), .val (.int p3), .val (.ref bA), .val (.ref bS), .val (.ref tt), .val (.ref b1), .val (.int (1 : Int32)), .unset, .unset, .unset, .unset] [(.int (4 : Int32))])
      refine GoW.st (fun _ k => XS.istore X23.here hx rfl (hb hby at_132) rfl (l' := #[.val (.int p0), .val (.int p1), .val (.int p2), .val (.int p3), .val (.ref bA), .val (.ref bS), .val (.ref tt), .val (.ref b1), .val (.int (1 : Int32)), .val (.int (4 : Int32)), .unset, .unset, .unset]) rfl k) ?_
      show GoW _ _ _ _ _ _ _ T23 (mkF m 134 #[.val (.int p0), .val (.int p1), .val (.int p2), .val (.int p3), .val (.ref bA), .val (.ref bS), .val (.ref tt), .val (.ref b1), .val (.int (1 : Int32)), .val (.int (4 : Int32)), .unset, .unset, .unset] [])
      obtain ⟨T181, h181, X181, e181, E181, A181, D181, -, st181⟩ := newO X23 hx hZ hown (hw _ (List.mem_of_getElem? (i := 54) rfl)) (hw _ (List.mem_of_getElem? (i := 55) rfl)) (hw _ (List.mem_of_getElem? (i := 56) rfl)) e23 (g := (mkF m 134 #[.val (.int p0), .val (.int p1), .val (.int p2), .val (.int p3), .val (.ref bA), .val (.ref bS), .val (.ref tt), .val (.ref b1), .val (.int (1 : Int32)), .val (.int (4 : Int32)), .unset, .unset, .unset] [])) rfl (hb hby at_134) (by decide) (by decide)
      obtain ⟨b181, g181⟩ : ∃ z, z = h23.size := ⟨_, rfl⟩
      rw [← g181] at A181 D181 st181
      have ne182 : b2 ≠ b181 := Nat.ne_of_lt (Nat.lt_of_lt_of_le EE4__23.lt (Nat.le_of_eq g181.symm))
      have ne183 : b8 ≠ b181 := Nat.ne_of_lt (Nat.lt_of_lt_of_le EE11__23.lt (Nat.le_of_eq g181.symm))
      have ne184 : b15 ≠ b181 := Nat.ne_of_lt (Nat.lt_of_lt_of_le EE20__23.lt (Nat.le_of_eq g181.symm))
      have ne185 : b1 ≠ b181 := Nat.ne_of_lt (Nat.lt_of_lt_of_le V_b1__23.lt (Nat.le_of_eq g181.symm))
      have g_b181 : n0 ≤ b181 := Nat.le_trans Z23 (Nat.le_of_eq g181.symm)
      have EE4__181 := EE4__23.ext E181
      have EE11__181 := EE11__23.ext E181
      have EE20__181 := EE20__23.ext E181
      have V_b1__181 := V_b1__23.ext E181
      have Z181 : n0 ≤ h181.size := Nat.le_trans Z23 E181.1
      have hk181 := Nat.le_trans hk23 E181.1
      have F_variable_b181 : Fld Z h181 b181 "com/example/prudent_checker/prudentchecker/language/VariableReference" "variable" "Lcom/example/prudent_checker/prudentchecker/language/Variable;" .null := D181 (Or.inr (hw _ (List.mem_of_getElem? (i := 67) rfl))) (ty := (.object "com/example/prudent_checker/prudentchecker/language/Variable")) (by decide)
      refine GoW.st st181 ?_
      show GoW _ _ _ _ _ _ _ T181 (mkF m 137 #[.val (.int p0), .val (.int p1), .val (.int p2), .val (.int p3), .val (.ref bA), .val (.ref bS), .val (.ref tt), .val (.ref b1), .val (.int (1 : Int32)), .val (.int (4 : Int32)), .unset, .unset, .unset] [(.ref b181)])
      refine GoW.st (fun _ k => XS.dup X181.here hx rfl (hb hby at_137) rfl rfl k) ?_
      show GoW _ _ _ _ _ _ _ T181 (mkF m 138 #[.val (.int p0), .val (.int p1), .val (.int p2), .val (.int p3), .val (.ref bA), .val (.ref bS), .val (.ref tt), .val (.ref b1), .val (.int (1 : Int32)), .val (.int (4 : Int32)), .unset, .unset, .unset] [(.ref b181), (.ref b181)])
      refine GoW.st (fun _ k => XS.aload X181.here hx rfl (hb hby at_138) rfl rfl k) ?_
      show GoW _ _ _ _ _ _ _ T181 (mkF m 140 #[.val (.int p0), .val (.int p1), .val (.int p2), .val (.int p3), .val (.ref bA), .val (.ref bS), .val (.ref tt), .val (.ref b1), .val (.int (1 : Int32)), .val (.int (4 : Int32)), .unset, .unset, .unset] [(.ref b1), (.ref b181), (.ref b181)])
      refine GoW.st (fun _ k => XS.iload X181.here hx rfl (hb hby at_140) rfl k) ?_
      show GoW _ _ _ _ _ _ _ T181 (mkF m 142 #[.val (.int p0), .val (.int p1), .val (.int p2), .val (.int p3), .val (.ref bA), .val (.ref bS), .val (.ref tt), .val (.ref b1), .val (.int (1 : Int32)), .val (.int (4 : Int32)), .unset, .unset, .unset] [(.int (1 : Int32)), (.ref b1), (.ref b181), (.ref b181)])
      obtain ⟨cl186, Ar186, qq186, SS186, NN186, HH186, GG186⟩ := id V_b1__181
      have hin187 : ¬ ((1 : Int32) < 0 ∨ cl186.slots.size ≤ ((1 : Int32)).toNatClampNeg) := inb_of SS186 ⟨by decide, by decide⟩
      refine GoW.st (fun _ k => X181.aaload hx (j := (1 : Int32)) (v := (.ref b8)) (by rw [e181]; exact Ar186.1) (State.isArrayOf_alike hZ.alike Ar186.2.1) rfl Ar186.2.2 hin187 (HH186.at hin187 rfl) (g := (mkF m 142 #[.val (.int p0), .val (.int p1), .val (.int p2), .val (.int p3), .val (.ref bA), .val (.ref bS), .val (.ref tt), .val (.ref b1), .val (.int (1 : Int32)), .val (.int (4 : Int32)), .unset, .unset, .unset] [(.int (1 : Int32)), (.ref b1), (.ref b181), (.ref b181)])) rfl rfl (hb hby at_142) _ k) ?_
      show GoW _ _ _ _ _ _ _ T181 (mkF m 143 #[.val (.int p0), .val (.int p1), .val (.int p2), .val (.int p3), .val (.ref bA), .val (.ref bS), .val (.ref tt), .val (.ref b1), .val (.int (1 : Int32)), .val (.int (4 : Int32)), .unset, .unset, .unset] [(.ref b8), (.ref b181), (.ref b181)])
      obtain ⟨_, _, ⟨T188, L188, k188, n188⟩, -, X188, ⟨Lc188, hQ188, l188, y188, z188⟩, st188⟩ := X181.specialBack hx (y := (⟨"com/example/prudent_checker/prudentchecker/language/VariableReference", "<init>", "(Lcom/example/prudent_checker/prudentchecker/language/Variable;)V"⟩ : MethodName)) rfl hown (mvT hZ (hw _ (List.mem_of_getElem? (i := 57) rfl))) (mvT hZ (hw _ (List.mem_of_getElem? (i := 58) rfl))) (mvT hZ (hw _ (List.mem_of_getElem? (i := 59) rfl))) (by decide) (backOf (W := 1) (rm8 l Z a0 hw [] b181 b8 .null h181 n0 Z181 A181 F_variable_b181 g_b181) hZ (hw _ (List.mem_of_getElem? (i := 59) rfl)) (hw _ (List.mem_of_getElem? (i := 56) rfl)) (by decide) (by decide)) (g := (mkF m 143 #[.val (.int p0), .val (.int p1), .val (.int p2), .val (.int p3), .val (.ref bA), .val (.ref bS), .val (.ref tt), .val (.ref b1), .val (.int (1 : Int32)), .val (.int (4 : Int32)), .unset, .unset, .unset] [(.ref b8), (.ref b181), (.ref b181)])) rfl (by rw [hml]; rfl) (Steps.refl _) (a := b181) (argsL := [(.ref b8)]) (rest := [(.ref b181)]) (lenOf pd_2 rfl) rfl (by show 2 * 0 + _ ≤ _; exact Nat.le_of_eq rfl) (hb hby at_143) (fun _ _ => ⟨rfl, e181, (by decide : 10 + 0 ≤ _), (by decide : 32 + 0 ≤ _)⟩)
      dsimp only [Pt.U, Pt.locs, Pt.cells, Pt.slots] at X188 l188 y188 z188 st188 hQ188
      subst l188 y188 z188
      generalize e188 : T188.heap = h188 at hQ188
      obtain ⟨rfl, N188q, K188, EE188, FF_variable_188⟩ := hQ188
      have N188 := Fr.app N23 N188q
      refine GoW.st (fun _ k => st188.trans k) ?_
      have EE4__188 := EE4__181.keep K188
      have EE11__188 := EE11__181.keep K188
      have EE20__188 := EE20__181.keep K188
      have V_b1__188 := V_b1__181.keep K188 (ninS ne185 (nin0))
      have A181__188 := A181.keep K188
      have Z188 : n0 ≤ h188.size := Nat.le_trans Z181 K188.1
      have hk188 := Nat.le_trans hk181 K188.1
      rw [show (val_8_variable b181 b8 .null) = (.ref b8) from by unfold val_8_variable; rfl] at FF_variable_188
      have F_variable_b181__188 := FF_variable_188
      show GoW _ _ _ _ _ _ _ T188 (mkF m 146 #[.val (.int p0), .val (.int p1), .val (.int p2), .val (.int p3), .val (.ref bA), .val (.ref bS), .val (.ref tt), .val (.ref b1), .val (.int (1 : Int32)), .val (.int (4 : Int32)), .unset, .unset, .unset] [(.ref b181)])
      refine GoW.st (fun _ k => XS.astore X188.here hx rfl (hb hby at_146) rfl rfl (l' := #[.val (.int p0), .val (.int p1), .val (.int p2), .val (.int p3), .val (.ref bA), .val (.ref bS), .val (.ref tt), .val (.ref b1), .val (.int (1 : Int32)), .val (.int (4 : Int32)), .val (.ref b181), .unset, .unset]) rfl k) ?_
      show GoW _ _ _ _ _ _ _ T188 (mkF m 148 #[.val (.int p0), .val (.int p1), .val (.int p2), .val (.int p3), .val (.ref bA), .val (.ref bS), .val (.ref tt), .val (.ref b1), .val (.int (1 : Int32)), .val (.int (4 : Int32)), .val (.ref b181), .unset, .unset] [])
      refine GoW.st (fun _ k => XS.iload X188.here hx rfl (hb hby at_148) rfl k) ?_
      show GoW _ _ _ _ _ _ _ T188 (mkF m 150 #[.val (.int p0), .val (.int p1), .val (.int p2), .val (.int p3), .val (.ref bA), .val (.ref bS), .val (.ref tt), .val (.ref b1), .val (.int (1 : Int32)), .val (.int (4 : Int32)), .val (.ref b181), .unset, .unset] [(.int (4 : Int32))])
      refine GoW.st (fun _ k => XS.iconst X188.here hx rfl (hb hby at_150) k) ?_
      show GoW _ _ _ _ _ _ _ T188 (mkF m 151 #[.val (.int p0), .val (.int p1), .val (.int p2), .val (.int p3), .val (.ref bA), .val (.ref bS), .val (.ref tt), .val (.ref b1), .val (.int (1 : Int32)), .val (.int (4 : Int32)), .val (.ref b181), .unset, .unset] [(.int (3 : Int32)), (.int (4 : Int32))])
      refine GoW.st (fun _ k => XS.icmpYes X188.here hx rfl (pc0 := 151) (pc' := 212) rfl (hb hby at_151) rfl (flt (by decide : ¬ ((4 : Int32) < (3 : Int32)))).2.1 (by decide) (by decide) k) ?_
      show GoW _ _ _ _ _ _ _ T188 (mkF m 212 #[.val (.int p0), .val (.int p1), .val (.int p2), .val (.int p3), .val (.ref bA), .val (.ref bS), .val (.ref tt), .val (.ref b1), .val (.int (1 : Int32)), .val (.int (4 : Int32)), .val (.ref b181), .unset, .unset] [])
      refine GoW.st (fun _ k => XS.iload X188.here hx rfl (hb hby at_212) rfl k) ?_
      show GoW _ _ _ _ _ _ _ T188 (mkF m 214 #[.val (.int p0), .val (.int p1), .val (.int p2), .val (.int p3), .val (.ref bA), .val (.ref bS), .val (.ref tt), .val (.ref b1), .val (.int (1 : Int32)), .val (.int (4 : Int32)), .val (.ref b181), .unset, .unset] [(.int (4 : Int32))])
      refine GoW.st (fun _ k => XS.iconst X188.here hx rfl (hb hby at_214) k) ?_
      show GoW _ _ _ _ _ _ _ T188 (mkF m 215 #[.val (.int p0), .val (.int p1), .val (.int p2), .val (.int p3), .val (.ref bA), .val (.ref bS), .val (.ref tt), .val (.ref b1), .val (.int (1 : Int32)), .val (.int (4 : Int32)), .val (.ref b181), .unset, .unset] [(.int (3 : Int32)), (.int (4 : Int32))])
      refine GoW.st (fun _ k => XS.icmpYes X188.here hx rfl (pc0 := 215) (pc' := 237) rfl (hb hby at_215) rfl (feq (by decide : ¬ ((4 : Int32) = (3 : Int32)))).2 (by decide) (by decide) k) ?_
      show GoW _ _ _ _ _ _ _ T188 (mkF m 237 #[.val (.int p0), .val (.int p1), .val (.int p2), .val (.int p3), .val (.ref bA), .val (.ref bS), .val (.ref tt), .val (.ref b1), .val (.int (1 : Int32)), .val (.int (4 : Int32)), .val (.ref b181), .unset, .unset] [])
      refine GoW.st (fun _ k => XS.iload X188.here hx rfl (hb hby at_237) rfl k) ?_
      show GoW _ _ _ _ _ _ _ T188 (mkF m 239 #[.val (.int p0), .val (.int p1), .val (.int p2), .val (.int p3), .val (.ref bA), .val (.ref bS), .val (.ref tt), .val (.ref b1), .val (.int (1 : Int32)), .val (.int (4 : Int32)), .val (.ref b181), .unset, .unset] [(.int (4 : Int32))])
      refine GoW.st (fun _ k => XS.iconst X188.here hx rfl (hb hby at_239) k) ?_
      show GoW _ _ _ _ _ _ _ T188 (mkF m 240 #[.val (.int p0), .val (.int p1), .val (.int p2), .val (.int p3), .val (.ref bA), .val (.ref bS), .val (.ref tt), .val (.ref b1), .val (.int (1 : Int32)), .val (.int (4 : Int32)), .val (.ref b181), .unset, .unset] [(.int (4 : Int32)), (.int (4 : Int32))])
      refine GoW.st (fun _ k => XS.icmpNo X188.here hx rfl (hb hby at_240) rfl (teq (by decide : (4 : Int32) = (4 : Int32))).2 k) ?_
      show GoW _ _ _ _ _ _ _ T188 (mkF m 243 #[.val (.int p0), .val (.int p1), .val (.int p2), .val (.int p3), .val (.ref bA), .val (.ref bS), .val (.ref tt), .val (.ref b1), .val (.int (1 : Int32)), .val (.int (4 : Int32)), .val (.ref b181), .unset, .unset] [])
      refine GoW.st (fun _ k => XS.aload X188.here hx rfl (hb hby at_243) rfl rfl k) ?_
      show GoW _ _ _ _ _ _ _ T188 (mkF m 245 #[.val (.int p0), .val (.int p1), .val (.int p2), .val (.int p3), .val (.ref bA), .val (.ref bS), .val (.ref tt), .val (.ref b1), .val (.int (1 : Int32)), .val (.int (4 : Int32)), .val (.ref b181), .unset, .unset] [(.ref b181)])
      refine GoW.st (fun _ k => XS.aconstNull X188.here hx rfl (hb hby at_245) k) ?_
      show GoW _ _ _ _ _ _ _ T188 (mkF m 246 #[.val (.int p0), .val (.int p1), .val (.int p2), .val (.int p3), .val (.ref bA), .val (.ref bS), .val (.ref tt), .val (.ref b1), .val (.int (1 : Int32)), .val (.int (4 : Int32)), .val (.ref b181), .unset, .unset] [.null, (.ref b181)])
      obtain ⟨cq189, kq189, q189a, q189b, q189c⟩ := isOf hZ e188 EE188
      obtain ⟨_, _, ⟨T189, L189, k189, n189⟩, -, X189, ⟨Lc189, hQ189, l189, y189, z189⟩, st189⟩ := X188.virtualBack hx (y := (⟨"com/example/prudent_checker/prudentchecker/language/VariableReference", "equals", "(Ljava/lang/Object;)Z"⟩ : MethodName)) (z := (⟨"com/example/prudent_checker/prudentchecker/language/VariableReference", "equals", "(Ljava/lang/Object;)Z"⟩ : MethodName)) hown (mvT hZ (hw _ (List.mem_of_getElem? (i := 68) rfl))) (mvT hZ (hw _ (List.mem_of_getElem? (i := 69) rfl))) (notFace_of_selects (args := #[]) (mvT hZ (hw _ (List.mem_of_getElem? (i := 71) rfl)))) (mvT hZ (hw _ (List.mem_of_getElem? (i := 71) rfl))) (mvT hZ (hw _ (List.mem_of_getElem? (i := 70) rfl))) (by decide) (backOf (W := 0) (rm10n l Z a0 hw [] b181  h188 n0 Z188 ) hZ (hw _ (List.mem_of_getElem? (i := 72) rfl)) (hw _ (List.mem_of_getElem? (i := 56) rfl)) (by decide) (by decide)) q189a q189c (g := (mkF m 246 #[.val (.int p0), .val (.int p1), .val (.int p2), .val (.int p3), .val (.ref bA), .val (.ref bS), .val (.ref tt), .val (.ref b1), .val (.int (1 : Int32)), .val (.int (4 : Int32)), .val (.ref b181), .unset, .unset] [.null, (.ref b181)])) rfl (by rw [hml]; rfl) (Steps.refl _) (argsL := [.null]) (rest := []) (lenOf pd_3 rfl) rfl (by show 2 * 0 + _ ≤ _; exact Nat.le_of_eq rfl) (hb hby at_246) (fun _ _ => ⟨rfl, e188, (by decide : 10 + 0 ≤ _), (by decide : 32 + 0 ≤ _)⟩)
      dsimp only [Pt.U, Pt.locs, Pt.cells, Pt.slots] at X189 l189 y189 z189 st189 hQ189
      subst l189 y189 z189
      obtain ⟨rfl, N189q, e189⟩ := hQ189
      have N189 := Fr.app N188 N189q
      refine GoW.st (fun _ k => st189.trans k) ?_
      show GoW _ _ _ _ _ _ _ T189 (mkF m 249 #[.val (.int p0), .val (.int p1), .val (.int p2), .val (.int p3), .val (.ref bA), .val (.ref bS), .val (.ref tt), .val (.ref b1), .val (.int (1 : Int32)), .val (.int (4 : Int32)), .val (.ref b181), .unset, .unset] [(.int (val_10n b181))])
      rw [show (val_10n b181) = (0 : Int32) from by unfold val_10n; rfl]
      show GoW _ _ _ _ _ _ _ T189 (mkF m 249 #[.val (.int p0), .val (.int p1), .val (.int p2), .val (.int p3), .val (.ref bA), .val (.ref bS), .val (.ref tt), .val (.ref b1), .val (.int (1 : Int32)), .val (.int (4 : Int32)), .val (.ref b181), .unset, .unset] [(.int (0 : Int32))])
      refine GoW.st (fun _ k => XS.ifNo X189.here hx rfl (hb hby at_249) rfl ((if0 _ _).trans (teq (by decide : (0 : Int32) = (0 : Int32))).2) k) ?_
      show GoW _ _ _ _ _ _ _ T189 (mkF m 252 #[.val (.int p0), .val (.int p1), .val (.int p2), .val (.int p3), .val (.ref bA), .val (.ref bS), .val (.ref tt), .val (.ref b1), .val (.int (1 : Int32)), .val (.int (4 : Int32)), .val (.ref b181), .unset, .unset] [])
      refine GoW.st (fun _ k => XS.iconst X189.here hx rfl (hb hby at_252) k) ?_
      show GoW _ _ _ _ _ _ _ T189 (mkF m 253 #[.val (.int p0), .val (.int p1), .val (.int p2), .val (.int p3), .val (.ref bA), .val (.ref bS), .val (.ref tt), .val (.ref b1), .val (.int (1 : Int32)), .val (.int (4 : Int32)), .val (.ref b181), .unset, .unset] [(.int (1 : Int32))])
      refine GoW.st (fun _ k => XS.goto X189.here hx rfl (pc0 := 253) (pc' := 257) rfl (hb hby at_253) (by decide) (by decide) k) ?_
      show GoW _ _ _ _ _ _ _ T189 (mkF m 257 #[.val (.int p0), .val (.int p1), .val (.int p2), .val (.int p3), .val (.ref bA), .val (.ref bS), .val (.ref tt), .val (.ref b1), .val (.int (1 : Int32)), .val (.int (4 : Int32)), .val (.ref b181), .unset, .unset] [(.int (1 : Int32))])
      refine GoW.ret X189 hS (by rw [e189]; exact hk188) hlk (v := some (.int (1 : Int32))) (fun h => by rw [hret] at h; cases h) (fun fs hr => retN X189 hx (t := .boolean) hret (by simp) (hb hby at_257) hr) ?_ (by decide) (by decide)
      show Q0 Z p0 p1 p2 p3 w_BYTE w_INT G1 h0 n0 (some (.int (1 : Int32))) T189.heap _
      rw [e189]
      exact ⟨rfl, N189⟩
    · rw [hk112]
      show GoW _ _ _ _ _ _ _ T23 (mkF m 132 #[.val (.int p0), .val (.int p1), .val (.int p2), .val (.int p3), .val (.ref bA), .val (.ref bS), .val (.ref tt), .val (.ref b1), .val (.int (1 : Int32)), .unset, .unset, .unset, .unset] [(.int (5 : Int32))])
      refine GoW.st (fun _ k => XS.istore X23.here hx rfl (hb hby at_132) rfl (l' := #[.val (.int p0), .val (.int p1), .val (.int p2), .val (.int p3), .val (.ref bA), .val (.ref bS), .val (.ref tt), .val (.ref b1), .val (.int (1 : Int32)), .val (.int (5 : Int32)), .unset, .unset, .unset]) rfl k) ?_
      show GoW _ _ _ _ _ _ _ T23 (mkF m 134 #[.val (.int p0), .val (.int p1), .val (.int p2), .val (.int p3), .val (.ref bA), .val (.ref bS), .val (.ref tt), .val (.ref b1), .val (.int (1 : Int32)), .val (.int (5 : Int32)), .unset, .unset, .unset] [])
      obtain ⟨T190, h190, X190, e190, E190, A190, D190, -, st190⟩ := newO X23 hx hZ hown (hw _ (List.mem_of_getElem? (i := 54) rfl)) (hw _ (List.mem_of_getElem? (i := 55) rfl)) (hw _ (List.mem_of_getElem? (i := 56) rfl)) e23 (g := (mkF m 134 #[.val (.int p0), .val (.int p1), .val (.int p2), .val (.int p3), .val (.ref bA), .val (.ref bS), .val (.ref tt), .val (.ref b1), .val (.int (1 : Int32)), .val (.int (5 : Int32)), .unset, .unset, .unset] [])) rfl (hb hby at_134) (by decide) (by decide)
      obtain ⟨b190, g190⟩ : ∃ z, z = h23.size := ⟨_, rfl⟩
      rw [← g190] at A190 D190 st190
      have ne191 : b2 ≠ b190 := Nat.ne_of_lt (Nat.lt_of_lt_of_le EE4__23.lt (Nat.le_of_eq g190.symm))
      have ne192 : b8 ≠ b190 := Nat.ne_of_lt (Nat.lt_of_lt_of_le EE11__23.lt (Nat.le_of_eq g190.symm))
      have ne193 : b15 ≠ b190 := Nat.ne_of_lt (Nat.lt_of_lt_of_le EE20__23.lt (Nat.le_of_eq g190.symm))
      have ne194 : b1 ≠ b190 := Nat.ne_of_lt (Nat.lt_of_lt_of_le V_b1__23.lt (Nat.le_of_eq g190.symm))
      have g_b190 : n0 ≤ b190 := Nat.le_trans Z23 (Nat.le_of_eq g190.symm)
      have EE4__190 := EE4__23.ext E190
      have EE11__190 := EE11__23.ext E190
      have EE20__190 := EE20__23.ext E190
      have V_b1__190 := V_b1__23.ext E190
      have Z190 : n0 ≤ h190.size := Nat.le_trans Z23 E190.1
      have hk190 := Nat.le_trans hk23 E190.1
      have F_variable_b190 : Fld Z h190 b190 "com/example/prudent_checker/prudentchecker/language/VariableReference" "variable" "Lcom/example/prudent_checker/prudentchecker/language/Variable;" .null := D190 (Or.inr (hw _ (List.mem_of_getElem? (i := 67) rfl))) (ty := (.object "com/example/prudent_checker/prudentchecker/language/Variable")) (by decide)
      refine GoW.st st190 ?_
      show GoW _ _ _ _ _ _ _ T190 (mkF m 137 #[.val (.int p0), .val (.int p1), .val (.int p2), .val (.int p3), .val (.ref bA), .val (.ref bS), .val (.ref tt), .val (.ref b1), .val (.int (1 : Int32)), .val (.int (5 : Int32)), .unset, .unset, .unset] [(.ref b190)])
      refine GoW.st (fun _ k => XS.dup X190.here hx rfl (hb hby at_137) rfl rfl k) ?_
      show GoW _ _ _ _ _ _ _ T190 (mkF m 138 #[.val (.int p0), .val (.int p1), .val (.int p2), .val (.int p3), .val (.ref bA), .val (.ref bS), .val (.ref tt), .val (.ref b1), .val (.int (1 : Int32)), .val (.int (5 : Int32)), .unset, .unset, .unset] [(.ref b190), (.ref b190)])
      refine GoW.st (fun _ k => XS.aload X190.here hx rfl (hb hby at_138) rfl rfl k) ?_
      show GoW _ _ _ _ _ _ _ T190 (mkF m 140 #[.val (.int p0), .val (.int p1), .val (.int p2), .val (.int p3), .val (.ref bA), .val (.ref bS), .val (.ref tt), .val (.ref b1), .val (.int (1 : Int32)), .val (.int (5 : Int32)), .unset, .unset, .unset] [(.ref b1), (.ref b190), (.ref b190)])
      refine GoW.st (fun _ k => XS.iload X190.here hx rfl (hb hby at_140) rfl k) ?_
      show GoW _ _ _ _ _ _ _ T190 (mkF m 142 #[.val (.int p0), .val (.int p1), .val (.int p2), .val (.int p3), .val (.ref bA), .val (.ref bS), .val (.ref tt), .val (.ref b1), .val (.int (1 : Int32)), .val (.int (5 : Int32)), .unset, .unset, .unset] [(.int (1 : Int32)), (.ref b1), (.ref b190), (.ref b190)])
      obtain ⟨cl195, Ar195, qq195, SS195, NN195, HH195, GG195⟩ := id V_b1__190
      have hin196 : ¬ ((1 : Int32) < 0 ∨ cl195.slots.size ≤ ((1 : Int32)).toNatClampNeg) := inb_of SS195 ⟨by decide, by decide⟩
      refine GoW.st (fun _ k => X190.aaload hx (j := (1 : Int32)) (v := (.ref b8)) (by rw [e190]; exact Ar195.1) (State.isArrayOf_alike hZ.alike Ar195.2.1) rfl Ar195.2.2 hin196 (HH195.at hin196 rfl) (g := (mkF m 142 #[.val (.int p0), .val (.int p1), .val (.int p2), .val (.int p3), .val (.ref bA), .val (.ref bS), .val (.ref tt), .val (.ref b1), .val (.int (1 : Int32)), .val (.int (5 : Int32)), .unset, .unset, .unset] [(.int (1 : Int32)), (.ref b1), (.ref b190), (.ref b190)])) rfl rfl (hb hby at_142) _ k) ?_
      show GoW _ _ _ _ _ _ _ T190 (mkF m 143 #[.val (.int p0), .val (.int p1), .val (.int p2), .val (.int p3), .val (.ref bA), .val (.ref bS), .val (.ref tt), .val (.ref b1), .val (.int (1 : Int32)), .val (.int (5 : Int32)), .unset, .unset, .unset] [(.ref b8), (.ref b190), (.ref b190)])
      obtain ⟨_, _, ⟨T197, L197, k197, n197⟩, -, X197, ⟨Lc197, hQ197, l197, y197, z197⟩, st197⟩ := X190.specialBack hx (y := (⟨"com/example/prudent_checker/prudentchecker/language/VariableReference", "<init>", "(Lcom/example/prudent_checker/prudentchecker/language/Variable;)V"⟩ : MethodName)) rfl hown (mvT hZ (hw _ (List.mem_of_getElem? (i := 57) rfl))) (mvT hZ (hw _ (List.mem_of_getElem? (i := 58) rfl))) (mvT hZ (hw _ (List.mem_of_getElem? (i := 59) rfl))) (by decide) (backOf (W := 1) (rm8 l Z a0 hw [] b190 b8 .null h190 n0 Z190 A190 F_variable_b190 g_b190) hZ (hw _ (List.mem_of_getElem? (i := 59) rfl)) (hw _ (List.mem_of_getElem? (i := 56) rfl)) (by decide) (by decide)) (g := (mkF m 143 #[.val (.int p0), .val (.int p1), .val (.int p2), .val (.int p3), .val (.ref bA), .val (.ref bS), .val (.ref tt), .val (.ref b1), .val (.int (1 : Int32)), .val (.int (5 : Int32)), .unset, .unset, .unset] [(.ref b8), (.ref b190), (.ref b190)])) rfl (by rw [hml]; rfl) (Steps.refl _) (a := b190) (argsL := [(.ref b8)]) (rest := [(.ref b190)]) (lenOf pd_2 rfl) rfl (by show 2 * 0 + _ ≤ _; exact Nat.le_of_eq rfl) (hb hby at_143) (fun _ _ => ⟨rfl, e190, (by decide : 10 + 0 ≤ _), (by decide : 32 + 0 ≤ _)⟩)
      dsimp only [Pt.U, Pt.locs, Pt.cells, Pt.slots] at X197 l197 y197 z197 st197 hQ197
      subst l197 y197 z197
      generalize e197 : T197.heap = h197 at hQ197
      obtain ⟨rfl, N197q, K197, EE197, FF_variable_197⟩ := hQ197
      have N197 := Fr.app N23 N197q
      refine GoW.st (fun _ k => st197.trans k) ?_
      have EE4__197 := EE4__190.keep K197
      have EE11__197 := EE11__190.keep K197
      have EE20__197 := EE20__190.keep K197
      have V_b1__197 := V_b1__190.keep K197 (ninS ne194 (nin0))
      have A190__197 := A190.keep K197
      have Z197 : n0 ≤ h197.size := Nat.le_trans Z190 K197.1
      have hk197 := Nat.le_trans hk190 K197.1
      rw [show (val_8_variable b190 b8 .null) = (.ref b8) from by unfold val_8_variable; rfl] at FF_variable_197
      have F_variable_b190__197 := FF_variable_197
      show GoW _ _ _ _ _ _ _ T197 (mkF m 146 #[.val (.int p0), .val (.int p1), .val (.int p2), .val (.int p3), .val (.ref bA), .val (.ref bS), .val (.ref tt), .val (.ref b1), .val (.int (1 : Int32)), .val (.int (5 : Int32)), .unset, .unset, .unset] [(.ref b190)])
      refine GoW.st (fun _ k => XS.astore X197.here hx rfl (hb hby at_146) rfl rfl (l' := #[.val (.int p0), .val (.int p1), .val (.int p2), .val (.int p3), .val (.ref bA), .val (.ref bS), .val (.ref tt), .val (.ref b1), .val (.int (1 : Int32)), .val (.int (5 : Int32)), .val (.ref b190), .unset, .unset]) rfl k) ?_
      show GoW _ _ _ _ _ _ _ T197 (mkF m 148 #[.val (.int p0), .val (.int p1), .val (.int p2), .val (.int p3), .val (.ref bA), .val (.ref bS), .val (.ref tt), .val (.ref b1), .val (.int (1 : Int32)), .val (.int (5 : Int32)), .val (.ref b190), .unset, .unset] [])
      refine GoW.st (fun _ k => XS.iload X197.here hx rfl (hb hby at_148) rfl k) ?_
      show GoW _ _ _ _ _ _ _ T197 (mkF m 150 #[.val (.int p0), .val (.int p1), .val (.int p2), .val (.int p3), .val (.ref bA), .val (.ref bS), .val (.ref tt), .val (.ref b1), .val (.int (1 : Int32)), .val (.int (5 : Int32)), .val (.ref b190), .unset, .unset] [(.int (5 : Int32))])
      refine GoW.st (fun _ k => XS.iconst X197.here hx rfl (hb hby at_150) k) ?_
      show GoW _ _ _ _ _ _ _ T197 (mkF m 151 #[.val (.int p0), .val (.int p1), .val (.int p2), .val (.int p3), .val (.ref bA), .val (.ref bS), .val (.ref tt), .val (.ref b1), .val (.int (1 : Int32)), .val (.int (5 : Int32)), .val (.ref b190), .unset, .unset] [(.int (3 : Int32)), (.int (5 : Int32))])
      refine GoW.st (fun _ k => XS.icmpYes X197.here hx rfl (pc0 := 151) (pc' := 212) rfl (hb hby at_151) rfl (flt (by decide : ¬ ((5 : Int32) < (3 : Int32)))).2.1 (by decide) (by decide) k) ?_
      show GoW _ _ _ _ _ _ _ T197 (mkF m 212 #[.val (.int p0), .val (.int p1), .val (.int p2), .val (.int p3), .val (.ref bA), .val (.ref bS), .val (.ref tt), .val (.ref b1), .val (.int (1 : Int32)), .val (.int (5 : Int32)), .val (.ref b190), .unset, .unset] [])
      refine GoW.st (fun _ k => XS.iload X197.here hx rfl (hb hby at_212) rfl k) ?_
      show GoW _ _ _ _ _ _ _ T197 (mkF m 214 #[.val (.int p0), .val (.int p1), .val (.int p2), .val (.int p3), .val (.ref bA), .val (.ref bS), .val (.ref tt), .val (.ref b1), .val (.int (1 : Int32)), .val (.int (5 : Int32)), .val (.ref b190), .unset, .unset] [(.int (5 : Int32))])
      refine GoW.st (fun _ k => XS.iconst X197.here hx rfl (hb hby at_214) k) ?_
      show GoW _ _ _ _ _ _ _ T197 (mkF m 215 #[.val (.int p0), .val (.int p1), .val (.int p2), .val (.int p3), .val (.ref bA), .val (.ref bS), .val (.ref tt), .val (.ref b1), .val (.int (1 : Int32)), .val (.int (5 : Int32)), .val (.ref b190), .unset, .unset] [(.int (3 : Int32)), (.int (5 : Int32))])
      refine GoW.st (fun _ k => XS.icmpYes X197.here hx rfl (pc0 := 215) (pc' := 237) rfl (hb hby at_215) rfl (feq (by decide : ¬ ((5 : Int32) = (3 : Int32)))).2 (by decide) (by decide) k) ?_
      show GoW _ _ _ _ _ _ _ T197 (mkF m 237 #[.val (.int p0), .val (.int p1), .val (.int p2), .val (.int p3), .val (.ref bA), .val (.ref bS), .val (.ref tt), .val (.ref b1), .val (.int (1 : Int32)), .val (.int (5 : Int32)), .val (.ref b190), .unset, .unset] [])
      refine GoW.st (fun _ k => XS.iload X197.here hx rfl (hb hby at_237) rfl k) ?_
      show GoW _ _ _ _ _ _ _ T197 (mkF m 239 #[.val (.int p0), .val (.int p1), .val (.int p2), .val (.int p3), .val (.ref bA), .val (.ref bS), .val (.ref tt), .val (.ref b1), .val (.int (1 : Int32)), .val (.int (5 : Int32)), .val (.ref b190), .unset, .unset] [(.int (5 : Int32))])
      refine GoW.st (fun _ k => XS.iconst X197.here hx rfl (hb hby at_239) k) ?_
      show GoW _ _ _ _ _ _ _ T197 (mkF m 240 #[.val (.int p0), .val (.int p1), .val (.int p2), .val (.int p3), .val (.ref bA), .val (.ref bS), .val (.ref tt), .val (.ref b1), .val (.int (1 : Int32)), .val (.int (5 : Int32)), .val (.ref b190), .unset, .unset] [(.int (4 : Int32)), (.int (5 : Int32))])
      refine GoW.st (fun _ k => XS.icmpYes X197.here hx rfl (pc0 := 240) (pc' := 258) rfl (hb hby at_240) rfl (feq (by decide : ¬ ((5 : Int32) = (4 : Int32)))).2 (by decide) (by decide) k) ?_
      show GoW _ _ _ _ _ _ _ T197 (mkF m 258 #[.val (.int p0), .val (.int p1), .val (.int p2), .val (.int p3), .val (.ref bA), .val (.ref bS), .val (.ref tt), .val (.ref b1), .val (.int (1 : Int32)), .val (.int (5 : Int32)), .val (.ref b190), .unset, .unset] [])
      refine GoW.st (fun _ k => XS.aload X197.here hx rfl (hb hby at_258) rfl rfl k) ?_
      show GoW _ _ _ _ _ _ _ T197 (mkF m 260 #[.val (.int p0), .val (.int p1), .val (.int p2), .val (.int p3), .val (.ref bA), .val (.ref bS), .val (.ref tt), .val (.ref b1), .val (.int (1 : Int32)), .val (.int (5 : Int32)), .val (.ref b190), .unset, .unset] [(.ref b190)])
      refine GoW.st (fun _ k => XS.aload X197.here hx rfl (hb hby at_260) rfl rfl k) ?_
      show GoW _ _ _ _ _ _ _ T197 (mkF m 262 #[.val (.int p0), .val (.int p1), .val (.int p2), .val (.int p3), .val (.ref bA), .val (.ref bS), .val (.ref tt), .val (.ref b1), .val (.int (1 : Int32)), .val (.int (5 : Int32)), .val (.ref b190), .unset, .unset] [(.ref b190), (.ref b190)])
      obtain ⟨cq198, kq198, q198a, q198b, q198c⟩ := isOf hZ e197 EE197
      obtain ⟨_, _, ⟨T198, L198, k198, n198⟩, -, X198, ⟨Lc198, hQ198, l198, y198, z198⟩, st198⟩ := X197.virtualBack hx (y := (⟨"com/example/prudent_checker/prudentchecker/language/VariableReference", "equals", "(Ljava/lang/Object;)Z"⟩ : MethodName)) (z := (⟨"com/example/prudent_checker/prudentchecker/language/VariableReference", "equals", "(Ljava/lang/Object;)Z"⟩ : MethodName)) hown (mvT hZ (hw _ (List.mem_of_getElem? (i := 68) rfl))) (mvT hZ (hw _ (List.mem_of_getElem? (i := 69) rfl))) (notFace_of_selects (args := #[]) (mvT hZ (hw _ (List.mem_of_getElem? (i := 71) rfl)))) (mvT hZ (hw _ (List.mem_of_getElem? (i := 71) rfl))) (mvT hZ (hw _ (List.mem_of_getElem? (i := 70) rfl))) (by decide) (backOf (W := 0) (rm10r l Z a0 hw [] b190 b190 b8 b8 h197 n0 Z197 EE197 F_variable_b190__197 F_variable_b190__197) hZ (hw _ (List.mem_of_getElem? (i := 72) rfl)) (hw _ (List.mem_of_getElem? (i := 56) rfl)) (by decide) (by decide)) q198a q198c (g := (mkF m 262 #[.val (.int p0), .val (.int p1), .val (.int p2), .val (.int p3), .val (.ref bA), .val (.ref bS), .val (.ref tt), .val (.ref b1), .val (.int (1 : Int32)), .val (.int (5 : Int32)), .val (.ref b190), .unset, .unset] [(.ref b190), (.ref b190)])) rfl (by rw [hml]; rfl) (Steps.refl _) (argsL := [(.ref b190)]) (rest := []) (lenOf pd_3 rfl) rfl (by show 2 * 0 + _ ≤ _; exact Nat.le_of_eq rfl) (hb hby at_262) (fun _ _ => ⟨rfl, e197, (by decide : 10 + 0 ≤ _), (by decide : 32 + 0 ≤ _)⟩)
      dsimp only [Pt.U, Pt.locs, Pt.cells, Pt.slots] at X198 l198 y198 z198 st198 hQ198
      subst l198 y198 z198
      obtain ⟨rfl, N198q, e198⟩ := hQ198
      have N198 := Fr.app N197 N198q
      refine GoW.st (fun _ k => st198.trans k) ?_
      show GoW _ _ _ _ _ _ _ T198 (mkF m 265 #[.val (.int p0), .val (.int p1), .val (.int p2), .val (.int p3), .val (.ref bA), .val (.ref bS), .val (.ref tt), .val (.ref b1), .val (.int (1 : Int32)), .val (.int (5 : Int32)), .val (.ref b190), .unset, .unset] [(.int (val_10r b190 b190 b8 b8))])
      rw [show (val_10r b190 b190 b8 b8) = (1 : Int32) from by unfold val_10r; rw [if_pos rfl]]
      show GoW _ _ _ _ _ _ _ T198 (mkF m 265 #[.val (.int p0), .val (.int p1), .val (.int p2), .val (.int p3), .val (.ref bA), .val (.ref bS), .val (.ref tt), .val (.ref b1), .val (.int (1 : Int32)), .val (.int (5 : Int32)), .val (.ref b190), .unset, .unset] [(.int (1 : Int32))])
      refine GoW.ret X198 hS (by rw [e198]; exact hk197) hlk (v := some (.int (1 : Int32))) (fun h => by rw [hret] at h; cases h) (fun fs hr => retN X198 hx (t := .boolean) hret (by simp) (hb hby at_265) hr) ?_ (by decide) (by decide)
      show Q0 Z p0 p1 p2 p3 w_BYTE w_INT G1 h0 n0 (some (.int (1 : Int32))) T198.heap _
      rw [e198]
      exact ⟨rfl, N198⟩
  · rw [hk24]
    show GoW _ _ _ _ _ _ _ T23 (mkF m 123 #[.val (.int p0), .val (.int p1), .val (.int p2), .val (.int p3), .val (.ref bA), .val (.ref bS), .val (.ref tt), .val (.ref b1), .unset, .unset, .unset, .unset, .unset] [(.int (2 : Int32))])
    refine GoW.st (fun _ k => XS.istore X23.here hx rfl (hb hby at_123) rfl (l' := #[.val (.int p0), .val (.int p1), .val (.int p2), .val (.int p3), .val (.ref bA), .val (.ref bS), .val (.ref tt), .val (.ref b1), .val (.int (2 : Int32)), .unset, .unset, .unset, .unset]) rfl k) ?_
    show GoW _ _ _ _ _ _ _ T23 (mkF m 125 #[.val (.int p0), .val (.int p1), .val (.int p2), .val (.int p3), .val (.ref bA), .val (.ref bS), .val (.ref tt), .val (.ref b1), .val (.int (2 : Int32)), .unset, .unset, .unset, .unset] [])
    refine GoW.st (fun _ k => XS.iloadN X23.here hx rfl (hb hby at_125) rfl k) ?_
    show GoW _ _ _ _ _ _ _ T23 (mkF m 126 #[.val (.int p0), .val (.int p1), .val (.int p2), .val (.int p3), .val (.ref bA), .val (.ref bS), .val (.ref tt), .val (.ref b1), .val (.int (2 : Int32)), .unset, .unset, .unset, .unset] [(.int p2)])
    refine GoW.st (fun _ k => Jvm.Stand.ldcI X23 hx hown (mvT hZ (hw _ (List.mem_of_getElem? (i := 53) rfl))) rfl (hb hby at_126) k) ?_
    show GoW _ _ _ _ _ _ _ T23 (mkF m 128 #[.val (.int p0), .val (.int p1), .val (.int p2), .val (.int p3), .val (.ref bA), .val (.ref bS), .val (.ref tt), .val (.ref b1), .val (.int (2 : Int32)), .unset, .unset, .unset, .unset] [(.int (2147483647 : Int32)), (.int p2)])
    refine GoW.st (fun _ k => XS.iand X23.here hx rfl (hb hby at_128) rfl k) ?_
    show GoW _ _ _ _ _ _ _ T23 (mkF m 129 #[.val (.int p0), .val (.int p1), .val (.int p2), .val (.int p3), .val (.ref bA), .val (.ref bS), .val (.ref tt), .val (.ref b1), .val (.int (2 : Int32)), .unset, .unset, .unset, .unset] [(.int (p2 &&& (2147483647 : Int32)))])
    refine GoW.st (fun _ k => XS.bipush X23.here hx rfl (hb hby at_129) k) ?_
    show GoW _ _ _ _ _ _ _ T23 (mkF m 131 #[.val (.int p0), .val (.int p1), .val (.int p2), .val (.int p3), .val (.ref bA), .val (.ref bS), .val (.ref tt), .val (.ref b1), .val (.int (2 : Int32)), .unset, .unset, .unset, .unset] [(.int (6 : Int32)), (.int (p2 &&& (2147483647 : Int32)))])
    refine GoW.st (fun _ k => iremM (g := (mkF m 131 #[.val (.int p0), .val (.int p1), .val (.int p2), .val (.int p3), .val (.ref bA), .val (.ref bS), .val (.ref tt), .val (.ref b1), .val (.int (2 : Int32)), .unset, .unset, .unset, .unset] [(.int (6 : Int32)), (.int (p2 &&& (2147483647 : Int32)))])) X23 hx rfl (hb hby at_131) rfl (by decide) k) ?_
    show GoW _ _ _ _ _ _ _ T23 (mkF m 132 #[.val (.int p0), .val (.int p1), .val (.int p2), .val (.int p3), .val (.ref bA), .val (.ref bS), .val (.ref tt), .val (.ref b1), .val (.int (2 : Int32)), .unset, .unset, .unset, .unset] [(.int ((p2 &&& (2147483647 : Int32)) % (6 : Int32)))])
    rcases own_mod6 p2 with hk199 | hk199 | hk199 | hk199 | hk199 | hk199
    · rw [hk199]
      show GoW _ _ _ _ _ _ _ T23 (mkF m 132 #[.val (.int p0), .val (.int p1), .val (.int p2), .val (.int p3), .val (.ref bA), .val (.ref bS), .val (.ref tt), .val (.ref b1), .val (.int (2 : Int32)), .unset, .unset, .unset, .unset] [(.int (0 : Int32))])
      refine GoW.st (fun _ k => XS.istore X23.here hx rfl (hb hby at_132) rfl (l' := #[.val (.int p0), .val (.int p1), .val (.int p2), .val (.int p3), .val (.ref bA), .val (.ref bS), .val (.ref tt), .val (.ref b1), .val (.int (2 : Int32)), .val (.int (0 : Int32)), .unset, .unset, .unset]) rfl k) ?_
      show GoW _ _ _ _ _ _ _ T23 (mkF m 134 #[.val (.int p0), .val (.int p1), .val (.int p2), .val (.int p3), .val (.ref bA), .val (.ref bS), .val (.ref tt), .val (.ref b1), .val (.int (2 : Int32)), .val (.int (0 : Int32)), .unset, .unset, .unset] [])
      obtain ⟨T200, h200, X200, e200, E200, A200, D200, -, st200⟩ := newO X23 hx hZ hown (hw _ (List.mem_of_getElem? (i := 54) rfl)) (hw _ (List.mem_of_getElem? (i := 55) rfl)) (hw _ (List.mem_of_getElem? (i := 56) rfl)) e23 (g := (mkF m 134 #[.val (.int p0), .val (.int p1), .val (.int p2), .val (.int p3), .val (.ref bA), .val (.ref bS), .val (.ref tt), .val (.ref b1), .val (.int (2 : Int32)), .val (.int (0 : Int32)), .unset, .unset, .unset] [])) rfl (hb hby at_134) (by decide) (by decide)
      obtain ⟨b200, g200⟩ : ∃ z, z = h23.size := ⟨_, rfl⟩
      rw [← g200] at A200 D200 st200
      have ne201 : b2 ≠ b200 := Nat.ne_of_lt (Nat.lt_of_lt_of_le EE4__23.lt (Nat.le_of_eq g200.symm))
      have ne202 : b8 ≠ b200 := Nat.ne_of_lt (Nat.lt_of_lt_of_le EE11__23.lt (Nat.le_of_eq g200.symm))
      have ne203 : b15 ≠ b200 := Nat.ne_of_lt (Nat.lt_of_lt_of_le EE20__23.lt (Nat.le_of_eq g200.symm))
      have ne204 : b1 ≠ b200 := Nat.ne_of_lt (Nat.lt_of_lt_of_le V_b1__23.lt (Nat.le_of_eq g200.symm))
      have g_b200 : n0 ≤ b200 := Nat.le_trans Z23 (Nat.le_of_eq g200.symm)
      have EE4__200 := EE4__23.ext E200
      have EE11__200 := EE11__23.ext E200
      have EE20__200 := EE20__23.ext E200
      have V_b1__200 := V_b1__23.ext E200
      have Z200 : n0 ≤ h200.size := Nat.le_trans Z23 E200.1
      have hk200 := Nat.le_trans hk23 E200.1
      have F_variable_b200 : Fld Z h200 b200 "com/example/prudent_checker/prudentchecker/language/VariableReference" "variable" "Lcom/example/prudent_checker/prudentchecker/language/Variable;" .null := D200 (Or.inr (hw _ (List.mem_of_getElem? (i := 67) rfl))) (ty := (.object "com/example/prudent_checker/prudentchecker/language/Variable")) (by decide)
      refine GoW.st st200 ?_
      show GoW _ _ _ _ _ _ _ T200 (mkF m 137 #[.val (.int p0), .val (.int p1), .val (.int p2), .val (.int p3), .val (.ref bA), .val (.ref bS), .val (.ref tt), .val (.ref b1), .val (.int (2 : Int32)), .val (.int (0 : Int32)), .unset, .unset, .unset] [(.ref b200)])
      refine GoW.st (fun _ k => XS.dup X200.here hx rfl (hb hby at_137) rfl rfl k) ?_
      show GoW _ _ _ _ _ _ _ T200 (mkF m 138 #[.val (.int p0), .val (.int p1), .val (.int p2), .val (.int p3), .val (.ref bA), .val (.ref bS), .val (.ref tt), .val (.ref b1), .val (.int (2 : Int32)), .val (.int (0 : Int32)), .unset, .unset, .unset] [(.ref b200), (.ref b200)])
      refine GoW.st (fun _ k => XS.aload X200.here hx rfl (hb hby at_138) rfl rfl k) ?_
      show GoW _ _ _ _ _ _ _ T200 (mkF m 140 #[.val (.int p0), .val (.int p1), .val (.int p2), .val (.int p3), .val (.ref bA), .val (.ref bS), .val (.ref tt), .val (.ref b1), .val (.int (2 : Int32)), .val (.int (0 : Int32)), .unset, .unset, .unset] [(.ref b1), (.ref b200), (.ref b200)])
      refine GoW.st (fun _ k => XS.iload X200.here hx rfl (hb hby at_140) rfl k) ?_
      show GoW _ _ _ _ _ _ _ T200 (mkF m 142 #[.val (.int p0), .val (.int p1), .val (.int p2), .val (.int p3), .val (.ref bA), .val (.ref bS), .val (.ref tt), .val (.ref b1), .val (.int (2 : Int32)), .val (.int (0 : Int32)), .unset, .unset, .unset] [(.int (2 : Int32)), (.ref b1), (.ref b200), (.ref b200)])
      obtain ⟨cl205, Ar205, qq205, SS205, NN205, HH205, GG205⟩ := id V_b1__200
      have hin206 : ¬ ((2 : Int32) < 0 ∨ cl205.slots.size ≤ ((2 : Int32)).toNatClampNeg) := inb_of SS205 ⟨by decide, by decide⟩
      refine GoW.st (fun _ k => X200.aaload hx (j := (2 : Int32)) (v := (.ref b15)) (by rw [e200]; exact Ar205.1) (State.isArrayOf_alike hZ.alike Ar205.2.1) rfl Ar205.2.2 hin206 (HH205.at hin206 rfl) (g := (mkF m 142 #[.val (.int p0), .val (.int p1), .val (.int p2), .val (.int p3), .val (.ref bA), .val (.ref bS), .val (.ref tt), .val (.ref b1), .val (.int (2 : Int32)), .val (.int (0 : Int32)), .unset, .unset, .unset] [(.int (2 : Int32)), (.ref b1), (.ref b200), (.ref b200)])) rfl rfl (hb hby at_142) _ k) ?_
      show GoW _ _ _ _ _ _ _ T200 (mkF m 143 #[.val (.int p0), .val (.int p1), .val (.int p2), .val (.int p3), .val (.ref bA), .val (.ref bS), .val (.ref tt), .val (.ref b1), .val (.int (2 : Int32)), .val (.int (0 : Int32)), .unset, .unset, .unset] [(.ref b15), (.ref b200), (.ref b200)])
      obtain ⟨_, _, ⟨T207, L207, k207, n207⟩, -, X207, ⟨Lc207, hQ207, l207, y207, z207⟩, st207⟩ := X200.specialBack hx (y := (⟨"com/example/prudent_checker/prudentchecker/language/VariableReference", "<init>", "(Lcom/example/prudent_checker/prudentchecker/language/Variable;)V"⟩ : MethodName)) rfl hown (mvT hZ (hw _ (List.mem_of_getElem? (i := 57) rfl))) (mvT hZ (hw _ (List.mem_of_getElem? (i := 58) rfl))) (mvT hZ (hw _ (List.mem_of_getElem? (i := 59) rfl))) (by decide) (backOf (W := 1) (rm8 l Z a0 hw [] b200 b15 .null h200 n0 Z200 A200 F_variable_b200 g_b200) hZ (hw _ (List.mem_of_getElem? (i := 59) rfl)) (hw _ (List.mem_of_getElem? (i := 56) rfl)) (by decide) (by decide)) (g := (mkF m 143 #[.val (.int p0), .val (.int p1), .val (.int p2), .val (.int p3), .val (.ref bA), .val (.ref bS), .val (.ref tt), .val (.ref b1), .val (.int (2 : Int32)), .val (.int (0 : Int32)), .unset, .unset, .unset] [(.ref b15), (.ref b200), (.ref b200)])) rfl (by rw [hml]; rfl) (Steps.refl _) (a := b200) (argsL := [(.ref b15)]) (rest := [(.ref b200)]) (lenOf pd_2 rfl) rfl (by show 2 * 0 + _ ≤ _; exact Nat.le_of_eq rfl) (hb hby at_143) (fun _ _ => ⟨rfl, e200, (by decide : 10 + 0 ≤ _), (by decide : 32 + 0 ≤ _)⟩)
      dsimp only [Pt.U, Pt.locs, Pt.cells, Pt.slots] at X207 l207 y207 z207 st207 hQ207
      subst l207 y207 z207
      generalize e207 : T207.heap = h207 at hQ207
      obtain ⟨rfl, N207q, K207, EE207, FF_variable_207⟩ := hQ207
      have N207 := Fr.app N23 N207q
      refine GoW.st (fun _ k => st207.trans k) ?_
      have EE4__207 := EE4__200.keep K207
      have EE11__207 := EE11__200.keep K207
      have EE20__207 := EE20__200.keep K207
      have V_b1__207 := V_b1__200.keep K207 (ninS ne204 (nin0))
      have A200__207 := A200.keep K207
      have Z207 : n0 ≤ h207.size := Nat.le_trans Z200 K207.1
      have hk207 := Nat.le_trans hk200 K207.1
      rw [show (val_8_variable b200 b15 .null) = (.ref b15) from by unfold val_8_variable; rfl] at FF_variable_207
      have F_variable_b200__207 := FF_variable_207
      show GoW _ _ _ _ _ _ _ T207 (mkF m 146 #[.val (.int p0), .val (.int p1), .val (.int p2), .val (.int p3), .val (.ref bA), .val (.ref bS), .val (.ref tt), .val (.ref b1), .val (.int (2 : Int32)), .val (.int (0 : Int32)), .unset, .unset, .unset] [(.ref b200)])
      refine GoW.st (fun _ k => XS.astore X207.here hx rfl (hb hby at_146) rfl rfl (l' := #[.val (.int p0), .val (.int p1), .val (.int p2), .val (.int p3), .val (.ref bA), .val (.ref bS), .val (.ref tt), .val (.ref b1), .val (.int (2 : Int32)), .val (.int (0 : Int32)), .val (.ref b200), .unset, .unset]) rfl k) ?_
      show GoW _ _ _ _ _ _ _ T207 (mkF m 148 #[.val (.int p0), .val (.int p1), .val (.int p2), .val (.int p3), .val (.ref bA), .val (.ref bS), .val (.ref tt), .val (.ref b1), .val (.int (2 : Int32)), .val (.int (0 : Int32)), .val (.ref b200), .unset, .unset] [])
      refine GoW.st (fun _ k => XS.iload X207.here hx rfl (hb hby at_148) rfl k) ?_
      show GoW _ _ _ _ _ _ _ T207 (mkF m 150 #[.val (.int p0), .val (.int p1), .val (.int p2), .val (.int p3), .val (.ref bA), .val (.ref bS), .val (.ref tt), .val (.ref b1), .val (.int (2 : Int32)), .val (.int (0 : Int32)), .val (.ref b200), .unset, .unset] [(.int (0 : Int32))])
      refine GoW.st (fun _ k => XS.iconst X207.here hx rfl (hb hby at_150) k) ?_
      show GoW _ _ _ _ _ _ _ T207 (mkF m 151 #[.val (.int p0), .val (.int p1), .val (.int p2), .val (.int p3), .val (.ref bA), .val (.ref bS), .val (.ref tt), .val (.ref b1), .val (.int (2 : Int32)), .val (.int (0 : Int32)), .val (.ref b200), .unset, .unset] [(.int (3 : Int32)), (.int (0 : Int32))])
      refine GoW.st (fun _ k => XS.icmpNo X207.here hx rfl (hb hby at_151) rfl (tlt (by decide : (0 : Int32) < (3 : Int32))).2.1 k) ?_
      show GoW _ _ _ _ _ _ _ T207 (mkF m 154 #[.val (.int p0), .val (.int p1), .val (.int p2), .val (.int p3), .val (.ref bA), .val (.ref bS), .val (.ref tt), .val (.ref b1), .val (.int (2 : Int32)), .val (.int (0 : Int32)), .val (.ref b200), .unset, .unset] [])
      obtain ⟨T208, h208, X208, e208, E208, A208, D208, -, st208⟩ := newO X207 hx hZ hown (hw _ (List.mem_of_getElem? (i := 54) rfl)) (hw _ (List.mem_of_getElem? (i := 55) rfl)) (hw _ (List.mem_of_getElem? (i := 56) rfl)) e207 (g := (mkF m 154 #[.val (.int p0), .val (.int p1), .val (.int p2), .val (.int p3), .val (.ref bA), .val (.ref bS), .val (.ref tt), .val (.ref b1), .val (.int (2 : Int32)), .val (.int (0 : Int32)), .val (.ref b200), .unset, .unset] [])) rfl (hb hby at_154) (by decide) (by decide)
      obtain ⟨b208, g208⟩ : ∃ z, z = h207.size := ⟨_, rfl⟩
      rw [← g208] at A208 D208 st208
      have ne209 : b2 ≠ b208 := Nat.ne_of_lt (Nat.lt_of_lt_of_le EE4__207.lt (Nat.le_of_eq g208.symm))
      have ne210 : b8 ≠ b208 := Nat.ne_of_lt (Nat.lt_of_lt_of_le EE11__207.lt (Nat.le_of_eq g208.symm))
      have ne211 : b15 ≠ b208 := Nat.ne_of_lt (Nat.lt_of_lt_of_le EE20__207.lt (Nat.le_of_eq g208.symm))
      have ne212 : b1 ≠ b208 := Nat.ne_of_lt (Nat.lt_of_lt_of_le V_b1__207.lt (Nat.le_of_eq g208.symm))
      have ne213 : b200 ≠ b208 := Nat.ne_of_lt (Nat.lt_of_lt_of_le EE207.lt (Nat.le_of_eq g208.symm))
      have g_b208 : n0 ≤ b208 := Nat.le_trans Z207 (Nat.le_of_eq g208.symm)
      have EE4__208 := EE4__207.ext E208
      have EE11__208 := EE11__207.ext E208
      have EE20__208 := EE20__207.ext E208
      have V_b1__208 := V_b1__207.ext E208
      have EE207__208 := EE207.ext E208
      have F_variable_b200__208 := F_variable_b200__207.ext E208
      have Z208 : n0 ≤ h208.size := Nat.le_trans Z207 E208.1
      have hk208 := Nat.le_trans hk207 E208.1
      have F_variable_b208 : Fld Z h208 b208 "com/example/prudent_checker/prudentchecker/language/VariableReference" "variable" "Lcom/example/prudent_checker/prudentchecker/language/Variable;" .null := D208 (Or.inr (hw _ (List.mem_of_getElem? (i := 67) rfl))) (ty := (.object "com/example/prudent_checker/prudentchecker/language/Variable")) (by decide)
      refine GoW.st st208 ?_
      show GoW _ _ _ _ _ _ _ T208 (mkF m 157 #[.val (.int p0), .val (.int p1), .val (.int p2), .val (.int p3), .val (.ref bA), .val (.ref bS), .val (.ref tt), .val (.ref b1), .val (.int (2 : Int32)), .val (.int (0 : Int32)), .val (.ref b200), .unset, .unset] [(.ref b208)])
      refine GoW.st (fun _ k => XS.dup X208.here hx rfl (hb hby at_157) rfl rfl k) ?_
      show GoW _ _ _ _ _ _ _ T208 (mkF m 158 #[.val (.int p0), .val (.int p1), .val (.int p2), .val (.int p3), .val (.ref bA), .val (.ref bS), .val (.ref tt), .val (.ref b1), .val (.int (2 : Int32)), .val (.int (0 : Int32)), .val (.ref b200), .unset, .unset] [(.ref b208), (.ref b208)])
      refine GoW.st (fun _ k => XS.aload X208.here hx rfl (hb hby at_158) rfl rfl k) ?_
      show GoW _ _ _ _ _ _ _ T208 (mkF m 160 #[.val (.int p0), .val (.int p1), .val (.int p2), .val (.int p3), .val (.ref bA), .val (.ref bS), .val (.ref tt), .val (.ref b1), .val (.int (2 : Int32)), .val (.int (0 : Int32)), .val (.ref b200), .unset, .unset] [(.ref b1), (.ref b208), (.ref b208)])
      refine GoW.st (fun _ k => XS.iload X208.here hx rfl (hb hby at_160) rfl k) ?_
      show GoW _ _ _ _ _ _ _ T208 (mkF m 162 #[.val (.int p0), .val (.int p1), .val (.int p2), .val (.int p3), .val (.ref bA), .val (.ref bS), .val (.ref tt), .val (.ref b1), .val (.int (2 : Int32)), .val (.int (0 : Int32)), .val (.ref b200), .unset, .unset] [(.int (0 : Int32)), (.ref b1), (.ref b208), (.ref b208)])
      obtain ⟨cl214, Ar214, qq214, SS214, NN214, HH214, GG214⟩ := id V_b1__208
      have hin215 : ¬ ((0 : Int32) < 0 ∨ cl214.slots.size ≤ ((0 : Int32)).toNatClampNeg) := inb_of SS214 ⟨by decide, by decide⟩
      refine GoW.st (fun _ k => X208.aaload hx (j := (0 : Int32)) (v := (.ref b2)) (by rw [e208]; exact Ar214.1) (State.isArrayOf_alike hZ.alike Ar214.2.1) rfl Ar214.2.2 hin215 (HH214.at hin215 rfl) (g := (mkF m 162 #[.val (.int p0), .val (.int p1), .val (.int p2), .val (.int p3), .val (.ref bA), .val (.ref bS), .val (.ref tt), .val (.ref b1), .val (.int (2 : Int32)), .val (.int (0 : Int32)), .val (.ref b200), .unset, .unset] [(.int (0 : Int32)), (.ref b1), (.ref b208), (.ref b208)])) rfl rfl (hb hby at_162) _ k) ?_
      show GoW _ _ _ _ _ _ _ T208 (mkF m 163 #[.val (.int p0), .val (.int p1), .val (.int p2), .val (.int p3), .val (.ref bA), .val (.ref bS), .val (.ref tt), .val (.ref b1), .val (.int (2 : Int32)), .val (.int (0 : Int32)), .val (.ref b200), .unset, .unset] [(.ref b2), (.ref b208), (.ref b208)])
      obtain ⟨_, _, ⟨T216, L216, k216, n216⟩, -, X216, ⟨Lc216, hQ216, l216, y216, z216⟩, st216⟩ := X208.specialBack hx (y := (⟨"com/example/prudent_checker/prudentchecker/language/VariableReference", "<init>", "(Lcom/example/prudent_checker/prudentchecker/language/Variable;)V"⟩ : MethodName)) rfl hown (mvT hZ (hw _ (List.mem_of_getElem? (i := 57) rfl))) (mvT hZ (hw _ (List.mem_of_getElem? (i := 58) rfl))) (mvT hZ (hw _ (List.mem_of_getElem? (i := 59) rfl))) (by decide) (backOf (W := 1) (rm8 l Z a0 hw [] b208 b2 .null h208 n0 Z208 A208 F_variable_b208 g_b208) hZ (hw _ (List.mem_of_getElem? (i := 59) rfl)) (hw _ (List.mem_of_getElem? (i := 56) rfl)) (by decide) (by decide)) (g := (mkF m 163 #[.val (.int p0), .val (.int p1), .val (.int p2), .val (.int p3), .val (.ref bA), .val (.ref bS), .val (.ref tt), .val (.ref b1), .val (.int (2 : Int32)), .val (.int (0 : Int32)), .val (.ref b200), .unset, .unset] [(.ref b2), (.ref b208), (.ref b208)])) rfl (by rw [hml]; rfl) (Steps.refl _) (a := b208) (argsL := [(.ref b2)]) (rest := [(.ref b208)]) (lenOf pd_2 rfl) rfl (by show 2 * 0 + _ ≤ _; exact Nat.le_of_eq rfl) (hb hby at_163) (fun _ _ => ⟨rfl, e208, (by decide : 11 + 0 ≤ _), (by decide : 33 + 0 ≤ _)⟩)
      dsimp only [Pt.U, Pt.locs, Pt.cells, Pt.slots] at X216 l216 y216 z216 st216 hQ216
      subst l216 y216 z216
      generalize e216 : T216.heap = h216 at hQ216
      obtain ⟨rfl, N216q, K216, EE216, FF_variable_216⟩ := hQ216
      have N216 := Fr.app N207 N216q
      refine GoW.st (fun _ k => st216.trans k) ?_
      have EE4__216 := EE4__208.keep K216
      have EE11__216 := EE11__208.keep K216
      have EE20__216 := EE20__208.keep K216
      have V_b1__216 := V_b1__208.keep K216 (ninS ne212 (nin0))
      have EE207__216 := EE207__208.keep K216
      have F_variable_b200__216 := F_variable_b200__208.keep K216 (ninS ne213 (nin0))
      have A208__216 := A208.keep K216
      have Z216 : n0 ≤ h216.size := Nat.le_trans Z208 K216.1
      have hk216 := Nat.le_trans hk208 K216.1
      rw [show (val_8_variable b208 b2 .null) = (.ref b2) from by unfold val_8_variable; rfl] at FF_variable_216
      have F_variable_b208__216 := FF_variable_216
      show GoW _ _ _ _ _ _ _ T216 (mkF m 166 #[.val (.int p0), .val (.int p1), .val (.int p2), .val (.int p3), .val (.ref bA), .val (.ref bS), .val (.ref tt), .val (.ref b1), .val (.int (2 : Int32)), .val (.int (0 : Int32)), .val (.ref b200), .unset, .unset] [(.ref b208)])
      refine GoW.st (fun _ k => XS.astore X216.here hx rfl (hb hby at_166) rfl rfl (l' := #[.val (.int p0), .val (.int p1), .val (.int p2), .val (.int p3), .val (.ref bA), .val (.ref bS), .val (.ref tt), .val (.ref b1), .val (.int (2 : Int32)), .val (.int (0 : Int32)), .val (.ref b200), .val (.ref b208), .unset]) rfl k) ?_
      show GoW _ _ _ _ _ _ _ T216 (mkF m 168 #[.val (.int p0), .val (.int p1), .val (.int p2), .val (.int p3), .val (.ref bA), .val (.ref bS), .val (.ref tt), .val (.ref b1), .val (.int (2 : Int32)), .val (.int (0 : Int32)), .val (.ref b200), .val (.ref b208), .unset] [])
      refine GoW.st (fun _ k => XS.iload X216.here hx rfl (hb hby at_168) rfl k) ?_
      show GoW _ _ _ _ _ _ _ T216 (mkF m 170 #[.val (.int p0), .val (.int p1), .val (.int p2), .val (.int p3), .val (.ref bA), .val (.ref bS), .val (.ref tt), .val (.ref b1), .val (.int (2 : Int32)), .val (.int (0 : Int32)), .val (.ref b200), .val (.ref b208), .unset] [(.int (2 : Int32))])
      refine GoW.st (fun _ k => XS.iload X216.here hx rfl (hb hby at_170) rfl k) ?_
      show GoW _ _ _ _ _ _ _ T216 (mkF m 172 #[.val (.int p0), .val (.int p1), .val (.int p2), .val (.int p3), .val (.ref bA), .val (.ref bS), .val (.ref tt), .val (.ref b1), .val (.int (2 : Int32)), .val (.int (0 : Int32)), .val (.ref b200), .val (.ref b208), .unset] [(.int (0 : Int32)), (.int (2 : Int32))])
      refine GoW.st (fun _ k => XS.icmpYes X216.here hx rfl (pc0 := 172) (pc' := 179) rfl (hb hby at_172) rfl (feq (by decide : ¬ ((2 : Int32) = (0 : Int32)))).2 (by decide) (by decide) k) ?_
      show GoW _ _ _ _ _ _ _ T216 (mkF m 179 #[.val (.int p0), .val (.int p1), .val (.int p2), .val (.int p3), .val (.ref bA), .val (.ref bS), .val (.ref tt), .val (.ref b1), .val (.int (2 : Int32)), .val (.int (0 : Int32)), .val (.ref b200), .val (.ref b208), .unset] [])
      refine GoW.st (fun _ k => XS.iconst X216.here hx rfl (hb hby at_179) k) ?_
      show GoW _ _ _ _ _ _ _ T216 (mkF m 180 #[.val (.int p0), .val (.int p1), .val (.int p2), .val (.int p3), .val (.ref bA), .val (.ref bS), .val (.ref tt), .val (.ref b1), .val (.int (2 : Int32)), .val (.int (0 : Int32)), .val (.ref b200), .val (.ref b208), .unset] [(.int (0 : Int32))])
      refine GoW.st (fun _ k => XS.istore X216.here hx rfl (hb hby at_180) rfl (l' := #[.val (.int p0), .val (.int p1), .val (.int p2), .val (.int p3), .val (.ref bA), .val (.ref bS), .val (.ref tt), .val (.ref b1), .val (.int (2 : Int32)), .val (.int (0 : Int32)), .val (.ref b200), .val (.ref b208), .val (.int (0 : Int32))]) rfl k) ?_
      show GoW _ _ _ _ _ _ _ T216 (mkF m 182 #[.val (.int p0), .val (.int p1), .val (.int p2), .val (.int p3), .val (.ref bA), .val (.ref bS), .val (.ref tt), .val (.ref b1), .val (.int (2 : Int32)), .val (.int (0 : Int32)), .val (.ref b200), .val (.ref b208), .val (.int (0 : Int32))] [])
      refine GoW.st (fun _ k => XS.aload X216.here hx rfl (hb hby at_182) rfl rfl k) ?_
      show GoW _ _ _ _ _ _ _ T216 (mkF m 184 #[.val (.int p0), .val (.int p1), .val (.int p2), .val (.int p3), .val (.ref bA), .val (.ref bS), .val (.ref tt), .val (.ref b1), .val (.int (2 : Int32)), .val (.int (0 : Int32)), .val (.ref b200), .val (.ref b208), .val (.int (0 : Int32))] [(.ref b200)])
      refine GoW.st (fun _ k => XS.aload X216.here hx rfl (hb hby at_184) rfl rfl k) ?_
      show GoW _ _ _ _ _ _ _ T216 (mkF m 186 #[.val (.int p0), .val (.int p1), .val (.int p2), .val (.int p3), .val (.ref bA), .val (.ref bS), .val (.ref tt), .val (.ref b1), .val (.int (2 : Int32)), .val (.int (0 : Int32)), .val (.ref b200), .val (.ref b208), .val (.int (0 : Int32))] [(.ref b208), (.ref b200)])
      obtain ⟨cq217, kq217, q217a, q217b, q217c⟩ := isOf hZ e216 EE207__216
      obtain ⟨_, _, ⟨T217, L217, k217, n217⟩, -, X217, ⟨Lc217, hQ217, l217, y217, z217⟩, st217⟩ := X216.virtualBack hx (y := (⟨"com/example/prudent_checker/prudentchecker/language/VariableReference", "equals", "(Ljava/lang/Object;)Z"⟩ : MethodName)) (z := (⟨"com/example/prudent_checker/prudentchecker/language/VariableReference", "equals", "(Ljava/lang/Object;)Z"⟩ : MethodName)) hown (mvT hZ (hw _ (List.mem_of_getElem? (i := 68) rfl))) (mvT hZ (hw _ (List.mem_of_getElem? (i := 69) rfl))) (notFace_of_selects (args := #[]) (mvT hZ (hw _ (List.mem_of_getElem? (i := 71) rfl)))) (mvT hZ (hw _ (List.mem_of_getElem? (i := 71) rfl))) (mvT hZ (hw _ (List.mem_of_getElem? (i := 70) rfl))) (by decide) (backOf (W := 0) (rm10r l Z a0 hw [] b200 b208 b15 b2 h216 n0 Z216 EE216 F_variable_b200__216 F_variable_b208__216) hZ (hw _ (List.mem_of_getElem? (i := 72) rfl)) (hw _ (List.mem_of_getElem? (i := 56) rfl)) (by decide) (by decide)) q217a q217c (g := (mkF m 186 #[.val (.int p0), .val (.int p1), .val (.int p2), .val (.int p3), .val (.ref bA), .val (.ref bS), .val (.ref tt), .val (.ref b1), .val (.int (2 : Int32)), .val (.int (0 : Int32)), .val (.ref b200), .val (.ref b208), .val (.int (0 : Int32))] [(.ref b208), (.ref b200)])) rfl (by rw [hml]; rfl) (Steps.refl _) (argsL := [(.ref b208)]) (rest := []) (lenOf pd_3 rfl) rfl (by show 2 * 0 + _ ≤ _; exact Nat.le_of_eq rfl) (hb hby at_186) (fun _ _ => ⟨rfl, e216, (by decide : 11 + 0 ≤ _), (by decide : 33 + 0 ≤ _)⟩)
      dsimp only [Pt.U, Pt.locs, Pt.cells, Pt.slots] at X217 l217 y217 z217 st217 hQ217
      subst l217 y217 z217
      obtain ⟨rfl, N217q, e217⟩ := hQ217
      have N217 := Fr.app N216 N217q
      refine GoW.st (fun _ k => st217.trans k) ?_
      show GoW _ _ _ _ _ _ _ T217 (mkF m 189 #[.val (.int p0), .val (.int p1), .val (.int p2), .val (.int p3), .val (.ref bA), .val (.ref bS), .val (.ref tt), .val (.ref b1), .val (.int (2 : Int32)), .val (.int (0 : Int32)), .val (.ref b200), .val (.ref b208), .val (.int (0 : Int32))] [(.int (val_10r b200 b208 b15 b2))])
      rw [show (val_10r b200 b208 b15 b2) = (0 : Int32) from by unfold val_10r; rw [if_neg (Ne.symm ne16)]]
      show GoW _ _ _ _ _ _ _ T217 (mkF m 189 #[.val (.int p0), .val (.int p1), .val (.int p2), .val (.int p3), .val (.ref bA), .val (.ref bS), .val (.ref tt), .val (.ref b1), .val (.int (2 : Int32)), .val (.int (0 : Int32)), .val (.ref b200), .val (.ref b208), .val (.int (0 : Int32))] [(.int (0 : Int32))])
      refine GoW.st (fun _ k => XS.iload X217.here hx rfl (hb hby at_189) rfl k) ?_
      show GoW _ _ _ _ _ _ _ T217 (mkF m 191 #[.val (.int p0), .val (.int p1), .val (.int p2), .val (.int p3), .val (.ref bA), .val (.ref bS), .val (.ref tt), .val (.ref b1), .val (.int (2 : Int32)), .val (.int (0 : Int32)), .val (.ref b200), .val (.ref b208), .val (.int (0 : Int32))] [(.int (0 : Int32)), (.int (0 : Int32))])
      refine GoW.st (fun _ k => XS.icmpNo X217.here hx rfl (hb hby at_191) rfl (teq (by decide : (0 : Int32) = (0 : Int32))).2 k) ?_
      show GoW _ _ _ _ _ _ _ T217 (mkF m 194 #[.val (.int p0), .val (.int p1), .val (.int p2), .val (.int p3), .val (.ref bA), .val (.ref bS), .val (.ref tt), .val (.ref b1), .val (.int (2 : Int32)), .val (.int (0 : Int32)), .val (.ref b200), .val (.ref b208), .val (.int (0 : Int32))] [])
      refine GoW.st (fun _ k => XS.aload X217.here hx rfl (hb hby at_194) rfl rfl k) ?_
      show GoW _ _ _ _ _ _ _ T217 (mkF m 196 #[.val (.int p0), .val (.int p1), .val (.int p2), .val (.int p3), .val (.ref bA), .val (.ref bS), .val (.ref tt), .val (.ref b1), .val (.int (2 : Int32)), .val (.int (0 : Int32)), .val (.ref b200), .val (.ref b208), .val (.int (0 : Int32))] [(.ref b208)])
      refine GoW.st (fun _ k => XS.aload X217.here hx rfl (hb hby at_196) rfl rfl k) ?_
      show GoW _ _ _ _ _ _ _ T217 (mkF m 198 #[.val (.int p0), .val (.int p1), .val (.int p2), .val (.int p3), .val (.ref bA), .val (.ref bS), .val (.ref tt), .val (.ref b1), .val (.int (2 : Int32)), .val (.int (0 : Int32)), .val (.ref b200), .val (.ref b208), .val (.int (0 : Int32))] [(.ref b200), (.ref b208)])
      obtain ⟨cq218, kq218, q218a, q218b, q218c⟩ := isOf hZ e217 EE216
      obtain ⟨_, _, ⟨T218, L218, k218, n218⟩, -, X218, ⟨Lc218, hQ218, l218, y218, z218⟩, st218⟩ := X217.virtualBack hx (y := (⟨"com/example/prudent_checker/prudentchecker/language/VariableReference", "equals", "(Ljava/lang/Object;)Z"⟩ : MethodName)) (z := (⟨"com/example/prudent_checker/prudentchecker/language/VariableReference", "equals", "(Ljava/lang/Object;)Z"⟩ : MethodName)) hown (mvT hZ (hw _ (List.mem_of_getElem? (i := 68) rfl))) (mvT hZ (hw _ (List.mem_of_getElem? (i := 69) rfl))) (notFace_of_selects (args := #[]) (mvT hZ (hw _ (List.mem_of_getElem? (i := 71) rfl)))) (mvT hZ (hw _ (List.mem_of_getElem? (i := 71) rfl))) (mvT hZ (hw _ (List.mem_of_getElem? (i := 70) rfl))) (by decide) (backOf (W := 0) (rm10r l Z a0 hw [] b208 b200 b2 b15 h216 n0 Z216 EE207__216 F_variable_b208__216 F_variable_b200__216) hZ (hw _ (List.mem_of_getElem? (i := 72) rfl)) (hw _ (List.mem_of_getElem? (i := 56) rfl)) (by decide) (by decide)) q218a q218c (g := (mkF m 198 #[.val (.int p0), .val (.int p1), .val (.int p2), .val (.int p3), .val (.ref bA), .val (.ref bS), .val (.ref tt), .val (.ref b1), .val (.int (2 : Int32)), .val (.int (0 : Int32)), .val (.ref b200), .val (.ref b208), .val (.int (0 : Int32))] [(.ref b200), (.ref b208)])) rfl (by rw [hml]; rfl) (Steps.refl _) (argsL := [(.ref b200)]) (rest := []) (lenOf pd_3 rfl) rfl (by show 2 * 0 + _ ≤ _; exact Nat.le_of_eq rfl) (hb hby at_198) (fun _ _ => ⟨rfl, e217, (by decide : 11 + 0 ≤ _), (by decide : 33 + 0 ≤ _)⟩)
      dsimp only [Pt.U, Pt.locs, Pt.cells, Pt.slots] at X218 l218 y218 z218 st218 hQ218
      subst l218 y218 z218
      obtain ⟨rfl, N218q, e218⟩ := hQ218
      have N218 := Fr.app N217 N218q
      refine GoW.st (fun _ k => st218.trans k) ?_
      show GoW _ _ _ _ _ _ _ T218 (mkF m 201 #[.val (.int p0), .val (.int p1), .val (.int p2), .val (.int p3), .val (.ref bA), .val (.ref bS), .val (.ref tt), .val (.ref b1), .val (.int (2 : Int32)), .val (.int (0 : Int32)), .val (.ref b200), .val (.ref b208), .val (.int (0 : Int32))] [(.int (val_10r b208 b200 b2 b15))])
      rw [show (val_10r b208 b200 b2 b15) = (0 : Int32) from by unfold val_10r; rw [if_neg ne16]]
      show GoW _ _ _ _ _ _ _ T218 (mkF m 201 #[.val (.int p0), .val (.int p1), .val (.int p2), .val (.int p3), .val (.ref bA), .val (.ref bS), .val (.ref tt), .val (.ref b1), .val (.int (2 : Int32)), .val (.int (0 : Int32)), .val (.ref b200), .val (.ref b208), .val (.int (0 : Int32))] [(.int (0 : Int32))])
      refine GoW.st (fun _ k => XS.iload X218.here hx rfl (hb hby at_201) rfl k) ?_
      show GoW _ _ _ _ _ _ _ T218 (mkF m 203 #[.val (.int p0), .val (.int p1), .val (.int p2), .val (.int p3), .val (.ref bA), .val (.ref bS), .val (.ref tt), .val (.ref b1), .val (.int (2 : Int32)), .val (.int (0 : Int32)), .val (.ref b200), .val (.ref b208), .val (.int (0 : Int32))] [(.int (0 : Int32)), (.int (0 : Int32))])
      refine GoW.st (fun _ k => XS.icmpNo X218.here hx rfl (hb hby at_203) rfl (teq (by decide : (0 : Int32) = (0 : Int32))).2 k) ?_
      show GoW _ _ _ _ _ _ _ T218 (mkF m 206 #[.val (.int p0), .val (.int p1), .val (.int p2), .val (.int p3), .val (.ref bA), .val (.ref bS), .val (.ref tt), .val (.ref b1), .val (.int (2 : Int32)), .val (.int (0 : Int32)), .val (.ref b200), .val (.ref b208), .val (.int (0 : Int32))] [])
      refine GoW.st (fun _ k => XS.iconst X218.here hx rfl (hb hby at_206) k) ?_
      show GoW _ _ _ _ _ _ _ T218 (mkF m 207 #[.val (.int p0), .val (.int p1), .val (.int p2), .val (.int p3), .val (.ref bA), .val (.ref bS), .val (.ref tt), .val (.ref b1), .val (.int (2 : Int32)), .val (.int (0 : Int32)), .val (.ref b200), .val (.ref b208), .val (.int (0 : Int32))] [(.int (1 : Int32))])
      refine GoW.st (fun _ k => XS.goto X218.here hx rfl (pc0 := 207) (pc' := 211) rfl (hb hby at_207) (by decide) (by decide) k) ?_
      show GoW _ _ _ _ _ _ _ T218 (mkF m 211 #[.val (.int p0), .val (.int p1), .val (.int p2), .val (.int p3), .val (.ref bA), .val (.ref bS), .val (.ref tt), .val (.ref b1), .val (.int (2 : Int32)), .val (.int (0 : Int32)), .val (.ref b200), .val (.ref b208), .val (.int (0 : Int32))] [(.int (1 : Int32))])
      refine GoW.ret X218 hS (by rw [e218]; exact hk216) hlk (v := some (.int (1 : Int32))) (fun h => by rw [hret] at h; cases h) (fun fs hr => retN X218 hx (t := .boolean) hret (by simp) (hb hby at_211) hr) ?_ (by decide) (by decide)
      show Q0 Z p0 p1 p2 p3 w_BYTE w_INT G1 h0 n0 (some (.int (1 : Int32))) T218.heap _
      rw [e218]
      exact ⟨rfl, N218⟩
    · rw [hk199]
      show GoW _ _ _ _ _ _ _ T23 (mkF m 132 #[.val (.int p0), .val (.int p1), .val (.int p2), .val (.int p3), .val (.ref bA), .val (.ref bS), .val (.ref tt), .val (.ref b1), .val (.int (2 : Int32)), .unset, .unset, .unset, .unset] [(.int (1 : Int32))])
      refine GoW.st (fun _ k => XS.istore X23.here hx rfl (hb hby at_132) rfl (l' := #[.val (.int p0), .val (.int p1), .val (.int p2), .val (.int p3), .val (.ref bA), .val (.ref bS), .val (.ref tt), .val (.ref b1), .val (.int (2 : Int32)), .val (.int (1 : Int32)), .unset, .unset, .unset]) rfl k) ?_
      show GoW _ _ _ _ _ _ _ T23 (mkF m 134 #[.val (.int p0), .val (.int p1), .val (.int p2), .val (.int p3), .val (.ref bA), .val (.ref bS), .val (.ref tt), .val (.ref b1), .val (.int (2 : Int32)), .val (.int (1 : Int32)), .unset, .unset, .unset] [])
      obtain ⟨T219, h219, X219, e219, E219, A219, D219, -, st219⟩ := newO X23 hx hZ hown (hw _ (List.mem_of_getElem? (i := 54) rfl)) (hw _ (List.mem_of_getElem? (i := 55) rfl)) (hw _ (List.mem_of_getElem? (i := 56) rfl)) e23 (g := (mkF m 134 #[.val (.int p0), .val (.int p1), .val (.int p2), .val (.int p3), .val (.ref bA), .val (.ref bS), .val (.ref tt), .val (.ref b1), .val (.int (2 : Int32)), .val (.int (1 : Int32)), .unset, .unset, .unset] [])) rfl (hb hby at_134) (by decide) (by decide)
      obtain ⟨b219, g219⟩ : ∃ z, z = h23.size := ⟨_, rfl⟩
      rw [← g219] at A219 D219 st219
      have ne220 : b2 ≠ b219 := Nat.ne_of_lt (Nat.lt_of_lt_of_le EE4__23.lt (Nat.le_of_eq g219.symm))
      have ne221 : b8 ≠ b219 := Nat.ne_of_lt (Nat.lt_of_lt_of_le EE11__23.lt (Nat.le_of_eq g219.symm))
      have ne222 : b15 ≠ b219 := Nat.ne_of_lt (Nat.lt_of_lt_of_le EE20__23.lt (Nat.le_of_eq g219.symm))
      have ne223 : b1 ≠ b219 := Nat.ne_of_lt (Nat.lt_of_lt_of_le V_b1__23.lt (Nat.le_of_eq g219.symm))
      have g_b219 : n0 ≤ b219 := Nat.le_trans Z23 (Nat.le_of_eq g219.symm)
      have EE4__219 := EE4__23.ext E219
      have EE11__219 := EE11__23.ext E219
      have EE20__219 := EE20__23.ext E219
      have V_b1__219 := V_b1__23.ext E219
      have Z219 : n0 ≤ h219.size := Nat.le_trans Z23 E219.1
      have hk219 := Nat.le_trans hk23 E219.1
      have F_variable_b219 : Fld Z h219 b219 "com/example/prudent_checker/prudentchecker/language/VariableReference" "variable" "Lcom/example/prudent_checker/prudentchecker/language/Variable;" .null := D219 (Or.inr (hw _ (List.mem_of_getElem? (i := 67) rfl))) (ty := (.object "com/example/prudent_checker/prudentchecker/language/Variable")) (by decide)
      refine GoW.st st219 ?_
      show GoW _ _ _ _ _ _ _ T219 (mkF m 137 #[.val (.int p0), .val (.int p1), .val (.int p2), .val (.int p3), .val (.ref bA), .val (.ref bS), .val (.ref tt), .val (.ref b1), .val (.int (2 : Int32)), .val (.int (1 : Int32)), .unset, .unset, .unset] [(.ref b219)])
      refine GoW.st (fun _ k => XS.dup X219.here hx rfl (hb hby at_137) rfl rfl k) ?_
      show GoW _ _ _ _ _ _ _ T219 (mkF m 138 #[.val (.int p0), .val (.int p1), .val (.int p2), .val (.int p3), .val (.ref bA), .val (.ref bS), .val (.ref tt), .val (.ref b1), .val (.int (2 : Int32)), .val (.int (1 : Int32)), .unset, .unset, .unset] [(.ref b219), (.ref b219)])
      refine GoW.st (fun _ k => XS.aload X219.here hx rfl (hb hby at_138) rfl rfl k) ?_
      show GoW _ _ _ _ _ _ _ T219 (mkF m 140 #[.val (.int p0), .val (.int p1), .val (.int p2), .val (.int p3), .val (.ref bA), .val (.ref bS), .val (.ref tt), .val (.ref b1), .val (.int (2 : Int32)), .val (.int (1 : Int32)), .unset, .unset, .unset] [(.ref b1), (.ref b219), (.ref b219)])
      refine GoW.st (fun _ k => XS.iload X219.here hx rfl (hb hby at_140) rfl k) ?_
      show GoW _ _ _ _ _ _ _ T219 (mkF m 142 #[.val (.int p0), .val (.int p1), .val (.int p2), .val (.int p3), .val (.ref bA), .val (.ref bS), .val (.ref tt), .val (.ref b1), .val (.int (2 : Int32)), .val (.int (1 : Int32)), .unset, .unset, .unset] [(.int (2 : Int32)), (.ref b1), (.ref b219), (.ref b219)])
      obtain ⟨cl224, Ar224, qq224, SS224, NN224, HH224, GG224⟩ := id V_b1__219
      have hin225 : ¬ ((2 : Int32) < 0 ∨ cl224.slots.size ≤ ((2 : Int32)).toNatClampNeg) := inb_of SS224 ⟨by decide, by decide⟩
      refine GoW.st (fun _ k => X219.aaload hx (j := (2 : Int32)) (v := (.ref b15)) (by rw [e219]; exact Ar224.1) (State.isArrayOf_alike hZ.alike Ar224.2.1) rfl Ar224.2.2 hin225 (HH224.at hin225 rfl) (g := (mkF m 142 #[.val (.int p0), .val (.int p1), .val (.int p2), .val (.int p3), .val (.ref bA), .val (.ref bS), .val (.ref tt), .val (.ref b1), .val (.int (2 : Int32)), .val (.int (1 : Int32)), .unset, .unset, .unset] [(.int (2 : Int32)), (.ref b1), (.ref b219), (.ref b219)])) rfl rfl (hb hby at_142) _ k) ?_
      show GoW _ _ _ _ _ _ _ T219 (mkF m 143 #[.val (.int p0), .val (.int p1), .val (.int p2), .val (.int p3), .val (.ref bA), .val (.ref bS), .val (.ref tt), .val (.ref b1), .val (.int (2 : Int32)), .val (.int (1 : Int32)), .unset, .unset, .unset] [(.ref b15), (.ref b219), (.ref b219)])
      obtain ⟨_, _, ⟨T226, L226, k226, n226⟩, -, X226, ⟨Lc226, hQ226, l226, y226, z226⟩, st226⟩ := X219.specialBack hx (y := (⟨"com/example/prudent_checker/prudentchecker/language/VariableReference", "<init>", "(Lcom/example/prudent_checker/prudentchecker/language/Variable;)V"⟩ : MethodName)) rfl hown (mvT hZ (hw _ (List.mem_of_getElem? (i := 57) rfl))) (mvT hZ (hw _ (List.mem_of_getElem? (i := 58) rfl))) (mvT hZ (hw _ (List.mem_of_getElem? (i := 59) rfl))) (by decide) (backOf (W := 1) (rm8 l Z a0 hw [] b219 b15 .null h219 n0 Z219 A219 F_variable_b219 g_b219) hZ (hw _ (List.mem_of_getElem? (i := 59) rfl)) (hw _ (List.mem_of_getElem? (i := 56) rfl)) (by decide) (by decide)) (g := (mkF m 143 #[.val (.int p0), .val (.int p1), .val (.int p2), .val (.int p3), .val (.ref bA), .val (.ref bS), .val (.ref tt), .val (.ref b1), .val (.int (2 : Int32)), .val (.int (1 : Int32)), .unset, .unset, .unset] [(.ref b15), (.ref b219), (.ref b219)])) rfl (by rw [hml]; rfl) (Steps.refl _) (a := b219) (argsL := [(.ref b15)]) (rest := [(.ref b219)]) (lenOf pd_2 rfl) rfl (by show 2 * 0 + _ ≤ _; exact Nat.le_of_eq rfl) (hb hby at_143) (fun _ _ => ⟨rfl, e219, (by decide : 10 + 0 ≤ _), (by decide : 32 + 0 ≤ _)⟩)
      dsimp only [Pt.U, Pt.locs, Pt.cells, Pt.slots] at X226 l226 y226 z226 st226 hQ226
      subst l226 y226 z226
      generalize e226 : T226.heap = h226 at hQ226
      obtain ⟨rfl, N226q, K226, EE226, FF_variable_226⟩ := hQ226
      have N226 := Fr.app N23 N226q
      refine GoW.st (fun _ k => st226.trans k) ?_
      have EE4__226 := EE4__219.keep K226
      have EE11__226 := EE11__219.keep K226
      have EE20__226 := EE20__219.keep K226
      have V_b1__226 := V_b1__219.keep K226 (ninS ne223 (nin0))
      have A219__226 := A219.keep K226
      have Z226 : n0 ≤ h226.size := Nat.le_trans Z219 K226.1
      have hk226 := Nat.le_trans hk219 K226.1
      rw [show (val_8_variable b219 b15 .null) = (.ref b15) from by unfold val_8_variable; rfl] at FF_variable_226
      have F_variable_b219__226 := FF_variable_226
      show GoW _ _ _ _ _ _ _ T226 (mkF m 146 #[.val (.int p0), .val (.int p1), .val (.int p2), .val (.int p3), .val (.ref bA), .val (.ref bS), .val (.ref tt), .val (.ref b1), .val (.int (2 : Int32)), .val (.int (1 : Int32)), .unset, .unset, .unset] [(.ref b219)])
      refine GoW.st (fun _ k => XS.astore X226.here hx rfl (hb hby at_146) rfl rfl (l' := #[.val (.int p0), .val (.int p1), .val (.int p2), .val (.int p3), .val (.ref bA), .val (.ref bS), .val (.ref tt), .val (.ref b1), .val (.int (2 : Int32)), .val (.int (1 : Int32)), .val (.ref b219), .unset, .unset]) rfl k) ?_
      show GoW _ _ _ _ _ _ _ T226 (mkF m 148 #[.val (.int p0), .val (.int p1), .val (.int p2), .val (.int p3), .val (.ref bA), .val (.ref bS), .val (.ref tt), .val (.ref b1), .val (.int (2 : Int32)), .val (.int (1 : Int32)), .val (.ref b219), .unset, .unset] [])
      refine GoW.st (fun _ k => XS.iload X226.here hx rfl (hb hby at_148) rfl k) ?_
      show GoW _ _ _ _ _ _ _ T226 (mkF m 150 #[.val (.int p0), .val (.int p1), .val (.int p2), .val (.int p3), .val (.ref bA), .val (.ref bS), .val (.ref tt), .val (.ref b1), .val (.int (2 : Int32)), .val (.int (1 : Int32)), .val (.ref b219), .unset, .unset] [(.int (1 : Int32))])
      refine GoW.st (fun _ k => XS.iconst X226.here hx rfl (hb hby at_150) k) ?_
      show GoW _ _ _ _ _ _ _ T226 (mkF m 151 #[.val (.int p0), .val (.int p1), .val (.int p2), .val (.int p3), .val (.ref bA), .val (.ref bS), .val (.ref tt), .val (.ref b1), .val (.int (2 : Int32)), .val (.int (1 : Int32)), .val (.ref b219), .unset, .unset] [(.int (3 : Int32)), (.int (1 : Int32))])
      refine GoW.st (fun _ k => XS.icmpNo X226.here hx rfl (hb hby at_151) rfl (tlt (by decide : (1 : Int32) < (3 : Int32))).2.1 k) ?_
      show GoW _ _ _ _ _ _ _ T226 (mkF m 154 #[.val (.int p0), .val (.int p1), .val (.int p2), .val (.int p3), .val (.ref bA), .val (.ref bS), .val (.ref tt), .val (.ref b1), .val (.int (2 : Int32)), .val (.int (1 : Int32)), .val (.ref b219), .unset, .unset] [])
      obtain ⟨T227, h227, X227, e227, E227, A227, D227, -, st227⟩ := newO X226 hx hZ hown (hw _ (List.mem_of_getElem? (i := 54) rfl)) (hw _ (List.mem_of_getElem? (i := 55) rfl)) (hw _ (List.mem_of_getElem? (i := 56) rfl)) e226 (g := (mkF m 154 #[.val (.int p0), .val (.int p1), .val (.int p2), .val (.int p3), .val (.ref bA), .val (.ref bS), .val (.ref tt), .val (.ref b1), .val (.int (2 : Int32)), .val (.int (1 : Int32)), .val (.ref b219), .unset, .unset] [])) rfl (hb hby at_154) (by decide) (by decide)
      obtain ⟨b227, g227⟩ : ∃ z, z = h226.size := ⟨_, rfl⟩
      rw [← g227] at A227 D227 st227
      have ne228 : b2 ≠ b227 := Nat.ne_of_lt (Nat.lt_of_lt_of_le EE4__226.lt (Nat.le_of_eq g227.symm))
      have ne229 : b8 ≠ b227 := Nat.ne_of_lt (Nat.lt_of_lt_of_le EE11__226.lt (Nat.le_of_eq g227.symm))
      have ne230 : b15 ≠ b227 := Nat.ne_of_lt (Nat.lt_of_lt_of_le EE20__226.lt (Nat.le_of_eq g227.symm))
      have ne231 : b1 ≠ b227 := Nat.ne_of_lt (Nat.lt_of_lt_of_le V_b1__226.lt (Nat.le_of_eq g227.symm))
      have ne232 : b219 ≠ b227 := Nat.ne_of_lt (Nat.lt_of_lt_of_le EE226.lt (Nat.le_of_eq g227.symm))
      have g_b227 : n0 ≤ b227 := Nat.le_trans Z226 (Nat.le_of_eq g227.symm)
      have EE4__227 := EE4__226.ext E227
      have EE11__227 := EE11__226.ext E227
      have EE20__227 := EE20__226.ext E227
      have V_b1__227 := V_b1__226.ext E227
      have EE226__227 := EE226.ext E227
      have F_variable_b219__227 := F_variable_b219__226.ext E227
      have Z227 : n0 ≤ h227.size := Nat.le_trans Z226 E227.1
      have hk227 := Nat.le_trans hk226 E227.1
      have F_variable_b227 : Fld Z h227 b227 "com/example/prudent_checker/prudentchecker/language/VariableReference" "variable" "Lcom/example/prudent_checker/prudentchecker/language/Variable;" .null := D227 (Or.inr (hw _ (List.mem_of_getElem? (i := 67) rfl))) (ty := (.object "com/example/prudent_checker/prudentchecker/language/Variable")) (by decide)
      refine GoW.st st227 ?_
      show GoW _ _ _ _ _ _ _ T227 (mkF m 157 #[.val (.int p0), .val (.int p1), .val (.int p2), .val (.int p3), .val (.ref bA), .val (.ref bS), .val (.ref tt), .val (.ref b1), .val (.int (2 : Int32)), .val (.int (1 : Int32)), .val (.ref b219), .unset, .unset] [(.ref b227)])
      refine GoW.st (fun _ k => XS.dup X227.here hx rfl (hb hby at_157) rfl rfl k) ?_
      show GoW _ _ _ _ _ _ _ T227 (mkF m 158 #[.val (.int p0), .val (.int p1), .val (.int p2), .val (.int p3), .val (.ref bA), .val (.ref bS), .val (.ref tt), .val (.ref b1), .val (.int (2 : Int32)), .val (.int (1 : Int32)), .val (.ref b219), .unset, .unset] [(.ref b227), (.ref b227)])
      refine GoW.st (fun _ k => XS.aload X227.here hx rfl (hb hby at_158) rfl rfl k) ?_
      show GoW _ _ _ _ _ _ _ T227 (mkF m 160 #[.val (.int p0), .val (.int p1), .val (.int p2), .val (.int p3), .val (.ref bA), .val (.ref bS), .val (.ref tt), .val (.ref b1), .val (.int (2 : Int32)), .val (.int (1 : Int32)), .val (.ref b219), .unset, .unset] [(.ref b1), (.ref b227), (.ref b227)])
      refine GoW.st (fun _ k => XS.iload X227.here hx rfl (hb hby at_160) rfl k) ?_
      show GoW _ _ _ _ _ _ _ T227 (mkF m 162 #[.val (.int p0), .val (.int p1), .val (.int p2), .val (.int p3), .val (.ref bA), .val (.ref bS), .val (.ref tt), .val (.ref b1), .val (.int (2 : Int32)), .val (.int (1 : Int32)), .val (.ref b219), .unset, .unset] [(.int (1 : Int32)), (.ref b1), (.ref b227), (.ref b227)])
      obtain ⟨cl233, Ar233, qq233, SS233, NN233, HH233, GG233⟩ := id V_b1__227
      have hin234 : ¬ ((1 : Int32) < 0 ∨ cl233.slots.size ≤ ((1 : Int32)).toNatClampNeg) := inb_of SS233 ⟨by decide, by decide⟩
      refine GoW.st (fun _ k => X227.aaload hx (j := (1 : Int32)) (v := (.ref b8)) (by rw [e227]; exact Ar233.1) (State.isArrayOf_alike hZ.alike Ar233.2.1) rfl Ar233.2.2 hin234 (HH233.at hin234 rfl) (g := (mkF m 162 #[.val (.int p0), .val (.int p1), .val (.int p2), .val (.int p3), .val (.ref bA), .val (.ref bS), .val (.ref tt), .val (.ref b1), .val (.int (2 : Int32)), .val (.int (1 : Int32)), .val (.ref b219), .unset, .unset] [(.int (1 : Int32)), (.ref b1), (.ref b227), (.ref b227)])) rfl rfl (hb hby at_162) _ k) ?_
      show GoW _ _ _ _ _ _ _ T227 (mkF m 163 #[.val (.int p0), .val (.int p1), .val (.int p2), .val (.int p3), .val (.ref bA), .val (.ref bS), .val (.ref tt), .val (.ref b1), .val (.int (2 : Int32)), .val (.int (1 : Int32)), .val (.ref b219), .unset, .unset] [(.ref b8), (.ref b227), (.ref b227)])
      obtain ⟨_, _, ⟨T235, L235, k235, n235⟩, -, X235, ⟨Lc235, hQ235, l235, y235, z235⟩, st235⟩ := X227.specialBack hx (y := (⟨"com/example/prudent_checker/prudentchecker/language/VariableReference", "<init>", "(Lcom/example/prudent_checker/prudentchecker/language/Variable;)V"⟩ : MethodName)) rfl hown (mvT hZ (hw _ (List.mem_of_getElem? (i := 57) rfl))) (mvT hZ (hw _ (List.mem_of_getElem? (i := 58) rfl))) (mvT hZ (hw _ (List.mem_of_getElem? (i := 59) rfl))) (by decide) (backOf (W := 1) (rm8 l Z a0 hw [] b227 b8 .null h227 n0 Z227 A227 F_variable_b227 g_b227) hZ (hw _ (List.mem_of_getElem? (i := 59) rfl)) (hw _ (List.mem_of_getElem? (i := 56) rfl)) (by decide) (by decide)) (g := (mkF m 163 #[.val (.int p0), .val (.int p1), .val (.int p2), .val (.int p3), .val (.ref bA), .val (.ref bS), .val (.ref tt), .val (.ref b1), .val (.int (2 : Int32)), .val (.int (1 : Int32)), .val (.ref b219), .unset, .unset] [(.ref b8), (.ref b227), (.ref b227)])) rfl (by rw [hml]; rfl) (Steps.refl _) (a := b227) (argsL := [(.ref b8)]) (rest := [(.ref b227)]) (lenOf pd_2 rfl) rfl (by show 2 * 0 + _ ≤ _; exact Nat.le_of_eq rfl) (hb hby at_163) (fun _ _ => ⟨rfl, e227, (by decide : 11 + 0 ≤ _), (by decide : 33 + 0 ≤ _)⟩)
      dsimp only [Pt.U, Pt.locs, Pt.cells, Pt.slots] at X235 l235 y235 z235 st235 hQ235
      subst l235 y235 z235
      generalize e235 : T235.heap = h235 at hQ235
      obtain ⟨rfl, N235q, K235, EE235, FF_variable_235⟩ := hQ235
      have N235 := Fr.app N226 N235q
      refine GoW.st (fun _ k => st235.trans k) ?_
      have EE4__235 := EE4__227.keep K235
      have EE11__235 := EE11__227.keep K235
      have EE20__235 := EE20__227.keep K235
      have V_b1__235 := V_b1__227.keep K235 (ninS ne231 (nin0))
      have EE226__235 := EE226__227.keep K235
      have F_variable_b219__235 := F_variable_b219__227.keep K235 (ninS ne232 (nin0))
      have A227__235 := A227.keep K235
      have Z235 : n0 ≤ h235.size := Nat.le_trans Z227 K235.1
      have hk235 := Nat.le_trans hk227 K235.1
      rw [show (val_8_variable b227 b8 .null) = (.ref b8) from by unfold val_8_variable; rfl] at FF_variable_235
      have F_variable_b227__235 := FF_variable_235
      show GoW _ _ _ _ _ _ _ T235 (mkF m 166 #[.val (.int p0), .val (.int p1), .val (.int p2), .val (.int p3), .val (.ref bA), .val (.ref bS), .val (.ref tt), .val (.ref b1), .val (.int (2 : Int32)), .val (.int (1 : Int32)), .val (.ref b219), .unset, .unset] [(.ref b227)])
      refine GoW.st (fun _ k => XS.astore X235.here hx rfl (hb hby at_166) rfl rfl (l' := #[.val (.int p0), .val (.int p1), .val (.int p2), .val (.int p3), .val (.ref bA), .val (.ref bS), .val (.ref tt), .val (.ref b1), .val (.int (2 : Int32)), .val (.int (1 : Int32)), .val (.ref b219), .val (.ref b227), .unset]) rfl k) ?_
      show GoW _ _ _ _ _ _ _ T235 (mkF m 168 #[.val (.int p0), .val (.int p1), .val (.int p2), .val (.int p3), .val (.ref bA), .val (.ref bS), .val (.ref tt), .val (.ref b1), .val (.int (2 : Int32)), .val (.int (1 : Int32)), .val (.ref b219), .val (.ref b227), .unset] [])
      refine GoW.st (fun _ k => XS.iload X235.here hx rfl (hb hby at_168) rfl k) ?_
      show GoW _ _ _ _ _ _ _ T235 (mkF m 170 #[.val (.int p0), .val (.int p1), .val (.int p2), .val (.int p3), .val (.ref bA), .val (.ref bS), .val (.ref tt), .val (.ref b1), .val (.int (2 : Int32)), .val (.int (1 : Int32)), .val (.ref b219), .val (.ref b227), .unset] [(.int (2 : Int32))])
      refine GoW.st (fun _ k => XS.iload X235.here hx rfl (hb hby at_170) rfl k) ?_
      show GoW _ _ _ _ _ _ _ T235 (mkF m 172 #[.val (.int p0), .val (.int p1), .val (.int p2), .val (.int p3), .val (.ref bA), .val (.ref bS), .val (.ref tt), .val (.ref b1), .val (.int (2 : Int32)), .val (.int (1 : Int32)), .val (.ref b219), .val (.ref b227), .unset] [(.int (1 : Int32)), (.int (2 : Int32))])
      refine GoW.st (fun _ k => XS.icmpYes X235.here hx rfl (pc0 := 172) (pc' := 179) rfl (hb hby at_172) rfl (feq (by decide : ¬ ((2 : Int32) = (1 : Int32)))).2 (by decide) (by decide) k) ?_
      show GoW _ _ _ _ _ _ _ T235 (mkF m 179 #[.val (.int p0), .val (.int p1), .val (.int p2), .val (.int p3), .val (.ref bA), .val (.ref bS), .val (.ref tt), .val (.ref b1), .val (.int (2 : Int32)), .val (.int (1 : Int32)), .val (.ref b219), .val (.ref b227), .unset] [])
      refine GoW.st (fun _ k => XS.iconst X235.here hx rfl (hb hby at_179) k) ?_
      show GoW _ _ _ _ _ _ _ T235 (mkF m 180 #[.val (.int p0), .val (.int p1), .val (.int p2), .val (.int p3), .val (.ref bA), .val (.ref bS), .val (.ref tt), .val (.ref b1), .val (.int (2 : Int32)), .val (.int (1 : Int32)), .val (.ref b219), .val (.ref b227), .unset] [(.int (0 : Int32))])
      refine GoW.st (fun _ k => XS.istore X235.here hx rfl (hb hby at_180) rfl (l' := #[.val (.int p0), .val (.int p1), .val (.int p2), .val (.int p3), .val (.ref bA), .val (.ref bS), .val (.ref tt), .val (.ref b1), .val (.int (2 : Int32)), .val (.int (1 : Int32)), .val (.ref b219), .val (.ref b227), .val (.int (0 : Int32))]) rfl k) ?_
      show GoW _ _ _ _ _ _ _ T235 (mkF m 182 #[.val (.int p0), .val (.int p1), .val (.int p2), .val (.int p3), .val (.ref bA), .val (.ref bS), .val (.ref tt), .val (.ref b1), .val (.int (2 : Int32)), .val (.int (1 : Int32)), .val (.ref b219), .val (.ref b227), .val (.int (0 : Int32))] [])
      refine GoW.st (fun _ k => XS.aload X235.here hx rfl (hb hby at_182) rfl rfl k) ?_
      show GoW _ _ _ _ _ _ _ T235 (mkF m 184 #[.val (.int p0), .val (.int p1), .val (.int p2), .val (.int p3), .val (.ref bA), .val (.ref bS), .val (.ref tt), .val (.ref b1), .val (.int (2 : Int32)), .val (.int (1 : Int32)), .val (.ref b219), .val (.ref b227), .val (.int (0 : Int32))] [(.ref b219)])
      refine GoW.st (fun _ k => XS.aload X235.here hx rfl (hb hby at_184) rfl rfl k) ?_
      show GoW _ _ _ _ _ _ _ T235 (mkF m 186 #[.val (.int p0), .val (.int p1), .val (.int p2), .val (.int p3), .val (.ref bA), .val (.ref bS), .val (.ref tt), .val (.ref b1), .val (.int (2 : Int32)), .val (.int (1 : Int32)), .val (.ref b219), .val (.ref b227), .val (.int (0 : Int32))] [(.ref b227), (.ref b219)])
      obtain ⟨cq236, kq236, q236a, q236b, q236c⟩ := isOf hZ e235 EE226__235
      obtain ⟨_, _, ⟨T236, L236, k236, n236⟩, -, X236, ⟨Lc236, hQ236, l236, y236, z236⟩, st236⟩ := X235.virtualBack hx (y := (⟨"com/example/prudent_checker/prudentchecker/language/VariableReference", "equals", "(Ljava/lang/Object;)Z"⟩ : MethodName)) (z := (⟨"com/example/prudent_checker/prudentchecker/language/VariableReference", "equals", "(Ljava/lang/Object;)Z"⟩ : MethodName)) hown (mvT hZ (hw _ (List.mem_of_getElem? (i := 68) rfl))) (mvT hZ (hw _ (List.mem_of_getElem? (i := 69) rfl))) (notFace_of_selects (args := #[]) (mvT hZ (hw _ (List.mem_of_getElem? (i := 71) rfl)))) (mvT hZ (hw _ (List.mem_of_getElem? (i := 71) rfl))) (mvT hZ (hw _ (List.mem_of_getElem? (i := 70) rfl))) (by decide) (backOf (W := 0) (rm10r l Z a0 hw [] b219 b227 b15 b8 h235 n0 Z235 EE235 F_variable_b219__235 F_variable_b227__235) hZ (hw _ (List.mem_of_getElem? (i := 72) rfl)) (hw _ (List.mem_of_getElem? (i := 56) rfl)) (by decide) (by decide)) q236a q236c (g := (mkF m 186 #[.val (.int p0), .val (.int p1), .val (.int p2), .val (.int p3), .val (.ref bA), .val (.ref bS), .val (.ref tt), .val (.ref b1), .val (.int (2 : Int32)), .val (.int (1 : Int32)), .val (.ref b219), .val (.ref b227), .val (.int (0 : Int32))] [(.ref b227), (.ref b219)])) rfl (by rw [hml]; rfl) (Steps.refl _) (argsL := [(.ref b227)]) (rest := []) (lenOf pd_3 rfl) rfl (by show 2 * 0 + _ ≤ _; exact Nat.le_of_eq rfl) (hb hby at_186) (fun _ _ => ⟨rfl, e235, (by decide : 11 + 0 ≤ _), (by decide : 33 + 0 ≤ _)⟩)
      dsimp only [Pt.U, Pt.locs, Pt.cells, Pt.slots] at X236 l236 y236 z236 st236 hQ236
      subst l236 y236 z236
      obtain ⟨rfl, N236q, e236⟩ := hQ236
      have N236 := Fr.app N235 N236q
      refine GoW.st (fun _ k => st236.trans k) ?_
      show GoW _ _ _ _ _ _ _ T236 (mkF m 189 #[.val (.int p0), .val (.int p1), .val (.int p2), .val (.int p3), .val (.ref bA), .val (.ref bS), .val (.ref tt), .val (.ref b1), .val (.int (2 : Int32)), .val (.int (1 : Int32)), .val (.ref b219), .val (.ref b227), .val (.int (0 : Int32))] [(.int (val_10r b219 b227 b15 b8))])
      rw [show (val_10r b219 b227 b15 b8) = (0 : Int32) from by unfold val_10r; rw [if_neg (Ne.symm ne17)]]
      show GoW _ _ _ _ _ _ _ T236 (mkF m 189 #[.val (.int p0), .val (.int p1), .val (.int p2), .val (.int p3), .val (.ref bA), .val (.ref bS), .val (.ref tt), .val (.ref b1), .val (.int (2 : Int32)), .val (.int (1 : Int32)), .val (.ref b219), .val (.ref b227), .val (.int (0 : Int32))] [(.int (0 : Int32))])
      refine GoW.st (fun _ k => XS.iload X236.here hx rfl (hb hby at_189) rfl k) ?_
      show GoW _ _ _ _ _ _ _ T236 (mkF m 191 #[.val (.int p0), .val (.int p1), .val (.int p2), .val (.int p3), .val (.ref bA), .val (.ref bS), .val (.ref tt), .val (.ref b1), .val (.int (2 : Int32)), .val (.int (1 : Int32)), .val (.ref b219), .val (.ref b227), .val (.int (0 : Int32))] [(.int (0 : Int32)), (.int (0 : Int32))])
      refine GoW.st (fun _ k => XS.icmpNo X236.here hx rfl (hb hby at_191) rfl (teq (by decide : (0 : Int32) = (0 : Int32))).2 k) ?_
      show GoW _ _ _ _ _ _ _ T236 (mkF m 194 #[.val (.int p0), .val (.int p1), .val (.int p2), .val (.int p3), .val (.ref bA), .val (.ref bS), .val (.ref tt), .val (.ref b1), .val (.int (2 : Int32)), .val (.int (1 : Int32)), .val (.ref b219), .val (.ref b227), .val (.int (0 : Int32))] [])
      refine GoW.st (fun _ k => XS.aload X236.here hx rfl (hb hby at_194) rfl rfl k) ?_
      show GoW _ _ _ _ _ _ _ T236 (mkF m 196 #[.val (.int p0), .val (.int p1), .val (.int p2), .val (.int p3), .val (.ref bA), .val (.ref bS), .val (.ref tt), .val (.ref b1), .val (.int (2 : Int32)), .val (.int (1 : Int32)), .val (.ref b219), .val (.ref b227), .val (.int (0 : Int32))] [(.ref b227)])
      refine GoW.st (fun _ k => XS.aload X236.here hx rfl (hb hby at_196) rfl rfl k) ?_
      show GoW _ _ _ _ _ _ _ T236 (mkF m 198 #[.val (.int p0), .val (.int p1), .val (.int p2), .val (.int p3), .val (.ref bA), .val (.ref bS), .val (.ref tt), .val (.ref b1), .val (.int (2 : Int32)), .val (.int (1 : Int32)), .val (.ref b219), .val (.ref b227), .val (.int (0 : Int32))] [(.ref b219), (.ref b227)])
      obtain ⟨cq237, kq237, q237a, q237b, q237c⟩ := isOf hZ e236 EE235
      obtain ⟨_, _, ⟨T237, L237, k237, n237⟩, -, X237, ⟨Lc237, hQ237, l237, y237, z237⟩, st237⟩ := X236.virtualBack hx (y := (⟨"com/example/prudent_checker/prudentchecker/language/VariableReference", "equals", "(Ljava/lang/Object;)Z"⟩ : MethodName)) (z := (⟨"com/example/prudent_checker/prudentchecker/language/VariableReference", "equals", "(Ljava/lang/Object;)Z"⟩ : MethodName)) hown (mvT hZ (hw _ (List.mem_of_getElem? (i := 68) rfl))) (mvT hZ (hw _ (List.mem_of_getElem? (i := 69) rfl))) (notFace_of_selects (args := #[]) (mvT hZ (hw _ (List.mem_of_getElem? (i := 71) rfl)))) (mvT hZ (hw _ (List.mem_of_getElem? (i := 71) rfl))) (mvT hZ (hw _ (List.mem_of_getElem? (i := 70) rfl))) (by decide) (backOf (W := 0) (rm10r l Z a0 hw [] b227 b219 b8 b15 h235 n0 Z235 EE226__235 F_variable_b227__235 F_variable_b219__235) hZ (hw _ (List.mem_of_getElem? (i := 72) rfl)) (hw _ (List.mem_of_getElem? (i := 56) rfl)) (by decide) (by decide)) q237a q237c (g := (mkF m 198 #[.val (.int p0), .val (.int p1), .val (.int p2), .val (.int p3), .val (.ref bA), .val (.ref bS), .val (.ref tt), .val (.ref b1), .val (.int (2 : Int32)), .val (.int (1 : Int32)), .val (.ref b219), .val (.ref b227), .val (.int (0 : Int32))] [(.ref b219), (.ref b227)])) rfl (by rw [hml]; rfl) (Steps.refl _) (argsL := [(.ref b219)]) (rest := []) (lenOf pd_3 rfl) rfl (by show 2 * 0 + _ ≤ _; exact Nat.le_of_eq rfl) (hb hby at_198) (fun _ _ => ⟨rfl, e236, (by decide : 11 + 0 ≤ _), (by decide : 33 + 0 ≤ _)⟩)
      dsimp only [Pt.U, Pt.locs, Pt.cells, Pt.slots] at X237 l237 y237 z237 st237 hQ237
      subst l237 y237 z237
      obtain ⟨rfl, N237q, e237⟩ := hQ237
      have N237 := Fr.app N236 N237q
      refine GoW.st (fun _ k => st237.trans k) ?_
      show GoW _ _ _ _ _ _ _ T237 (mkF m 201 #[.val (.int p0), .val (.int p1), .val (.int p2), .val (.int p3), .val (.ref bA), .val (.ref bS), .val (.ref tt), .val (.ref b1), .val (.int (2 : Int32)), .val (.int (1 : Int32)), .val (.ref b219), .val (.ref b227), .val (.int (0 : Int32))] [(.int (val_10r b227 b219 b8 b15))])
      rw [show (val_10r b227 b219 b8 b15) = (0 : Int32) from by unfold val_10r; rw [if_neg ne17]]
      show GoW _ _ _ _ _ _ _ T237 (mkF m 201 #[.val (.int p0), .val (.int p1), .val (.int p2), .val (.int p3), .val (.ref bA), .val (.ref bS), .val (.ref tt), .val (.ref b1), .val (.int (2 : Int32)), .val (.int (1 : Int32)), .val (.ref b219), .val (.ref b227), .val (.int (0 : Int32))] [(.int (0 : Int32))])
      refine GoW.st (fun _ k => XS.iload X237.here hx rfl (hb hby at_201) rfl k) ?_
      show GoW _ _ _ _ _ _ _ T237 (mkF m 203 #[.val (.int p0), .val (.int p1), .val (.int p2), .val (.int p3), .val (.ref bA), .val (.ref bS), .val (.ref tt), .val (.ref b1), .val (.int (2 : Int32)), .val (.int (1 : Int32)), .val (.ref b219), .val (.ref b227), .val (.int (0 : Int32))] [(.int (0 : Int32)), (.int (0 : Int32))])
      refine GoW.st (fun _ k => XS.icmpNo X237.here hx rfl (hb hby at_203) rfl (teq (by decide : (0 : Int32) = (0 : Int32))).2 k) ?_
      show GoW _ _ _ _ _ _ _ T237 (mkF m 206 #[.val (.int p0), .val (.int p1), .val (.int p2), .val (.int p3), .val (.ref bA), .val (.ref bS), .val (.ref tt), .val (.ref b1), .val (.int (2 : Int32)), .val (.int (1 : Int32)), .val (.ref b219), .val (.ref b227), .val (.int (0 : Int32))] [])
      refine GoW.st (fun _ k => XS.iconst X237.here hx rfl (hb hby at_206) k) ?_
      show GoW _ _ _ _ _ _ _ T237 (mkF m 207 #[.val (.int p0), .val (.int p1), .val (.int p2), .val (.int p3), .val (.ref bA), .val (.ref bS), .val (.ref tt), .val (.ref b1), .val (.int (2 : Int32)), .val (.int (1 : Int32)), .val (.ref b219), .val (.ref b227), .val (.int (0 : Int32))] [(.int (1 : Int32))])
      refine GoW.st (fun _ k => XS.goto X237.here hx rfl (pc0 := 207) (pc' := 211) rfl (hb hby at_207) (by decide) (by decide) k) ?_
      show GoW _ _ _ _ _ _ _ T237 (mkF m 211 #[.val (.int p0), .val (.int p1), .val (.int p2), .val (.int p3), .val (.ref bA), .val (.ref bS), .val (.ref tt), .val (.ref b1), .val (.int (2 : Int32)), .val (.int (1 : Int32)), .val (.ref b219), .val (.ref b227), .val (.int (0 : Int32))] [(.int (1 : Int32))])
      refine GoW.ret X237 hS (by rw [e237]; exact hk235) hlk (v := some (.int (1 : Int32))) (fun h => by rw [hret] at h; cases h) (fun fs hr => retN X237 hx (t := .boolean) hret (by simp) (hb hby at_211) hr) ?_ (by decide) (by decide)
      show Q0 Z p0 p1 p2 p3 w_BYTE w_INT G1 h0 n0 (some (.int (1 : Int32))) T237.heap _
      rw [e237]
      exact ⟨rfl, N237⟩
    · rw [hk199]
      show GoW _ _ _ _ _ _ _ T23 (mkF m 132 #[.val (.int p0), .val (.int p1), .val (.int p2), .val (.int p3), .val (.ref bA), .val (.ref bS), .val (.ref tt), .val (.ref b1), .val (.int (2 : Int32)), .unset, .unset, .unset, .unset] [(.int (2 : Int32))])
      refine GoW.st (fun _ k => XS.istore X23.here hx rfl (hb hby at_132) rfl (l' := #[.val (.int p0), .val (.int p1), .val (.int p2), .val (.int p3), .val (.ref bA), .val (.ref bS), .val (.ref tt), .val (.ref b1), .val (.int (2 : Int32)), .val (.int (2 : Int32)), .unset, .unset, .unset]) rfl k) ?_
      show GoW _ _ _ _ _ _ _ T23 (mkF m 134 #[.val (.int p0), .val (.int p1), .val (.int p2), .val (.int p3), .val (.ref bA), .val (.ref bS), .val (.ref tt), .val (.ref b1), .val (.int (2 : Int32)), .val (.int (2 : Int32)), .unset, .unset, .unset] [])
      obtain ⟨T238, h238, X238, e238, E238, A238, D238, -, st238⟩ := newO X23 hx hZ hown (hw _ (List.mem_of_getElem? (i := 54) rfl)) (hw _ (List.mem_of_getElem? (i := 55) rfl)) (hw _ (List.mem_of_getElem? (i := 56) rfl)) e23 (g := (mkF m 134 #[.val (.int p0), .val (.int p1), .val (.int p2), .val (.int p3), .val (.ref bA), .val (.ref bS), .val (.ref tt), .val (.ref b1), .val (.int (2 : Int32)), .val (.int (2 : Int32)), .unset, .unset, .unset] [])) rfl (hb hby at_134) (by decide) (by decide)
      obtain ⟨b238, g238⟩ : ∃ z, z = h23.size := ⟨_, rfl⟩
      rw [← g238] at A238 D238 st238
      have ne239 : b2 ≠ b238 := Nat.ne_of_lt (Nat.lt_of_lt_of_le EE4__23.lt (Nat.le_of_eq g238.symm))
      have ne240 : b8 ≠ b238 := Nat.ne_of_lt (Nat.lt_of_lt_of_le EE11__23.lt (Nat.le_of_eq g238.symm))
      have ne241 : b15 ≠ b238 := Nat.ne_of_lt (Nat.lt_of_lt_of_le EE20__23.lt (Nat.le_of_eq g238.symm))
      have ne242 : b1 ≠ b238 := Nat.ne_of_lt (Nat.lt_of_lt_of_le V_b1__23.lt (Nat.le_of_eq g238.symm))
      have g_b238 : n0 ≤ b238 := Nat.le_trans Z23 (Nat.le_of_eq g238.symm)
      have EE4__238 := EE4__23.ext E238
      have EE11__238 := EE11__23.ext E238
      have EE20__238 := EE20__23.ext E238
      have V_b1__238 := V_b1__23.ext E238
      have Z238 : n0 ≤ h238.size := Nat.le_trans Z23 E238.1
      have hk238 := Nat.le_trans hk23 E238.1
      have F_variable_b238 : Fld Z h238 b238 "com/example/prudent_checker/prudentchecker/language/VariableReference" "variable" "Lcom/example/prudent_checker/prudentchecker/language/Variable;" .null := D238 (Or.inr (hw _ (List.mem_of_getElem? (i := 67) rfl))) (ty := (.object "com/example/prudent_checker/prudentchecker/language/Variable")) (by decide)
      refine GoW.st st238 ?_
      show GoW _ _ _ _ _ _ _ T238 (mkF m 137 #[.val (.int p0), .val (.int p1), .val (.int p2), .val (.int p3), .val (.ref bA), .val (.ref bS), .val (.ref tt), .val (.ref b1), .val (.int (2 : Int32)), .val (.int (2 : Int32)), .unset, .unset, .unset] [(.ref b238)])
      refine GoW.st (fun _ k => XS.dup X238.here hx rfl (hb hby at_137) rfl rfl k) ?_
      show GoW _ _ _ _ _ _ _ T238 (mkF m 138 #[.val (.int p0), .val (.int p1), .val (.int p2), .val (.int p3), .val (.ref bA), .val (.ref bS), .val (.ref tt), .val (.ref b1), .val (.int (2 : Int32)), .val (.int (2 : Int32)), .unset, .unset, .unset] [(.ref b238), (.ref b238)])
      refine GoW.st (fun _ k => XS.aload X238.here hx rfl (hb hby at_138) rfl rfl k) ?_
      show GoW _ _ _ _ _ _ _ T238 (mkF m 140 #[.val (.int p0), .val (.int p1), .val (.int p2), .val (.int p3), .val (.ref bA), .val (.ref bS), .val (.ref tt), .val (.ref b1), .val (.int (2 : Int32)), .val (.int (2 : Int32)), .unset, .unset, .unset] [(.ref b1), (.ref b238), (.ref b238)])
      refine GoW.st (fun _ k => XS.iload X238.here hx rfl (hb hby at_140) rfl k) ?_
      show GoW _ _ _ _ _ _ _ T238 (mkF m 142 #[.val (.int p0), .val (.int p1), .val (.int p2), .val (.int p3), .val (.ref bA), .val (.ref bS), .val (.ref tt), .val (.ref b1), .val (.int (2 : Int32)), .val (.int (2 : Int32)), .unset, .unset, .unset] [(.int (2 : Int32)), (.ref b1), (.ref b238), (.ref b238)])
      obtain ⟨cl243, Ar243, qq243, SS243, NN243, HH243, GG243⟩ := id V_b1__238
      have hin244 : ¬ ((2 : Int32) < 0 ∨ cl243.slots.size ≤ ((2 : Int32)).toNatClampNeg) := inb_of SS243 ⟨by decide, by decide⟩
      refine GoW.st (fun _ k => X238.aaload hx (j := (2 : Int32)) (v := (.ref b15)) (by rw [e238]; exact Ar243.1) (State.isArrayOf_alike hZ.alike Ar243.2.1) rfl Ar243.2.2 hin244 (HH243.at hin244 rfl) (g := (mkF m 142 #[.val (.int p0), .val (.int p1), .val (.int p2), .val (.int p3), .val (.ref bA), .val (.ref bS), .val (.ref tt), .val (.ref b1), .val (.int (2 : Int32)), .val (.int (2 : Int32)), .unset, .unset, .unset] [(.int (2 : Int32)), (.ref b1), (.ref b238), (.ref b238)])) rfl rfl (hb hby at_142) _ k) ?_
      show GoW _ _ _ _ _ _ _ T238 (mkF m 143 #[.val (.int p0), .val (.int p1), .val (.int p2), .val (.int p3), .val (.ref bA), .val (.ref bS), .val (.ref tt), .val (.ref b1), .val (.int (2 : Int32)), .val (.int (2 : Int32)), .unset, .unset, .unset] [(.ref b15), (.ref b238), (.ref b238)])
      obtain ⟨_, _, ⟨T245, L245, k245, n245⟩, -, X245, ⟨Lc245, hQ245, l245, y245, z245⟩, st245⟩ := X238.specialBack hx (y := (⟨"com/example/prudent_checker/prudentchecker/language/VariableReference", "<init>", "(Lcom/example/prudent_checker/prudentchecker/language/Variable;)V"⟩ : MethodName)) rfl hown (mvT hZ (hw _ (List.mem_of_getElem? (i := 57) rfl))) (mvT hZ (hw _ (List.mem_of_getElem? (i := 58) rfl))) (mvT hZ (hw _ (List.mem_of_getElem? (i := 59) rfl))) (by decide) (backOf (W := 1) (rm8 l Z a0 hw [] b238 b15 .null h238 n0 Z238 A238 F_variable_b238 g_b238) hZ (hw _ (List.mem_of_getElem? (i := 59) rfl)) (hw _ (List.mem_of_getElem? (i := 56) rfl)) (by decide) (by decide)) (g := (mkF m 143 #[.val (.int p0), .val (.int p1), .val (.int p2), .val (.int p3), .val (.ref bA), .val (.ref bS), .val (.ref tt), .val (.ref b1), .val (.int (2 : Int32)), .val (.int (2 : Int32)), .unset, .unset, .unset] [(.ref b15), (.ref b238), (.ref b238)])) rfl (by rw [hml]; rfl) (Steps.refl _) (a := b238) (argsL := [(.ref b15)]) (rest := [(.ref b238)]) (lenOf pd_2 rfl) rfl (by show 2 * 0 + _ ≤ _; exact Nat.le_of_eq rfl) (hb hby at_143) (fun _ _ => ⟨rfl, e238, (by decide : 10 + 0 ≤ _), (by decide : 32 + 0 ≤ _)⟩)
      dsimp only [Pt.U, Pt.locs, Pt.cells, Pt.slots] at X245 l245 y245 z245 st245 hQ245
      subst l245 y245 z245
      generalize e245 : T245.heap = h245 at hQ245
      obtain ⟨rfl, N245q, K245, EE245, FF_variable_245⟩ := hQ245
      have N245 := Fr.app N23 N245q
      refine GoW.st (fun _ k => st245.trans k) ?_
      have EE4__245 := EE4__238.keep K245
      have EE11__245 := EE11__238.keep K245
      have EE20__245 := EE20__238.keep K245
      have V_b1__245 := V_b1__238.keep K245 (ninS ne242 (nin0))
      have A238__245 := A238.keep K245
      have Z245 : n0 ≤ h245.size := Nat.le_trans Z238 K245.1
      have hk245 := Nat.le_trans hk238 K245.1
      rw [show (val_8_variable b238 b15 .null) = (.ref b15) from by unfold val_8_variable; rfl] at FF_variable_245
      have F_variable_b238__245 := FF_variable_245
      show GoW _ _ _ _ _ _ _ T245 (mkF m 146 #[.val (.int p0), .val (.int p1), .val (.int p2), .val (.int p3), .val (.ref bA), .val (.ref bS), .val (.ref tt), .val (.ref b1), .val (.int (2 : Int32)), .val (.int (2 : Int32)), .unset, .unset, .unset] [(.ref b238)])
      refine GoW.st (fun _ k => XS.astore X245.here hx rfl (hb hby at_146) rfl rfl (l' := #[.val (.int p0), .val (.int p1), .val (.int p2), .val (.int p3), .val (.ref bA), .val (.ref bS), .val (.ref tt), .val (.ref b1), .val (.int (2 : Int32)), .val (.int (2 : Int32)), .val (.ref b238), .unset, .unset]) rfl k) ?_
      show GoW _ _ _ _ _ _ _ T245 (mkF m 148 #[.val (.int p0), .val (.int p1), .val (.int p2), .val (.int p3), .val (.ref bA), .val (.ref bS), .val (.ref tt), .val (.ref b1), .val (.int (2 : Int32)), .val (.int (2 : Int32)), .val (.ref b238), .unset, .unset] [])
      refine GoW.st (fun _ k => XS.iload X245.here hx rfl (hb hby at_148) rfl k) ?_
      show GoW _ _ _ _ _ _ _ T245 (mkF m 150 #[.val (.int p0), .val (.int p1), .val (.int p2), .val (.int p3), .val (.ref bA), .val (.ref bS), .val (.ref tt), .val (.ref b1), .val (.int (2 : Int32)), .val (.int (2 : Int32)), .val (.ref b238), .unset, .unset] [(.int (2 : Int32))])
      refine GoW.st (fun _ k => XS.iconst X245.here hx rfl (hb hby at_150) k) ?_
      show GoW _ _ _ _ _ _ _ T245 (mkF m 151 #[.val (.int p0), .val (.int p1), .val (.int p2), .val (.int p3), .val (.ref bA), .val (.ref bS), .val (.ref tt), .val (.ref b1), .val (.int (2 : Int32)), .val (.int (2 : Int32)), .val (.ref b238), .unset, .unset] [(.int (3 : Int32)), (.int (2 : Int32))])
      refine GoW.st (fun _ k => XS.icmpNo X245.here hx rfl (hb hby at_151) rfl (tlt (by decide : (2 : Int32) < (3 : Int32))).2.1 k) ?_
      show GoW _ _ _ _ _ _ _ T245 (mkF m 154 #[.val (.int p0), .val (.int p1), .val (.int p2), .val (.int p3), .val (.ref bA), .val (.ref bS), .val (.ref tt), .val (.ref b1), .val (.int (2 : Int32)), .val (.int (2 : Int32)), .val (.ref b238), .unset, .unset] [])
      obtain ⟨T246, h246, X246, e246, E246, A246, D246, -, st246⟩ := newO X245 hx hZ hown (hw _ (List.mem_of_getElem? (i := 54) rfl)) (hw _ (List.mem_of_getElem? (i := 55) rfl)) (hw _ (List.mem_of_getElem? (i := 56) rfl)) e245 (g := (mkF m 154 #[.val (.int p0), .val (.int p1), .val (.int p2), .val (.int p3), .val (.ref bA), .val (.ref bS), .val (.ref tt), .val (.ref b1), .val (.int (2 : Int32)), .val (.int (2 : Int32)), .val (.ref b238), .unset, .unset] [])) rfl (hb hby at_154) (by decide) (by decide)
      obtain ⟨b246, g246⟩ : ∃ z, z = h245.size := ⟨_, rfl⟩
      rw [← g246] at A246 D246 st246
      have ne247 : b2 ≠ b246 := Nat.ne_of_lt (Nat.lt_of_lt_of_le EE4__245.lt (Nat.le_of_eq g246.symm))
      have ne248 : b8 ≠ b246 := Nat.ne_of_lt (Nat.lt_of_lt_of_le EE11__245.lt (Nat.le_of_eq g246.symm))
      have ne249 : b15 ≠ b246 := Nat.ne_of_lt (Nat.lt_of_lt_of_le EE20__245.lt (Nat.le_of_eq g246.symm))
      have ne250 : b1 ≠ b246 := Nat.ne_of_lt (Nat.lt_of_lt_of_le V_b1__245.lt (Nat.le_of_eq g246.symm))
      have ne251 : b238 ≠ b246 := Nat.ne_of_lt (Nat.lt_of_lt_of_le EE245.lt (Nat.le_of_eq g246.symm))
      have g_b246 : n0 ≤ b246 := Nat.le_trans Z245 (Nat.le_of_eq g246.symm)
      have EE4__246 := EE4__245.ext E246
      have EE11__246 := EE11__245.ext E246
      have EE20__246 := EE20__245.ext E246
      have V_b1__246 := V_b1__245.ext E246
      have EE245__246 := EE245.ext E246
      have F_variable_b238__246 := F_variable_b238__245.ext E246
      have Z246 : n0 ≤ h246.size := Nat.le_trans Z245 E246.1
      have hk246 := Nat.le_trans hk245 E246.1
      have F_variable_b246 : Fld Z h246 b246 "com/example/prudent_checker/prudentchecker/language/VariableReference" "variable" "Lcom/example/prudent_checker/prudentchecker/language/Variable;" .null := D246 (Or.inr (hw _ (List.mem_of_getElem? (i := 67) rfl))) (ty := (.object "com/example/prudent_checker/prudentchecker/language/Variable")) (by decide)
      refine GoW.st st246 ?_
      show GoW _ _ _ _ _ _ _ T246 (mkF m 157 #[.val (.int p0), .val (.int p1), .val (.int p2), .val (.int p3), .val (.ref bA), .val (.ref bS), .val (.ref tt), .val (.ref b1), .val (.int (2 : Int32)), .val (.int (2 : Int32)), .val (.ref b238), .unset, .unset] [(.ref b246)])
      refine GoW.st (fun _ k => XS.dup X246.here hx rfl (hb hby at_157) rfl rfl k) ?_
      show GoW _ _ _ _ _ _ _ T246 (mkF m 158 #[.val (.int p0), .val (.int p1), .val (.int p2), .val (.int p3), .val (.ref bA), .val (.ref bS), .val (.ref tt), .val (.ref b1), .val (.int (2 : Int32)), .val (.int (2 : Int32)), .val (.ref b238), .unset, .unset] [(.ref b246), (.ref b246)])
      refine GoW.st (fun _ k => XS.aload X246.here hx rfl (hb hby at_158) rfl rfl k) ?_
      show GoW _ _ _ _ _ _ _ T246 (mkF m 160 #[.val (.int p0), .val (.int p1), .val (.int p2), .val (.int p3), .val (.ref bA), .val (.ref bS), .val (.ref tt), .val (.ref b1), .val (.int (2 : Int32)), .val (.int (2 : Int32)), .val (.ref b238), .unset, .unset] [(.ref b1), (.ref b246), (.ref b246)])
      refine GoW.st (fun _ k => XS.iload X246.here hx rfl (hb hby at_160) rfl k) ?_
      show GoW _ _ _ _ _ _ _ T246 (mkF m 162 #[.val (.int p0), .val (.int p1), .val (.int p2), .val (.int p3), .val (.ref bA), .val (.ref bS), .val (.ref tt), .val (.ref b1), .val (.int (2 : Int32)), .val (.int (2 : Int32)), .val (.ref b238), .unset, .unset] [(.int (2 : Int32)), (.ref b1), (.ref b246), (.ref b246)])
      obtain ⟨cl252, Ar252, qq252, SS252, NN252, HH252, GG252⟩ := id V_b1__246
      have hin253 : ¬ ((2 : Int32) < 0 ∨ cl252.slots.size ≤ ((2 : Int32)).toNatClampNeg) := inb_of SS252 ⟨by decide, by decide⟩
      refine GoW.st (fun _ k => X246.aaload hx (j := (2 : Int32)) (v := (.ref b15)) (by rw [e246]; exact Ar252.1) (State.isArrayOf_alike hZ.alike Ar252.2.1) rfl Ar252.2.2 hin253 (HH252.at hin253 rfl) (g := (mkF m 162 #[.val (.int p0), .val (.int p1), .val (.int p2), .val (.int p3), .val (.ref bA), .val (.ref bS), .val (.ref tt), .val (.ref b1), .val (.int (2 : Int32)), .val (.int (2 : Int32)), .val (.ref b238), .unset, .unset] [(.int (2 : Int32)), (.ref b1), (.ref b246), (.ref b246)])) rfl rfl (hb hby at_162) _ k) ?_
      show GoW _ _ _ _ _ _ _ T246 (mkF m 163 #[.val (.int p0), .val (.int p1), .val (.int p2), .val (.int p3), .val (.ref bA), .val (.ref bS), .val (.ref tt), .val (.ref b1), .val (.int (2 : Int32)), .val (.int (2 : Int32)), .val (.ref b238), .unset, .unset] [(.ref b15), (.ref b246), (.ref b246)])
      obtain ⟨_, _, ⟨T254, L254, k254, n254⟩, -, X254, ⟨Lc254, hQ254, l254, y254, z254⟩, st254⟩ := X246.specialBack hx (y := (⟨"com/example/prudent_checker/prudentchecker/language/VariableReference", "<init>", "(Lcom/example/prudent_checker/prudentchecker/language/Variable;)V"⟩ : MethodName)) rfl hown (mvT hZ (hw _ (List.mem_of_getElem? (i := 57) rfl))) (mvT hZ (hw _ (List.mem_of_getElem? (i := 58) rfl))) (mvT hZ (hw _ (List.mem_of_getElem? (i := 59) rfl))) (by decide) (backOf (W := 1) (rm8 l Z a0 hw [] b246 b15 .null h246 n0 Z246 A246 F_variable_b246 g_b246) hZ (hw _ (List.mem_of_getElem? (i := 59) rfl)) (hw _ (List.mem_of_getElem? (i := 56) rfl)) (by decide) (by decide)) (g := (mkF m 163 #[.val (.int p0), .val (.int p1), .val (.int p2), .val (.int p3), .val (.ref bA), .val (.ref bS), .val (.ref tt), .val (.ref b1), .val (.int (2 : Int32)), .val (.int (2 : Int32)), .val (.ref b238), .unset, .unset] [(.ref b15), (.ref b246), (.ref b246)])) rfl (by rw [hml]; rfl) (Steps.refl _) (a := b246) (argsL := [(.ref b15)]) (rest := [(.ref b246)]) (lenOf pd_2 rfl) rfl (by show 2 * 0 + _ ≤ _; exact Nat.le_of_eq rfl) (hb hby at_163) (fun _ _ => ⟨rfl, e246, (by decide : 11 + 0 ≤ _), (by decide : 33 + 0 ≤ _)⟩)
      dsimp only [Pt.U, Pt.locs, Pt.cells, Pt.slots] at X254 l254 y254 z254 st254 hQ254
      subst l254 y254 z254
      generalize e254 : T254.heap = h254 at hQ254
      obtain ⟨rfl, N254q, K254, EE254, FF_variable_254⟩ := hQ254
      have N254 := Fr.app N245 N254q
      refine GoW.st (fun _ k => st254.trans k) ?_
      have EE4__254 := EE4__246.keep K254
      have EE11__254 := EE11__246.keep K254
      have EE20__254 := EE20__246.keep K254
      have V_b1__254 := V_b1__246.keep K254 (ninS ne250 (nin0))
      have EE245__254 := EE245__246.keep K254
      have F_variable_b238__254 := F_variable_b238__246.keep K254 (ninS ne251 (nin0))
      have A246__254 := A246.keep K254
      have Z254 : n0 ≤ h254.size := Nat.le_trans Z246 K254.1
      have hk254 := Nat.le_trans hk246 K254.1
      rw [show (val_8_variable b246 b15 .null) = (.ref b15) from by unfold val_8_variable; rfl] at FF_variable_254
      have F_variable_b246__254 := FF_variable_254
      show GoW _ _ _ _ _ _ _ T254 (mkF m 166 #[.val (.int p0), .val (.int p1), .val (.int p2), .val (.int p3), .val (.ref bA), .val (.ref bS), .val (.ref tt), .val (.ref b1), .val (.int (2 : Int32)), .val (.int (2 : Int32)), .val (.ref b238), .unset, .unset] [(.ref b246)])
      refine GoW.st (fun _ k => XS.astore X254.here hx rfl (hb hby at_166) rfl rfl (l' := #[.val (.int p0), .val (.int p1), .val (.int p2), .val (.int p3), .val (.ref bA), .val (.ref bS), .val (.ref tt), .val (.ref b1), .val (.int (2 : Int32)), .val (.int (2 : Int32)), .val (.ref b238), .val (.ref b246), .unset]) rfl k) ?_
      show GoW _ _ _ _ _ _ _ T254 (mkF m 168 #[.val (.int p0), .val (.int p1), .val (.int p2), .val (.int p3), .val (.ref bA), .val (.ref bS), .val (.ref tt), .val (.ref b1), .val (.int (2 : Int32)), .val (.int (2 : Int32)), .val (.ref b238), .val (.ref b246), .unset] [])
      refine GoW.st (fun _ k => XS.iload X254.here hx rfl (hb hby at_168) rfl k) ?_
      show GoW _ _ _ _ _ _ _ T254 (mkF m 170 #[.val (.int p0), .val (.int p1), .val (.int p2), .val (.int p3), .val (.ref bA), .val (.ref bS), .val (.ref tt), .val (.ref b1), .val (.int (2 : Int32)), .val (.int (2 : Int32)), .val (.ref b238), .val (.ref b246), .unset] [(.int (2 : Int32))])
      refine GoW.st (fun _ k => XS.iload X254.here hx rfl (hb hby at_170) rfl k) ?_
      show GoW _ _ _ _ _ _ _ T254 (mkF m 172 #[.val (.int p0), .val (.int p1), .val (.int p2), .val (.int p3), .val (.ref bA), .val (.ref bS), .val (.ref tt), .val (.ref b1), .val (.int (2 : Int32)), .val (.int (2 : Int32)), .val (.ref b238), .val (.ref b246), .unset] [(.int (2 : Int32)), (.int (2 : Int32))])
      refine GoW.st (fun _ k => XS.icmpNo X254.here hx rfl (hb hby at_172) rfl (teq (by decide : (2 : Int32) = (2 : Int32))).2 k) ?_
      show GoW _ _ _ _ _ _ _ T254 (mkF m 175 #[.val (.int p0), .val (.int p1), .val (.int p2), .val (.int p3), .val (.ref bA), .val (.ref bS), .val (.ref tt), .val (.ref b1), .val (.int (2 : Int32)), .val (.int (2 : Int32)), .val (.ref b238), .val (.ref b246), .unset] [])
      refine GoW.st (fun _ k => XS.iconst X254.here hx rfl (hb hby at_175) k) ?_
      show GoW _ _ _ _ _ _ _ T254 (mkF m 176 #[.val (.int p0), .val (.int p1), .val (.int p2), .val (.int p3), .val (.ref bA), .val (.ref bS), .val (.ref tt), .val (.ref b1), .val (.int (2 : Int32)), .val (.int (2 : Int32)), .val (.ref b238), .val (.ref b246), .unset] [(.int (1 : Int32))])
      refine GoW.st (fun _ k => XS.goto X254.here hx rfl (pc0 := 176) (pc' := 180) rfl (hb hby at_176) (by decide) (by decide) k) ?_
      show GoW _ _ _ _ _ _ _ T254 (mkF m 180 #[.val (.int p0), .val (.int p1), .val (.int p2), .val (.int p3), .val (.ref bA), .val (.ref bS), .val (.ref tt), .val (.ref b1), .val (.int (2 : Int32)), .val (.int (2 : Int32)), .val (.ref b238), .val (.ref b246), .unset] [(.int (1 : Int32))])
      refine GoW.st (fun _ k => XS.istore X254.here hx rfl (hb hby at_180) rfl (l' := #[.val (.int p0), .val (.int p1), .val (.int p2), .val (.int p3), .val (.ref bA), .val (.ref bS), .val (.ref tt), .val (.ref b1), .val (.int (2 : Int32)), .val (.int (2 : Int32)), .val (.ref b238), .val (.ref b246), .val (.int (1 : Int32))]) rfl k) ?_
      show GoW _ _ _ _ _ _ _ T254 (mkF m 182 #[.val (.int p0), .val (.int p1), .val (.int p2), .val (.int p3), .val (.ref bA), .val (.ref bS), .val (.ref tt), .val (.ref b1), .val (.int (2 : Int32)), .val (.int (2 : Int32)), .val (.ref b238), .val (.ref b246), .val (.int (1 : Int32))] [])
      refine GoW.st (fun _ k => XS.aload X254.here hx rfl (hb hby at_182) rfl rfl k) ?_
      show GoW _ _ _ _ _ _ _ T254 (mkF m 184 #[.val (.int p0), .val (.int p1), .val (.int p2), .val (.int p3), .val (.ref bA), .val (.ref bS), .val (.ref tt), .val (.ref b1), .val (.int (2 : Int32)), .val (.int (2 : Int32)), .val (.ref b238), .val (.ref b246), .val (.int (1 : Int32))] [(.ref b238)])
      refine GoW.st (fun _ k => XS.aload X254.here hx rfl (hb hby at_184) rfl rfl k) ?_
      show GoW _ _ _ _ _ _ _ T254 (mkF m 186 #[.val (.int p0), .val (.int p1), .val (.int p2), .val (.int p3), .val (.ref bA), .val (.ref bS), .val (.ref tt), .val (.ref b1), .val (.int (2 : Int32)), .val (.int (2 : Int32)), .val (.ref b238), .val (.ref b246), .val (.int (1 : Int32))] [(.ref b246), (.ref b238)])
      obtain ⟨cq255, kq255, q255a, q255b, q255c⟩ := isOf hZ e254 EE245__254
      obtain ⟨_, _, ⟨T255, L255, k255, n255⟩, -, X255, ⟨Lc255, hQ255, l255, y255, z255⟩, st255⟩ := X254.virtualBack hx (y := (⟨"com/example/prudent_checker/prudentchecker/language/VariableReference", "equals", "(Ljava/lang/Object;)Z"⟩ : MethodName)) (z := (⟨"com/example/prudent_checker/prudentchecker/language/VariableReference", "equals", "(Ljava/lang/Object;)Z"⟩ : MethodName)) hown (mvT hZ (hw _ (List.mem_of_getElem? (i := 68) rfl))) (mvT hZ (hw _ (List.mem_of_getElem? (i := 69) rfl))) (notFace_of_selects (args := #[]) (mvT hZ (hw _ (List.mem_of_getElem? (i := 71) rfl)))) (mvT hZ (hw _ (List.mem_of_getElem? (i := 71) rfl))) (mvT hZ (hw _ (List.mem_of_getElem? (i := 70) rfl))) (by decide) (backOf (W := 0) (rm10r l Z a0 hw [] b238 b246 b15 b15 h254 n0 Z254 EE254 F_variable_b238__254 F_variable_b246__254) hZ (hw _ (List.mem_of_getElem? (i := 72) rfl)) (hw _ (List.mem_of_getElem? (i := 56) rfl)) (by decide) (by decide)) q255a q255c (g := (mkF m 186 #[.val (.int p0), .val (.int p1), .val (.int p2), .val (.int p3), .val (.ref bA), .val (.ref bS), .val (.ref tt), .val (.ref b1), .val (.int (2 : Int32)), .val (.int (2 : Int32)), .val (.ref b238), .val (.ref b246), .val (.int (1 : Int32))] [(.ref b246), (.ref b238)])) rfl (by rw [hml]; rfl) (Steps.refl _) (argsL := [(.ref b246)]) (rest := []) (lenOf pd_3 rfl) rfl (by show 2 * 0 + _ ≤ _; exact Nat.le_of_eq rfl) (hb hby at_186) (fun _ _ => ⟨rfl, e254, (by decide : 11 + 0 ≤ _), (by decide : 33 + 0 ≤ _)⟩)
      dsimp only [Pt.U, Pt.locs, Pt.cells, Pt.slots] at X255 l255 y255 z255 st255 hQ255
      subst l255 y255 z255
      obtain ⟨rfl, N255q, e255⟩ := hQ255
      have N255 := Fr.app N254 N255q
      refine GoW.st (fun _ k => st255.trans k) ?_
      show GoW _ _ _ _ _ _ _ T255 (mkF m 189 #[.val (.int p0), .val (.int p1), .val (.int p2), .val (.int p3), .val (.ref bA), .val (.ref bS), .val (.ref tt), .val (.ref b1), .val (.int (2 : Int32)), .val (.int (2 : Int32)), .val (.ref b238), .val (.ref b246), .val (.int (1 : Int32))] [(.int (val_10r b238 b246 b15 b15))])
      rw [show (val_10r b238 b246 b15 b15) = (1 : Int32) from by unfold val_10r; rw [if_pos rfl]]
      show GoW _ _ _ _ _ _ _ T255 (mkF m 189 #[.val (.int p0), .val (.int p1), .val (.int p2), .val (.int p3), .val (.ref bA), .val (.ref bS), .val (.ref tt), .val (.ref b1), .val (.int (2 : Int32)), .val (.int (2 : Int32)), .val (.ref b238), .val (.ref b246), .val (.int (1 : Int32))] [(.int (1 : Int32))])
      refine GoW.st (fun _ k => XS.iload X255.here hx rfl (hb hby at_189) rfl k) ?_
      show GoW _ _ _ _ _ _ _ T255 (mkF m 191 #[.val (.int p0), .val (.int p1), .val (.int p2), .val (.int p3), .val (.ref bA), .val (.ref bS), .val (.ref tt), .val (.ref b1), .val (.int (2 : Int32)), .val (.int (2 : Int32)), .val (.ref b238), .val (.ref b246), .val (.int (1 : Int32))] [(.int (1 : Int32)), (.int (1 : Int32))])
      refine GoW.st (fun _ k => XS.icmpNo X255.here hx rfl (hb hby at_191) rfl (teq (by decide : (1 : Int32) = (1 : Int32))).2 k) ?_
      show GoW _ _ _ _ _ _ _ T255 (mkF m 194 #[.val (.int p0), .val (.int p1), .val (.int p2), .val (.int p3), .val (.ref bA), .val (.ref bS), .val (.ref tt), .val (.ref b1), .val (.int (2 : Int32)), .val (.int (2 : Int32)), .val (.ref b238), .val (.ref b246), .val (.int (1 : Int32))] [])
      refine GoW.st (fun _ k => XS.aload X255.here hx rfl (hb hby at_194) rfl rfl k) ?_
      show GoW _ _ _ _ _ _ _ T255 (mkF m 196 #[.val (.int p0), .val (.int p1), .val (.int p2), .val (.int p3), .val (.ref bA), .val (.ref bS), .val (.ref tt), .val (.ref b1), .val (.int (2 : Int32)), .val (.int (2 : Int32)), .val (.ref b238), .val (.ref b246), .val (.int (1 : Int32))] [(.ref b246)])
      refine GoW.st (fun _ k => XS.aload X255.here hx rfl (hb hby at_196) rfl rfl k) ?_
      show GoW _ _ _ _ _ _ _ T255 (mkF m 198 #[.val (.int p0), .val (.int p1), .val (.int p2), .val (.int p3), .val (.ref bA), .val (.ref bS), .val (.ref tt), .val (.ref b1), .val (.int (2 : Int32)), .val (.int (2 : Int32)), .val (.ref b238), .val (.ref b246), .val (.int (1 : Int32))] [(.ref b238), (.ref b246)])
      obtain ⟨cq256, kq256, q256a, q256b, q256c⟩ := isOf hZ e255 EE254
      obtain ⟨_, _, ⟨T256, L256, k256, n256⟩, -, X256, ⟨Lc256, hQ256, l256, y256, z256⟩, st256⟩ := X255.virtualBack hx (y := (⟨"com/example/prudent_checker/prudentchecker/language/VariableReference", "equals", "(Ljava/lang/Object;)Z"⟩ : MethodName)) (z := (⟨"com/example/prudent_checker/prudentchecker/language/VariableReference", "equals", "(Ljava/lang/Object;)Z"⟩ : MethodName)) hown (mvT hZ (hw _ (List.mem_of_getElem? (i := 68) rfl))) (mvT hZ (hw _ (List.mem_of_getElem? (i := 69) rfl))) (notFace_of_selects (args := #[]) (mvT hZ (hw _ (List.mem_of_getElem? (i := 71) rfl)))) (mvT hZ (hw _ (List.mem_of_getElem? (i := 71) rfl))) (mvT hZ (hw _ (List.mem_of_getElem? (i := 70) rfl))) (by decide) (backOf (W := 0) (rm10r l Z a0 hw [] b246 b238 b15 b15 h254 n0 Z254 EE245__254 F_variable_b246__254 F_variable_b238__254) hZ (hw _ (List.mem_of_getElem? (i := 72) rfl)) (hw _ (List.mem_of_getElem? (i := 56) rfl)) (by decide) (by decide)) q256a q256c (g := (mkF m 198 #[.val (.int p0), .val (.int p1), .val (.int p2), .val (.int p3), .val (.ref bA), .val (.ref bS), .val (.ref tt), .val (.ref b1), .val (.int (2 : Int32)), .val (.int (2 : Int32)), .val (.ref b238), .val (.ref b246), .val (.int (1 : Int32))] [(.ref b238), (.ref b246)])) rfl (by rw [hml]; rfl) (Steps.refl _) (argsL := [(.ref b238)]) (rest := []) (lenOf pd_3 rfl) rfl (by show 2 * 0 + _ ≤ _; exact Nat.le_of_eq rfl) (hb hby at_198) (fun _ _ => ⟨rfl, e255, (by decide : 11 + 0 ≤ _), (by decide : 33 + 0 ≤ _)⟩)
      dsimp only [Pt.U, Pt.locs, Pt.cells, Pt.slots] at X256 l256 y256 z256 st256 hQ256
      subst l256 y256 z256
      obtain ⟨rfl, N256q, e256⟩ := hQ256
      have N256 := Fr.app N255 N256q
      refine GoW.st (fun _ k => st256.trans k) ?_
      show GoW _ _ _ _ _ _ _ T256 (mkF m 201 #[.val (.int p0), .val (.int p1), .val (.int p2), .val (.int p3), .val (.ref bA), .val (.ref bS), .val (.ref tt), .val (.ref b1), .val (.int (2 : Int32)), .val (.int (2 : Int32)), .val (.ref b238), .val (.ref b246), .val (.int (1 : Int32))] [(.int (val_10r b246 b238 b15 b15))])
      rw [show (val_10r b246 b238 b15 b15) = (1 : Int32) from by unfold val_10r; rw [if_pos rfl]]
      show GoW _ _ _ _ _ _ _ T256 (mkF m 201 #[.val (.int p0), .val (.int p1), .val (.int p2), .val (.int p3), .val (.ref bA), .val (.ref bS), .val (.ref tt), .val (.ref b1), .val (.int (2 : Int32)), .val (.int (2 : Int32)), .val (.ref b238), .val (.ref b246), .val (.int (1 : Int32))] [(.int (1 : Int32))])
      refine GoW.st (fun _ k => XS.iload X256.here hx rfl (hb hby at_201) rfl k) ?_
      show GoW _ _ _ _ _ _ _ T256 (mkF m 203 #[.val (.int p0), .val (.int p1), .val (.int p2), .val (.int p3), .val (.ref bA), .val (.ref bS), .val (.ref tt), .val (.ref b1), .val (.int (2 : Int32)), .val (.int (2 : Int32)), .val (.ref b238), .val (.ref b246), .val (.int (1 : Int32))] [(.int (1 : Int32)), (.int (1 : Int32))])
      refine GoW.st (fun _ k => XS.icmpNo X256.here hx rfl (hb hby at_203) rfl (teq (by decide : (1 : Int32) = (1 : Int32))).2 k) ?_
      show GoW _ _ _ _ _ _ _ T256 (mkF m 206 #[.val (.int p0), .val (.int p1), .val (.int p2), .val (.int p3), .val (.ref bA), .val (.ref bS), .val (.ref tt), .val (.ref b1), .val (.int (2 : Int32)), .val (.int (2 : Int32)), .val (.ref b238), .val (.ref b246), .val (.int (1 : Int32))] [])
      refine GoW.st (fun _ k => XS.iconst X256.here hx rfl (hb hby at_206) k) ?_
      show GoW _ _ _ _ _ _ _ T256 (mkF m 207 #[.val (.int p0), .val (.int p1), .val (.int p2), .val (.int p3), .val (.ref bA), .val (.ref bS), .val (.ref tt), .val (.ref b1), .val (.int (2 : Int32)), .val (.int (2 : Int32)), .val (.ref b238), .val (.ref b246), .val (.int (1 : Int32))] [(.int (1 : Int32))])
      refine GoW.st (fun _ k => XS.goto X256.here hx rfl (pc0 := 207) (pc' := 211) rfl (hb hby at_207) (by decide) (by decide) k) ?_
      show GoW _ _ _ _ _ _ _ T256 (mkF m 211 #[.val (.int p0), .val (.int p1), .val (.int p2), .val (.int p3), .val (.ref bA), .val (.ref bS), .val (.ref tt), .val (.ref b1), .val (.int (2 : Int32)), .val (.int (2 : Int32)), .val (.ref b238), .val (.ref b246), .val (.int (1 : Int32))] [(.int (1 : Int32))])
      refine GoW.ret X256 hS (by rw [e256]; exact hk254) hlk (v := some (.int (1 : Int32))) (fun h => by rw [hret] at h; cases h) (fun fs hr => retN X256 hx (t := .boolean) hret (by simp) (hb hby at_211) hr) ?_ (by decide) (by decide)
      show Q0 Z p0 p1 p2 p3 w_BYTE w_INT G1 h0 n0 (some (.int (1 : Int32))) T256.heap _
      rw [e256]
      exact ⟨rfl, N256⟩
    · rw [hk199]
      show GoW _ _ _ _ _ _ _ T23 (mkF m 132 #[.val (.int p0), .val (.int p1), .val (.int p2), .val (.int p3), .val (.ref bA), .val (.ref bS), .val (.ref tt), .val (.ref b1), .val (.int (2 : Int32)), .unset, .unset, .unset, .unset] [(.int (3 : Int32))])
      refine GoW.st (fun _ k => XS.istore X23.here hx rfl (hb hby at_132) rfl (l' := #[.val (.int p0), .val (.int p1), .val (.int p2), .val (.int p3), .val (.ref bA), .val (.ref bS), .val (.ref tt), .val (.ref b1), .val (.int (2 : Int32)), .val (.int (3 : Int32)), .unset, .unset, .unset]) rfl k) ?_
      show GoW _ _ _ _ _ _ _ T23 (mkF m 134 #[.val (.int p0), .val (.int p1), .val (.int p2), .val (.int p3), .val (.ref bA), .val (.ref bS), .val (.ref tt), .val (.ref b1), .val (.int (2 : Int32)), .val (.int (3 : Int32)), .unset, .unset, .unset] [])
      obtain ⟨T257, h257, X257, e257, E257, A257, D257, -, st257⟩ := newO X23 hx hZ hown (hw _ (List.mem_of_getElem? (i := 54) rfl)) (hw _ (List.mem_of_getElem? (i := 55) rfl)) (hw _ (List.mem_of_getElem? (i := 56) rfl)) e23 (g := (mkF m 134 #[.val (.int p0), .val (.int p1), .val (.int p2), .val (.int p3), .val (.ref bA), .val (.ref bS), .val (.ref tt), .val (.ref b1), .val (.int (2 : Int32)), .val (.int (3 : Int32)), .unset, .unset, .unset] [])) rfl (hb hby at_134) (by decide) (by decide)
      obtain ⟨b257, g257⟩ : ∃ z, z = h23.size := ⟨_, rfl⟩
      rw [← g257] at A257 D257 st257
      have ne258 : b2 ≠ b257 := Nat.ne_of_lt (Nat.lt_of_lt_of_le EE4__23.lt (Nat.le_of_eq g257.symm))
      have ne259 : b8 ≠ b257 := Nat.ne_of_lt (Nat.lt_of_lt_of_le EE11__23.lt (Nat.le_of_eq g257.symm))
      have ne260 : b15 ≠ b257 := Nat.ne_of_lt (Nat.lt_of_lt_of_le EE20__23.lt (Nat.le_of_eq g257.symm))
      have ne261 : b1 ≠ b257 := Nat.ne_of_lt (Nat.lt_of_lt_of_le V_b1__23.lt (Nat.le_of_eq g257.symm))
      have g_b257 : n0 ≤ b257 := Nat.le_trans Z23 (Nat.le_of_eq g257.symm)
      have EE4__257 := EE4__23.ext E257
      have EE11__257 := EE11__23.ext E257
      have EE20__257 := EE20__23.ext E257
      have V_b1__257 := V_b1__23.ext E257
      have Z257 : n0 ≤ h257.size := Nat.le_trans Z23 E257.1
      have hk257 := Nat.le_trans hk23 E257.1
      have F_variable_b257 : Fld Z h257 b257 "com/example/prudent_checker/prudentchecker/language/VariableReference" "variable" "Lcom/example/prudent_checker/prudentchecker/language/Variable;" .null := D257 (Or.inr (hw _ (List.mem_of_getElem? (i := 67) rfl))) (ty := (.object "com/example/prudent_checker/prudentchecker/language/Variable")) (by decide)
      refine GoW.st st257 ?_
      show GoW _ _ _ _ _ _ _ T257 (mkF m 137 #[.val (.int p0), .val (.int p1), .val (.int p2), .val (.int p3), .val (.ref bA), .val (.ref bS), .val (.ref tt), .val (.ref b1), .val (.int (2 : Int32)), .val (.int (3 : Int32)), .unset, .unset, .unset] [(.ref b257)])
      refine GoW.st (fun _ k => XS.dup X257.here hx rfl (hb hby at_137) rfl rfl k) ?_
      show GoW _ _ _ _ _ _ _ T257 (mkF m 138 #[.val (.int p0), .val (.int p1), .val (.int p2), .val (.int p3), .val (.ref bA), .val (.ref bS), .val (.ref tt), .val (.ref b1), .val (.int (2 : Int32)), .val (.int (3 : Int32)), .unset, .unset, .unset] [(.ref b257), (.ref b257)])
      refine GoW.st (fun _ k => XS.aload X257.here hx rfl (hb hby at_138) rfl rfl k) ?_
      show GoW _ _ _ _ _ _ _ T257 (mkF m 140 #[.val (.int p0), .val (.int p1), .val (.int p2), .val (.int p3), .val (.ref bA), .val (.ref bS), .val (.ref tt), .val (.ref b1), .val (.int (2 : Int32)), .val (.int (3 : Int32)), .unset, .unset, .unset] [(.ref b1), (.ref b257), (.ref b257)])
      refine GoW.st (fun _ k => XS.iload X257.here hx rfl (hb hby at_140) rfl k) ?_
      show GoW _ _ _ _ _ _ _ T257 (mkF m 142 #[.val (.int p0), .val (.int p1), .val (.int p2), .val (.int p3), .val (.ref bA), .val (.ref bS), .val (.ref tt), .val (.ref b1), .val (.int (2 : Int32)), .val (.int (3 : Int32)), .unset, .unset, .unset] [(.int (2 : Int32)), (.ref b1), (.ref b257), (.ref b257)])
      obtain ⟨cl262, Ar262, qq262, SS262, NN262, HH262, GG262⟩ := id V_b1__257
      have hin263 : ¬ ((2 : Int32) < 0 ∨ cl262.slots.size ≤ ((2 : Int32)).toNatClampNeg) := inb_of SS262 ⟨by decide, by decide⟩
      refine GoW.st (fun _ k => X257.aaload hx (j := (2 : Int32)) (v := (.ref b15)) (by rw [e257]; exact Ar262.1) (State.isArrayOf_alike hZ.alike Ar262.2.1) rfl Ar262.2.2 hin263 (HH262.at hin263 rfl) (g := (mkF m 142 #[.val (.int p0), .val (.int p1), .val (.int p2), .val (.int p3), .val (.ref bA), .val (.ref bS), .val (.ref tt), .val (.ref b1), .val (.int (2 : Int32)), .val (.int (3 : Int32)), .unset, .unset, .unset] [(.int (2 : Int32)), (.ref b1), (.ref b257), (.ref b257)])) rfl rfl (hb hby at_142) _ k) ?_
      show GoW _ _ _ _ _ _ _ T257 (mkF m 143 #[.val (.int p0), .val (.int p1), .val (.int p2), .val (.int p3), .val (.ref bA), .val (.ref bS), .val (.ref tt), .val (.ref b1), .val (.int (2 : Int32)), .val (.int (3 : Int32)), .unset, .unset, .unset] [(.ref b15), (.ref b257), (.ref b257)])
      obtain ⟨_, _, ⟨T264, L264, k264, n264⟩, -, X264, ⟨Lc264, hQ264, l264, y264, z264⟩, st264⟩ := X257.specialBack hx (y := (⟨"com/example/prudent_checker/prudentchecker/language/VariableReference", "<init>", "(Lcom/example/prudent_checker/prudentchecker/language/Variable;)V"⟩ : MethodName)) rfl hown (mvT hZ (hw _ (List.mem_of_getElem? (i := 57) rfl))) (mvT hZ (hw _ (List.mem_of_getElem? (i := 58) rfl))) (mvT hZ (hw _ (List.mem_of_getElem? (i := 59) rfl))) (by decide) (backOf (W := 1) (rm8 l Z a0 hw [] b257 b15 .null h257 n0 Z257 A257 F_variable_b257 g_b257) hZ (hw _ (List.mem_of_getElem? (i := 59) rfl)) (hw _ (List.mem_of_getElem? (i := 56) rfl)) (by decide) (by decide)) (g := (mkF m 143 #[.val (.int p0), .val (.int p1), .val (.int p2), .val (.int p3), .val (.ref bA), .val (.ref bS), .val (.ref tt), .val (.ref b1), .val (.int (2 : Int32)), .val (.int (3 : Int32)), .unset, .unset, .unset] [(.ref b15), (.ref b257), (.ref b257)])) rfl (by rw [hml]; rfl) (Steps.refl _) (a := b257) (argsL := [(.ref b15)]) (rest := [(.ref b257)]) (lenOf pd_2 rfl) rfl (by show 2 * 0 + _ ≤ _; exact Nat.le_of_eq rfl) (hb hby at_143) (fun _ _ => ⟨rfl, e257, (by decide : 10 + 0 ≤ _), (by decide : 32 + 0 ≤ _)⟩)
      dsimp only [Pt.U, Pt.locs, Pt.cells, Pt.slots] at X264 l264 y264 z264 st264 hQ264
      subst l264 y264 z264
      generalize e264 : T264.heap = h264 at hQ264
      obtain ⟨rfl, N264q, K264, EE264, FF_variable_264⟩ := hQ264
      have N264 := Fr.app N23 N264q
      refine GoW.st (fun _ k => st264.trans k) ?_
      have EE4__264 := EE4__257.keep K264
      have EE11__264 := EE11__257.keep K264
      have EE20__264 := EE20__257.keep K264
      have V_b1__264 := V_b1__257.keep K264 (ninS ne261 (nin0))
      have A257__264 := A257.keep K264
      have Z264 : n0 ≤ h264.size := Nat.le_trans Z257 K264.1
      have hk264 := Nat.le_trans hk257 K264.1
      rw [show (val_8_variable b257 b15 .null) = (.ref b15) from by unfold val_8_variable; rfl] at FF_variable_264
      have F_variable_b257__264 := FF_variable_264
      show GoW _ _ _ _ _ _ _ T264 (mkF m 146 #[.val (.int p0), .val (.int p1), .val (.int p2), .val (.int p3), .val (.ref bA), .val (.ref bS), .val (.ref tt), .val (.ref b1), .val (.int (2 : Int32)), .val (.int (3 : Int32)), .unset, .unset, .unset] [(.ref b257)])
      refine GoW.st (fun _ k => XS.astore X264.here hx rfl (hb hby at_146) rfl rfl (l' := #[.val (.int p0), .val (.int p1), .val (.int p2), .val (.int p3), .val (.ref bA), .val (.ref bS), .val (.ref tt), .val (.ref b1), .val (.int (2 : Int32)), .val (.int (3 : Int32)), .val (.ref b257), .unset, .unset]) rfl k) ?_
      show GoW _ _ _ _ _ _ _ T264 (mkF m 148 #[.val (.int p0), .val (.int p1), .val (.int p2), .val (.int p3), .val (.ref bA), .val (.ref bS), .val (.ref tt), .val (.ref b1), .val (.int (2 : Int32)), .val (.int (3 : Int32)), .val (.ref b257), .unset, .unset] [])
      refine GoW.st (fun _ k => XS.iload X264.here hx rfl (hb hby at_148) rfl k) ?_
      show GoW _ _ _ _ _ _ _ T264 (mkF m 150 #[.val (.int p0), .val (.int p1), .val (.int p2), .val (.int p3), .val (.ref bA), .val (.ref bS), .val (.ref tt), .val (.ref b1), .val (.int (2 : Int32)), .val (.int (3 : Int32)), .val (.ref b257), .unset, .unset] [(.int (3 : Int32))])
      refine GoW.st (fun _ k => XS.iconst X264.here hx rfl (hb hby at_150) k) ?_
      show GoW _ _ _ _ _ _ _ T264 (mkF m 151 #[.val (.int p0), .val (.int p1), .val (.int p2), .val (.int p3), .val (.ref bA), .val (.ref bS), .val (.ref tt), .val (.ref b1), .val (.int (2 : Int32)), .val (.int (3 : Int32)), .val (.ref b257), .unset, .unset] [(.int (3 : Int32)), (.int (3 : Int32))])
      refine GoW.st (fun _ k => XS.icmpYes X264.here hx rfl (pc0 := 151) (pc' := 212) rfl (hb hby at_151) rfl (flt (by decide : ¬ ((3 : Int32) < (3 : Int32)))).2.1 (by decide) (by decide) k) ?_
      show GoW _ _ _ _ _ _ _ T264 (mkF m 212 #[.val (.int p0), .val (.int p1), .val (.int p2), .val (.int p3), .val (.ref bA), .val (.ref bS), .val (.ref tt), .val (.ref b1), .val (.int (2 : Int32)), .val (.int (3 : Int32)), .val (.ref b257), .unset, .unset] [])
      refine GoW.st (fun _ k => XS.iload X264.here hx rfl (hb hby at_212) rfl k) ?_
      show GoW _ _ _ _ _ _ _ T264 (mkF m 214 #[.val (.int p0), .val (.int p1), .val (.int p2), .val (.int p3), .val (.ref bA), .val (.ref bS), .val (.ref tt), .val (.ref b1), .val (.int (2 : Int32)), .val (.int (3 : Int32)), .val (.ref b257), .unset, .unset] [(.int (3 : Int32))])
      refine GoW.st (fun _ k => XS.iconst X264.here hx rfl (hb hby at_214) k) ?_
      show GoW _ _ _ _ _ _ _ T264 (mkF m 215 #[.val (.int p0), .val (.int p1), .val (.int p2), .val (.int p3), .val (.ref bA), .val (.ref bS), .val (.ref tt), .val (.ref b1), .val (.int (2 : Int32)), .val (.int (3 : Int32)), .val (.ref b257), .unset, .unset] [(.int (3 : Int32)), (.int (3 : Int32))])
      refine GoW.st (fun _ k => XS.icmpNo X264.here hx rfl (hb hby at_215) rfl (teq (by decide : (3 : Int32) = (3 : Int32))).2 k) ?_
      show GoW _ _ _ _ _ _ _ T264 (mkF m 218 #[.val (.int p0), .val (.int p1), .val (.int p2), .val (.int p3), .val (.ref bA), .val (.ref bS), .val (.ref tt), .val (.ref b1), .val (.int (2 : Int32)), .val (.int (3 : Int32)), .val (.ref b257), .unset, .unset] [])
      refine GoW.st (fun _ k => XS.aload X264.here hx rfl (hb hby at_218) rfl rfl k) ?_
      show GoW _ _ _ _ _ _ _ T264 (mkF m 220 #[.val (.int p0), .val (.int p1), .val (.int p2), .val (.int p3), .val (.ref bA), .val (.ref bS), .val (.ref tt), .val (.ref b1), .val (.int (2 : Int32)), .val (.int (3 : Int32)), .val (.ref b257), .unset, .unset] [(.ref b257)])
      refine GoW.st (fun _ k => XS.aload X264.here hx rfl (hb hby at_220) rfl rfl k) ?_
      show GoW _ _ _ _ _ _ _ T264 (mkF m 222 #[.val (.int p0), .val (.int p1), .val (.int p2), .val (.int p3), .val (.ref bA), .val (.ref bS), .val (.ref tt), .val (.ref b1), .val (.int (2 : Int32)), .val (.int (3 : Int32)), .val (.ref b257), .unset, .unset] [(.ref b1), (.ref b257)])
      refine GoW.st (fun _ k => XS.iload X264.here hx rfl (hb hby at_222) rfl k) ?_
      show GoW _ _ _ _ _ _ _ T264 (mkF m 224 #[.val (.int p0), .val (.int p1), .val (.int p2), .val (.int p3), .val (.ref bA), .val (.ref bS), .val (.ref tt), .val (.ref b1), .val (.int (2 : Int32)), .val (.int (3 : Int32)), .val (.ref b257), .unset, .unset] [(.int (2 : Int32)), (.ref b1), (.ref b257)])
      obtain ⟨cl265, Ar265, qq265, SS265, NN265, HH265, GG265⟩ := id V_b1__264
      have hin266 : ¬ ((2 : Int32) < 0 ∨ cl265.slots.size ≤ ((2 : Int32)).toNatClampNeg) := inb_of SS265 ⟨by decide, by decide⟩
      refine GoW.st (fun _ k => X264.aaload hx (j := (2 : Int32)) (v := (.ref b15)) (by rw [e264]; exact Ar265.1) (State.isArrayOf_alike hZ.alike Ar265.2.1) rfl Ar265.2.2 hin266 (HH265.at hin266 rfl) (g := (mkF m 224 #[.val (.int p0), .val (.int p1), .val (.int p2), .val (.int p3), .val (.ref bA), .val (.ref bS), .val (.ref tt), .val (.ref b1), .val (.int (2 : Int32)), .val (.int (3 : Int32)), .val (.ref b257), .unset, .unset] [(.int (2 : Int32)), (.ref b1), (.ref b257)])) rfl rfl (hb hby at_224) _ k) ?_
      show GoW _ _ _ _ _ _ _ T264 (mkF m 225 #[.val (.int p0), .val (.int p1), .val (.int p2), .val (.int p3), .val (.ref bA), .val (.ref bS), .val (.ref tt), .val (.ref b1), .val (.int (2 : Int32)), .val (.int (3 : Int32)), .val (.ref b257), .unset, .unset] [(.ref b15), (.ref b257)])
      obtain ⟨cq267, kq267, q267a, q267b, q267c⟩ := isOf hZ e264 EE264
      obtain ⟨_, _, ⟨T267, L267, k267, n267⟩, -, X267, ⟨Lc267, hQ267, l267, y267, z267⟩, st267⟩ := X264.virtualBack hx (y := (⟨"com/example/prudent_checker/prudentchecker/language/VariableReference", "equals", "(Ljava/lang/Object;)Z"⟩ : MethodName)) (z := (⟨"com/example/prudent_checker/prudentchecker/language/VariableReference", "equals", "(Ljava/lang/Object;)Z"⟩ : MethodName)) hown (mvT hZ (hw _ (List.mem_of_getElem? (i := 68) rfl))) (mvT hZ (hw _ (List.mem_of_getElem? (i := 69) rfl))) (notFace_of_selects (args := #[]) (mvT hZ (hw _ (List.mem_of_getElem? (i := 71) rfl)))) (mvT hZ (hw _ (List.mem_of_getElem? (i := 71) rfl))) (mvT hZ (hw _ (List.mem_of_getElem? (i := 70) rfl))) (by decide) (backOf (W := 0) (rm10v l Z a0 hw [] b257 b15  h264 n0 Z264 EE20__264) hZ (hw _ (List.mem_of_getElem? (i := 72) rfl)) (hw _ (List.mem_of_getElem? (i := 56) rfl)) (by decide) (by decide)) q267a q267c (g := (mkF m 225 #[.val (.int p0), .val (.int p1), .val (.int p2), .val (.int p3), .val (.ref bA), .val (.ref bS), .val (.ref tt), .val (.ref b1), .val (.int (2 : Int32)), .val (.int (3 : Int32)), .val (.ref b257), .unset, .unset] [(.ref b15), (.ref b257)])) rfl (by rw [hml]; rfl) (Steps.refl _) (argsL := [(.ref b15)]) (rest := []) (lenOf pd_3 rfl) rfl (by show 2 * 0 + _ ≤ _; exact Nat.le_of_eq rfl) (hb hby at_225) (fun _ _ => ⟨rfl, e264, (by decide : 10 + 0 ≤ _), (by decide : 32 + 0 ≤ _)⟩)
      dsimp only [Pt.U, Pt.locs, Pt.cells, Pt.slots] at X267 l267 y267 z267 st267 hQ267
      subst l267 y267 z267
      obtain ⟨rfl, N267q, e267⟩ := hQ267
      have N267 := Fr.app N264 N267q
      refine GoW.st (fun _ k => st267.trans k) ?_
      show GoW _ _ _ _ _ _ _ T267 (mkF m 228 #[.val (.int p0), .val (.int p1), .val (.int p2), .val (.int p3), .val (.ref bA), .val (.ref bS), .val (.ref tt), .val (.ref b1), .val (.int (2 : Int32)), .val (.int (3 : Int32)), .val (.ref b257), .unset, .unset] [(.int (val_10v b257 b15))])
      rw [show (val_10v b257 b15) = (0 : Int32) from by unfold val_10v; rfl]
      show GoW _ _ _ _ _ _ _ T267 (mkF m 228 #[.val (.int p0), .val (.int p1), .val (.int p2), .val (.int p3), .val (.ref bA), .val (.ref bS), .val (.ref tt), .val (.ref b1), .val (.int (2 : Int32)), .val (.int (3 : Int32)), .val (.ref b257), .unset, .unset] [(.int (0 : Int32))])
      refine GoW.st (fun _ k => XS.ifNo X267.here hx rfl (hb hby at_228) rfl ((if0 _ _).trans (teq (by decide : (0 : Int32) = (0 : Int32))).2) k) ?_
      show GoW _ _ _ _ _ _ _ T267 (mkF m 231 #[.val (.int p0), .val (.int p1), .val (.int p2), .val (.int p3), .val (.ref bA), .val (.ref bS), .val (.ref tt), .val (.ref b1), .val (.int (2 : Int32)), .val (.int (3 : Int32)), .val (.ref b257), .unset, .unset] [])
      refine GoW.st (fun _ k => XS.iconst X267.here hx rfl (hb hby at_231) k) ?_
      show GoW _ _ _ _ _ _ _ T267 (mkF m 232 #[.val (.int p0), .val (.int p1), .val (.int p2), .val (.int p3), .val (.ref bA), .val (.ref bS), .val (.ref tt), .val (.ref b1), .val (.int (2 : Int32)), .val (.int (3 : Int32)), .val (.ref b257), .unset, .unset] [(.int (1 : Int32))])
      refine GoW.st (fun _ k => XS.goto X267.here hx rfl (pc0 := 232) (pc' := 236) rfl (hb hby at_232) (by decide) (by decide) k) ?_
      show GoW _ _ _ _ _ _ _ T267 (mkF m 236 #[.val (.int p0), .val (.int p1), .val (.int p2), .val (.int p3), .val (.ref bA), .val (.ref bS), .val (.ref tt), .val (.ref b1), .val (.int (2 : Int32)), .val (.int (3 : Int32)), .val (.ref b257), .unset, .unset] [(.int (1 : Int32))])
      refine GoW.ret X267 hS (by rw [e267]; exact hk264) hlk (v := some (.int (1 : Int32))) (fun h => by rw [hret] at h; cases h) (fun fs hr => retN X267 hx (t := .boolean) hret (by simp) (hb hby at_236) hr) ?_ (by decide) (by decide)
      show Q0 Z p0 p1 p2 p3 w_BYTE w_INT G1 h0 n0 (some (.int (1 : Int32))) T267.heap _
      rw [e267]
      exact ⟨rfl, N267⟩
    · rw [hk199]
      show GoW _ _ _ _ _ _ _ T23 (mkF m 132 #[.val (.int p0), .val (.int p1), .val (.int p2), .val (.int p3), .val (.ref bA), .val (.ref bS), .val (.ref tt), .val (.ref b1), .val (.int (2 : Int32)), .unset, .unset, .unset, .unset] [(.int (4 : Int32))])
      refine GoW.st (fun _ k => XS.istore X23.here hx rfl (hb hby at_132) rfl (l' := #[.val (.int p0), .val (.int p1), .val (.int p2), .val (.int p3), .val (.ref bA), .val (.ref bS), .val (.ref tt), .val (.ref b1), .val (.int (2 : Int32)), .val (.int (4 : Int32)), .unset, .unset, .unset]) rfl k) ?_
      show GoW _ _ _ _ _ _ _ T23 (mkF m 134 #[.val (.int p0), .val (.int p1), .val (.int p2), .val (.int p3), .val (.ref bA), .val (.ref bS), .val (.ref tt), .val (.ref b1), .val (.int (2 : Int32)), .val (.int (4 : Int32)), .unset, .unset, .unset] [])
      obtain ⟨T268, h268, X268, e268, E268, A268, D268, -, st268⟩ := newO X23 hx hZ hown (hw _ (List.mem_of_getElem? (i := 54) rfl)) (hw _ (List.mem_of_getElem? (i := 55) rfl)) (hw _ (List.mem_of_getElem? (i := 56) rfl)) e23 (g := (mkF m 134 #[.val (.int p0), .val (.int p1), .val (.int p2), .val (.int p3), .val (.ref bA), .val (.ref bS), .val (.ref tt), .val (.ref b1), .val (.int (2 : Int32)), .val (.int (4 : Int32)), .unset, .unset, .unset] [])) rfl (hb hby at_134) (by decide) (by decide)
      obtain ⟨b268, g268⟩ : ∃ z, z = h23.size := ⟨_, rfl⟩
      rw [← g268] at A268 D268 st268
      have ne269 : b2 ≠ b268 := Nat.ne_of_lt (Nat.lt_of_lt_of_le EE4__23.lt (Nat.le_of_eq g268.symm))
      have ne270 : b8 ≠ b268 := Nat.ne_of_lt (Nat.lt_of_lt_of_le EE11__23.lt (Nat.le_of_eq g268.symm))
      have ne271 : b15 ≠ b268 := Nat.ne_of_lt (Nat.lt_of_lt_of_le EE20__23.lt (Nat.le_of_eq g268.symm))
      have ne272 : b1 ≠ b268 := Nat.ne_of_lt (Nat.lt_of_lt_of_le V_b1__23.lt (Nat.le_of_eq g268.symm))
      have g_b268 : n0 ≤ b268 := Nat.le_trans Z23 (Nat.le_of_eq g268.symm)
      have EE4__268 := EE4__23.ext E268
      have EE11__268 := EE11__23.ext E268
      have EE20__268 := EE20__23.ext E268
      have V_b1__268 := V_b1__23.ext E268
      have Z268 : n0 ≤ h268.size := Nat.le_trans Z23 E268.1
      have hk268 := Nat.le_trans hk23 E268.1
      have F_variable_b268 : Fld Z h268 b268 "com/example/prudent_checker/prudentchecker/language/VariableReference" "variable" "Lcom/example/prudent_checker/prudentchecker/language/Variable;" .null := D268 (Or.inr (hw _ (List.mem_of_getElem? (i := 67) rfl))) (ty := (.object "com/example/prudent_checker/prudentchecker/language/Variable")) (by decide)
      refine GoW.st st268 ?_
      show GoW _ _ _ _ _ _ _ T268 (mkF m 137 #[.val (.int p0), .val (.int p1), .val (.int p2), .val (.int p3), .val (.ref bA), .val (.ref bS), .val (.ref tt), .val (.ref b1), .val (.int (2 : Int32)), .val (.int (4 : Int32)), .unset, .unset, .unset] [(.ref b268)])
      refine GoW.st (fun _ k => XS.dup X268.here hx rfl (hb hby at_137) rfl rfl k) ?_
      show GoW _ _ _ _ _ _ _ T268 (mkF m 138 #[.val (.int p0), .val (.int p1), .val (.int p2), .val (.int p3), .val (.ref bA), .val (.ref bS), .val (.ref tt), .val (.ref b1), .val (.int (2 : Int32)), .val (.int (4 : Int32)), .unset, .unset, .unset] [(.ref b268), (.ref b268)])
      refine GoW.st (fun _ k => XS.aload X268.here hx rfl (hb hby at_138) rfl rfl k) ?_
      show GoW _ _ _ _ _ _ _ T268 (mkF m 140 #[.val (.int p0), .val (.int p1), .val (.int p2), .val (.int p3), .val (.ref bA), .val (.ref bS), .val (.ref tt), .val (.ref b1), .val (.int (2 : Int32)), .val (.int (4 : Int32)), .unset, .unset, .unset] [(.ref b1), (.ref b268), (.ref b268)])
      refine GoW.st (fun _ k => XS.iload X268.here hx rfl (hb hby at_140) rfl k) ?_
      show GoW _ _ _ _ _ _ _ T268 (mkF m 142 #[.val (.int p0), .val (.int p1), .val (.int p2), .val (.int p3), .val (.ref bA), .val (.ref bS), .val (.ref tt), .val (.ref b1), .val (.int (2 : Int32)), .val (.int (4 : Int32)), .unset, .unset, .unset] [(.int (2 : Int32)), (.ref b1), (.ref b268), (.ref b268)])
      obtain ⟨cl273, Ar273, qq273, SS273, NN273, HH273, GG273⟩ := id V_b1__268
      have hin274 : ¬ ((2 : Int32) < 0 ∨ cl273.slots.size ≤ ((2 : Int32)).toNatClampNeg) := inb_of SS273 ⟨by decide, by decide⟩
      refine GoW.st (fun _ k => X268.aaload hx (j := (2 : Int32)) (v := (.ref b15)) (by rw [e268]; exact Ar273.1) (State.isArrayOf_alike hZ.alike Ar273.2.1) rfl Ar273.2.2 hin274 (HH273.at hin274 rfl) (g := (mkF m 142 #[.val (.int p0), .val (.int p1), .val (.int p2), .val (.int p3), .val (.ref bA), .val (.ref bS), .val (.ref tt), .val (.ref b1), .val (.int (2 : Int32)), .val (.int (4 : Int32)), .unset, .unset, .unset] [(.int (2 : Int32)), (.ref b1), (.ref b268), (.ref b268)])) rfl rfl (hb hby at_142) _ k) ?_
      show GoW _ _ _ _ _ _ _ T268 (mkF m 143 #[.val (.int p0), .val (.int p1), .val (.int p2), .val (.int p3), .val (.ref bA), .val (.ref bS), .val (.ref tt), .val (.ref b1), .val (.int (2 : Int32)), .val (.int (4 : Int32)), .unset, .unset, .unset] [(.ref b15), (.ref b268), (.ref b268)])
      obtain ⟨_, _, ⟨T275, L275, k275, n275⟩, -, X275, ⟨Lc275, hQ275, l275, y275, z275⟩, st275⟩ := X268.specialBack hx (y := (⟨"com/example/prudent_checker/prudentchecker/language/VariableReference", "<init>", "(Lcom/example/prudent_checker/prudentchecker/language/Variable;)V"⟩ : MethodName)) rfl hown (mvT hZ (hw _ (List.mem_of_getElem? (i := 57) rfl))) (mvT hZ (hw _ (List.mem_of_getElem? (i := 58) rfl))) (mvT hZ (hw _ (List.mem_of_getElem? (i := 59) rfl))) (by decide) (backOf (W := 1) (rm8 l Z a0 hw [] b268 b15 .null h268 n0 Z268 A268 F_variable_b268 g_b268) hZ (hw _ (List.mem_of_getElem? (i := 59) rfl)) (hw _ (List.mem_of_getElem? (i := 56) rfl)) (by decide) (by decide)) (g := (mkF m 143 #[.val (.int p0), .val (.int p1), .val (.int p2), .val (.int p3), .val (.ref bA), .val (.ref bS), .val (.ref tt), .val (.ref b1), .val (.int (2 : Int32)), .val (.int (4 : Int32)), .unset, .unset, .unset] [(.ref b15), (.ref b268), (.ref b268)])) rfl (by rw [hml]; rfl) (Steps.refl _) (a := b268) (argsL := [(.ref b15)]) (rest := [(.ref b268)]) (lenOf pd_2 rfl) rfl (by show 2 * 0 + _ ≤ _; exact Nat.le_of_eq rfl) (hb hby at_143) (fun _ _ => ⟨rfl, e268, (by decide : 10 + 0 ≤ _), (by decide : 32 + 0 ≤ _)⟩)
      dsimp only [Pt.U, Pt.locs, Pt.cells, Pt.slots] at X275 l275 y275 z275 st275 hQ275
      subst l275 y275 z275
      generalize e275 : T275.heap = h275 at hQ275
      obtain ⟨rfl, N275q, K275, EE275, FF_variable_275⟩ := hQ275
      have N275 := Fr.app N23 N275q
      refine GoW.st (fun _ k => st275.trans k) ?_
      have EE4__275 := EE4__268.keep K275
      have EE11__275 := EE11__268.keep K275
      have EE20__275 := EE20__268.keep K275
      have V_b1__275 := V_b1__268.keep K275 (ninS ne272 (nin0))
      have A268__275 := A268.keep K275
      have Z275 : n0 ≤ h275.size := Nat.le_trans Z268 K275.1
      have hk275 := Nat.le_trans hk268 K275.1
      rw [show (val_8_variable b268 b15 .null) = (.ref b15) from by unfold val_8_variable; rfl] at FF_variable_275
      have F_variable_b268__275 := FF_variable_275
      show GoW _ _ _ _ _ _ _ T275 (mkF m 146 #[.val (.int p0), .val (.int p1), .val (.int p2), .val (.int p3), .val (.ref bA), .val (.ref bS), .val (.ref tt), .val (.ref b1), .val (.int (2 : Int32)), .val (.int (4 : Int32)), .unset, .unset, .unset] [(.ref b268)])
      refine GoW.st (fun _ k => XS.astore X275.here hx rfl (hb hby at_146) rfl rfl (l' := #[.val (.int p0), .val (.int p1), .val (.int p2), .val (.int p3), .val (.ref bA), .val (.ref bS), .val (.ref tt), .val (.ref b1), .val (.int (2 : Int32)), .val (.int (4 : Int32)), .val (.ref b268), .unset, .unset]) rfl k) ?_
      show GoW _ _ _ _ _ _ _ T275 (mkF m 148 #[.val (.int p0), .val (.int p1), .val (.int p2), .val (.int p3), .val (.ref bA), .val (.ref bS), .val (.ref tt), .val (.ref b1), .val (.int (2 : Int32)), .val (.int (4 : Int32)), .val (.ref b268), .unset, .unset] [])
      refine GoW.st (fun _ k => XS.iload X275.here hx rfl (hb hby at_148) rfl k) ?_
      show GoW _ _ _ _ _ _ _ T275 (mkF m 150 #[.val (.int p0), .val (.int p1), .val (.int p2), .val (.int p3), .val (.ref bA), .val (.ref bS), .val (.ref tt), .val (.ref b1), .val (.int (2 : Int32)), .val (.int (4 : Int32)), .val (.ref b268), .unset, .unset] [(.int (4 : Int32))])
      refine GoW.st (fun _ k => XS.iconst X275.here hx rfl (hb hby at_150) k) ?_
      show GoW _ _ _ _ _ _ _ T275 (mkF m 151 #[.val (.int p0), .val (.int p1), .val (.int p2), .val (.int p3), .val (.ref bA), .val (.ref bS), .val (.ref tt), .val (.ref b1), .val (.int (2 : Int32)), .val (.int (4 : Int32)), .val (.ref b268), .unset, .unset] [(.int (3 : Int32)), (.int (4 : Int32))])
      refine GoW.st (fun _ k => XS.icmpYes X275.here hx rfl (pc0 := 151) (pc' := 212) rfl (hb hby at_151) rfl (flt (by decide : ¬ ((4 : Int32) < (3 : Int32)))).2.1 (by decide) (by decide) k) ?_
      show GoW _ _ _ _ _ _ _ T275 (mkF m 212 #[.val (.int p0), .val (.int p1), .val (.int p2), .val (.int p3), .val (.ref bA), .val (.ref bS), .val (.ref tt), .val (.ref b1), .val (.int (2 : Int32)), .val (.int (4 : Int32)), .val (.ref b268), .unset, .unset] [])
      refine GoW.st (fun _ k => XS.iload X275.here hx rfl (hb hby at_212) rfl k) ?_
      show GoW _ _ _ _ _ _ _ T275 (mkF m 214 #[.val (.int p0), .val (.int p1), .val (.int p2), .val (.int p3), .val (.ref bA), .val (.ref bS), .val (.ref tt), .val (.ref b1), .val (.int (2 : Int32)), .val (.int (4 : Int32)), .val (.ref b268), .unset, .unset] [(.int (4 : Int32))])
      refine GoW.st (fun _ k => XS.iconst X275.here hx rfl (hb hby at_214) k) ?_
      show GoW _ _ _ _ _ _ _ T275 (mkF m 215 #[.val (.int p0), .val (.int p1), .val (.int p2), .val (.int p3), .val (.ref bA), .val (.ref bS), .val (.ref tt), .val (.ref b1), .val (.int (2 : Int32)), .val (.int (4 : Int32)), .val (.ref b268), .unset, .unset] [(.int (3 : Int32)), (.int (4 : Int32))])
      refine GoW.st (fun _ k => XS.icmpYes X275.here hx rfl (pc0 := 215) (pc' := 237) rfl (hb hby at_215) rfl (feq (by decide : ¬ ((4 : Int32) = (3 : Int32)))).2 (by decide) (by decide) k) ?_
      show GoW _ _ _ _ _ _ _ T275 (mkF m 237 #[.val (.int p0), .val (.int p1), .val (.int p2), .val (.int p3), .val (.ref bA), .val (.ref bS), .val (.ref tt), .val (.ref b1), .val (.int (2 : Int32)), .val (.int (4 : Int32)), .val (.ref b268), .unset, .unset] [])
      refine GoW.st (fun _ k => XS.iload X275.here hx rfl (hb hby at_237) rfl k) ?_
      show GoW _ _ _ _ _ _ _ T275 (mkF m 239 #[.val (.int p0), .val (.int p1), .val (.int p2), .val (.int p3), .val (.ref bA), .val (.ref bS), .val (.ref tt), .val (.ref b1), .val (.int (2 : Int32)), .val (.int (4 : Int32)), .val (.ref b268), .unset, .unset] [(.int (4 : Int32))])
      refine GoW.st (fun _ k => XS.iconst X275.here hx rfl (hb hby at_239) k) ?_
      show GoW _ _ _ _ _ _ _ T275 (mkF m 240 #[.val (.int p0), .val (.int p1), .val (.int p2), .val (.int p3), .val (.ref bA), .val (.ref bS), .val (.ref tt), .val (.ref b1), .val (.int (2 : Int32)), .val (.int (4 : Int32)), .val (.ref b268), .unset, .unset] [(.int (4 : Int32)), (.int (4 : Int32))])
      refine GoW.st (fun _ k => XS.icmpNo X275.here hx rfl (hb hby at_240) rfl (teq (by decide : (4 : Int32) = (4 : Int32))).2 k) ?_
      show GoW _ _ _ _ _ _ _ T275 (mkF m 243 #[.val (.int p0), .val (.int p1), .val (.int p2), .val (.int p3), .val (.ref bA), .val (.ref bS), .val (.ref tt), .val (.ref b1), .val (.int (2 : Int32)), .val (.int (4 : Int32)), .val (.ref b268), .unset, .unset] [])
      refine GoW.st (fun _ k => XS.aload X275.here hx rfl (hb hby at_243) rfl rfl k) ?_
      show GoW _ _ _ _ _ _ _ T275 (mkF m 245 #[.val (.int p0), .val (.int p1), .val (.int p2), .val (.int p3), .val (.ref bA), .val (.ref bS), .val (.ref tt), .val (.ref b1), .val (.int (2 : Int32)), .val (.int (4 : Int32)), .val (.ref b268), .unset, .unset] [(.ref b268)])
      refine GoW.st (fun _ k => XS.aconstNull X275.here hx rfl (hb hby at_245) k) ?_
      show GoW _ _ _ _ _ _ _ T275 (mkF m 246 #[.val (.int p0), .val (.int p1), .val (.int p2), .val (.int p3), .val (.ref bA), .val (.ref bS), .val (.ref tt), .val (.ref b1), .val (.int (2 : Int32)), .val (.int (4 : Int32)), .val (.ref b268), .unset, .unset] [.null, (.ref b268)])
      obtain ⟨cq276, kq276, q276a, q276b, q276c⟩ := isOf hZ e275 EE275
      obtain ⟨_, _, ⟨T276, L276, k276, n276⟩, -, X276, ⟨Lc276, hQ276, l276, y276, z276⟩, st276⟩ := X275.virtualBack hx (y := (⟨"com/example/prudent_checker/prudentchecker/language/VariableReference", "equals", "(Ljava/lang/Object;)Z"⟩ : MethodName)) (z := (⟨"com/example/prudent_checker/prudentchecker/language/VariableReference", "equals", "(Ljava/lang/Object;)Z"⟩ : MethodName)) hown (mvT hZ (hw _ (List.mem_of_getElem? (i := 68) rfl))) (mvT hZ (hw _ (List.mem_of_getElem? (i := 69) rfl))) (notFace_of_selects (args := #[]) (mvT hZ (hw _ (List.mem_of_getElem? (i := 71) rfl)))) (mvT hZ (hw _ (List.mem_of_getElem? (i := 71) rfl))) (mvT hZ (hw _ (List.mem_of_getElem? (i := 70) rfl))) (by decide) (backOf (W := 0) (rm10n l Z a0 hw [] b268  h275 n0 Z275 ) hZ (hw _ (List.mem_of_getElem? (i := 72) rfl)) (hw _ (List.mem_of_getElem? (i := 56) rfl)) (by decide) (by decide)) q276a q276c (g := (mkF m 246 #[.val (.int p0), .val (.int p1), .val (.int p2), .val (.int p3), .val (.ref bA), .val (.ref bS), .val (.ref tt), .val (.ref b1), .val (.int (2 : Int32)), .val (.int (4 : Int32)), .val (.ref b268), .unset, .unset] [.null, (.ref b268)])) rfl (by rw [hml]; rfl) (Steps.refl _) (argsL := [.null]) (rest := []) (lenOf pd_3 rfl) rfl (by show 2 * 0 + _ ≤ _; exact Nat.le_of_eq rfl) (hb hby at_246) (fun _ _ => ⟨rfl, e275, (by decide : 10 + 0 ≤ _), (by decide : 32 + 0 ≤ _)⟩)
      dsimp only [Pt.U, Pt.locs, Pt.cells, Pt.slots] at X276 l276 y276 z276 st276 hQ276
      subst l276 y276 z276
      obtain ⟨rfl, N276q, e276⟩ := hQ276
      have N276 := Fr.app N275 N276q
      refine GoW.st (fun _ k => st276.trans k) ?_
      show GoW _ _ _ _ _ _ _ T276 (mkF m 249 #[.val (.int p0), .val (.int p1), .val (.int p2), .val (.int p3), .val (.ref bA), .val (.ref bS), .val (.ref tt), .val (.ref b1), .val (.int (2 : Int32)), .val (.int (4 : Int32)), .val (.ref b268), .unset, .unset] [(.int (val_10n b268))])
      rw [show (val_10n b268) = (0 : Int32) from by unfold val_10n; rfl]
      show GoW _ _ _ _ _ _ _ T276 (mkF m 249 #[.val (.int p0), .val (.int p1), .val (.int p2), .val (.int p3), .val (.ref bA), .val (.ref bS), .val (.ref tt), .val (.ref b1), .val (.int (2 : Int32)), .val (.int (4 : Int32)), .val (.ref b268), .unset, .unset] [(.int (0 : Int32))])
      refine GoW.st (fun _ k => XS.ifNo X276.here hx rfl (hb hby at_249) rfl ((if0 _ _).trans (teq (by decide : (0 : Int32) = (0 : Int32))).2) k) ?_
      show GoW _ _ _ _ _ _ _ T276 (mkF m 252 #[.val (.int p0), .val (.int p1), .val (.int p2), .val (.int p3), .val (.ref bA), .val (.ref bS), .val (.ref tt), .val (.ref b1), .val (.int (2 : Int32)), .val (.int (4 : Int32)), .val (.ref b268), .unset, .unset] [])
      refine GoW.st (fun _ k => XS.iconst X276.here hx rfl (hb hby at_252) k) ?_
      show GoW _ _ _ _ _ _ _ T276 (mkF m 253 #[.val (.int p0), .val (.int p1), .val (.int p2), .val (.int p3), .val (.ref bA), .val (.ref bS), .val (.ref tt), .val (.ref b1), .val (.int (2 : Int32)), .val (.int (4 : Int32)), .val (.ref b268), .unset, .unset] [(.int (1 : Int32))])
      refine GoW.st (fun _ k => XS.goto X276.here hx rfl (pc0 := 253) (pc' := 257) rfl (hb hby at_253) (by decide) (by decide) k) ?_
      show GoW _ _ _ _ _ _ _ T276 (mkF m 257 #[.val (.int p0), .val (.int p1), .val (.int p2), .val (.int p3), .val (.ref bA), .val (.ref bS), .val (.ref tt), .val (.ref b1), .val (.int (2 : Int32)), .val (.int (4 : Int32)), .val (.ref b268), .unset, .unset] [(.int (1 : Int32))])
      refine GoW.ret X276 hS (by rw [e276]; exact hk275) hlk (v := some (.int (1 : Int32))) (fun h => by rw [hret] at h; cases h) (fun fs hr => retN X276 hx (t := .boolean) hret (by simp) (hb hby at_257) hr) ?_ (by decide) (by decide)
      show Q0 Z p0 p1 p2 p3 w_BYTE w_INT G1 h0 n0 (some (.int (1 : Int32))) T276.heap _
      rw [e276]
      exact ⟨rfl, N276⟩
    · rw [hk199]
      show GoW _ _ _ _ _ _ _ T23 (mkF m 132 #[.val (.int p0), .val (.int p1), .val (.int p2), .val (.int p3), .val (.ref bA), .val (.ref bS), .val (.ref tt), .val (.ref b1), .val (.int (2 : Int32)), .unset, .unset, .unset, .unset] [(.int (5 : Int32))])
      refine GoW.st (fun _ k => XS.istore X23.here hx rfl (hb hby at_132) rfl (l' := #[.val (.int p0), .val (.int p1), .val (.int p2), .val (.int p3), .val (.ref bA), .val (.ref bS), .val (.ref tt), .val (.ref b1), .val (.int (2 : Int32)), .val (.int (5 : Int32)), .unset, .unset, .unset]) rfl k) ?_
      show GoW _ _ _ _ _ _ _ T23 (mkF m 134 #[.val (.int p0), .val (.int p1), .val (.int p2), .val (.int p3), .val (.ref bA), .val (.ref bS), .val (.ref tt), .val (.ref b1), .val (.int (2 : Int32)), .val (.int (5 : Int32)), .unset, .unset, .unset] [])
      obtain ⟨T277, h277, X277, e277, E277, A277, D277, -, st277⟩ := newO X23 hx hZ hown (hw _ (List.mem_of_getElem? (i := 54) rfl)) (hw _ (List.mem_of_getElem? (i := 55) rfl)) (hw _ (List.mem_of_getElem? (i := 56) rfl)) e23 (g := (mkF m 134 #[.val (.int p0), .val (.int p1), .val (.int p2), .val (.int p3), .val (.ref bA), .val (.ref bS), .val (.ref tt), .val (.ref b1), .val (.int (2 : Int32)), .val (.int (5 : Int32)), .unset, .unset, .unset] [])) rfl (hb hby at_134) (by decide) (by decide)
      obtain ⟨b277, g277⟩ : ∃ z, z = h23.size := ⟨_, rfl⟩
      rw [← g277] at A277 D277 st277
      have ne278 : b2 ≠ b277 := Nat.ne_of_lt (Nat.lt_of_lt_of_le EE4__23.lt (Nat.le_of_eq g277.symm))
      have ne279 : b8 ≠ b277 := Nat.ne_of_lt (Nat.lt_of_lt_of_le EE11__23.lt (Nat.le_of_eq g277.symm))
      have ne280 : b15 ≠ b277 := Nat.ne_of_lt (Nat.lt_of_lt_of_le EE20__23.lt (Nat.le_of_eq g277.symm))
      have ne281 : b1 ≠ b277 := Nat.ne_of_lt (Nat.lt_of_lt_of_le V_b1__23.lt (Nat.le_of_eq g277.symm))
      have g_b277 : n0 ≤ b277 := Nat.le_trans Z23 (Nat.le_of_eq g277.symm)
      have EE4__277 := EE4__23.ext E277
      have EE11__277 := EE11__23.ext E277
      have EE20__277 := EE20__23.ext E277
      have V_b1__277 := V_b1__23.ext E277
      have Z277 : n0 ≤ h277.size := Nat.le_trans Z23 E277.1
      have hk277 := Nat.le_trans hk23 E277.1
      have F_variable_b277 : Fld Z h277 b277 "com/example/prudent_checker/prudentchecker/language/VariableReference" "variable" "Lcom/example/prudent_checker/prudentchecker/language/Variable;" .null := D277 (Or.inr (hw _ (List.mem_of_getElem? (i := 67) rfl))) (ty := (.object "com/example/prudent_checker/prudentchecker/language/Variable")) (by decide)
      refine GoW.st st277 ?_
      show GoW _ _ _ _ _ _ _ T277 (mkF m 137 #[.val (.int p0), .val (.int p1), .val (.int p2), .val (.int p3), .val (.ref bA), .val (.ref bS), .val (.ref tt), .val (.ref b1), .val (.int (2 : Int32)), .val (.int (5 : Int32)), .unset, .unset, .unset] [(.ref b277)])
      refine GoW.st (fun _ k => XS.dup X277.here hx rfl (hb hby at_137) rfl rfl k) ?_
      show GoW _ _ _ _ _ _ _ T277 (mkF m 138 #[.val (.int p0), .val (.int p1), .val (.int p2), .val (.int p3), .val (.ref bA), .val (.ref bS), .val (.ref tt), .val (.ref b1), .val (.int (2 : Int32)), .val (.int (5 : Int32)), .unset, .unset, .unset] [(.ref b277), (.ref b277)])
      refine GoW.st (fun _ k => XS.aload X277.here hx rfl (hb hby at_138) rfl rfl k) ?_
      show GoW _ _ _ _ _ _ _ T277 (mkF m 140 #[.val (.int p0), .val (.int p1), .val (.int p2), .val (.int p3), .val (.ref bA), .val (.ref bS), .val (.ref tt), .val (.ref b1), .val (.int (2 : Int32)), .val (.int (5 : Int32)), .unset, .unset, .unset] [(.ref b1), (.ref b277), (.ref b277)])
      refine GoW.st (fun _ k => XS.iload X277.here hx rfl (hb hby at_140) rfl k) ?_
      show GoW _ _ _ _ _ _ _ T277 (mkF m 142 #[.val (.int p0), .val (.int p1), .val (.int p2), .val (.int p3), .val (.ref bA), .val (.ref bS), .val (.ref tt), .val (.ref b1), .val (.int (2 : Int32)), .val (.int (5 : Int32)), .unset, .unset, .unset] [(.int (2 : Int32)), (.ref b1), (.ref b277), (.ref b277)])
      obtain ⟨cl282, Ar282, qq282, SS282, NN282, HH282, GG282⟩ := id V_b1__277
      have hin283 : ¬ ((2 : Int32) < 0 ∨ cl282.slots.size ≤ ((2 : Int32)).toNatClampNeg) := inb_of SS282 ⟨by decide, by decide⟩
      refine GoW.st (fun _ k => X277.aaload hx (j := (2 : Int32)) (v := (.ref b15)) (by rw [e277]; exact Ar282.1) (State.isArrayOf_alike hZ.alike Ar282.2.1) rfl Ar282.2.2 hin283 (HH282.at hin283 rfl) (g := (mkF m 142 #[.val (.int p0), .val (.int p1), .val (.int p2), .val (.int p3), .val (.ref bA), .val (.ref bS), .val (.ref tt), .val (.ref b1), .val (.int (2 : Int32)), .val (.int (5 : Int32)), .unset, .unset, .unset] [(.int (2 : Int32)), (.ref b1), (.ref b277), (.ref b277)])) rfl rfl (hb hby at_142) _ k) ?_
      show GoW _ _ _ _ _ _ _ T277 (mkF m 143 #[.val (.int p0), .val (.int p1), .val (.int p2), .val (.int p3), .val (.ref bA), .val (.ref bS), .val (.ref tt), .val (.ref b1), .val (.int (2 : Int32)), .val (.int (5 : Int32)), .unset, .unset, .unset] [(.ref b15), (.ref b277), (.ref b277)])
      obtain ⟨_, _, ⟨T284, L284, k284, n284⟩, -, X284, ⟨Lc284, hQ284, l284, y284, z284⟩, st284⟩ := X277.specialBack hx (y := (⟨"com/example/prudent_checker/prudentchecker/language/VariableReference", "<init>", "(Lcom/example/prudent_checker/prudentchecker/language/Variable;)V"⟩ : MethodName)) rfl hown (mvT hZ (hw _ (List.mem_of_getElem? (i := 57) rfl))) (mvT hZ (hw _ (List.mem_of_getElem? (i := 58) rfl))) (mvT hZ (hw _ (List.mem_of_getElem? (i := 59) rfl))) (by decide) (backOf (W := 1) (rm8 l Z a0 hw [] b277 b15 .null h277 n0 Z277 A277 F_variable_b277 g_b277) hZ (hw _ (List.mem_of_getElem? (i := 59) rfl)) (hw _ (List.mem_of_getElem? (i := 56) rfl)) (by decide) (by decide)) (g := (mkF m 143 #[.val (.int p0), .val (.int p1), .val (.int p2), .val (.int p3), .val (.ref bA), .val (.ref bS), .val (.ref tt), .val (.ref b1), .val (.int (2 : Int32)), .val (.int (5 : Int32)), .unset, .unset, .unset] [(.ref b15), (.ref b277), (.ref b277)])) rfl (by rw [hml]; rfl) (Steps.refl _) (a := b277) (argsL := [(.ref b15)]) (rest := [(.ref b277)]) (lenOf pd_2 rfl) rfl (by show 2 * 0 + _ ≤ _; exact Nat.le_of_eq rfl) (hb hby at_143) (fun _ _ => ⟨rfl, e277, (by decide : 10 + 0 ≤ _), (by decide : 32 + 0 ≤ _)⟩)
      dsimp only [Pt.U, Pt.locs, Pt.cells, Pt.slots] at X284 l284 y284 z284 st284 hQ284
      subst l284 y284 z284
      generalize e284 : T284.heap = h284 at hQ284
      obtain ⟨rfl, N284q, K284, EE284, FF_variable_284⟩ := hQ284
      have N284 := Fr.app N23 N284q
      refine GoW.st (fun _ k => st284.trans k) ?_
      have EE4__284 := EE4__277.keep K284
      have EE11__284 := EE11__277.keep K284
      have EE20__284 := EE20__277.keep K284
      have V_b1__284 := V_b1__277.keep K284 (ninS ne281 (nin0))
      have A277__284 := A277.keep K284
      have Z284 : n0 ≤ h284.size := Nat.le_trans Z277 K284.1
      have hk284 := Nat.le_trans hk277 K284.1
      rw [show (val_8_variable b277 b15 .null) = (.ref b15) from by unfold val_8_variable; rfl] at FF_variable_284
      have F_variable_b277__284 := FF_variable_284
      show GoW _ _ _ _ _ _ _ T284 (mkF m 146 #[.val (.int p0), .val (.int p1), .val (.int p2), .val (.int p3), .val (.ref bA), .val (.ref bS), .val (.ref tt), .val (.ref b1), .val (.int (2 : Int32)), .val (.int (5 : Int32)), .unset, .unset, .unset] [(.ref b277)])
      refine GoW.st (fun _ k => XS.astore X284.here hx rfl (hb hby at_146) rfl rfl (l' := #[.val (.int p0), .val (.int p1), .val (.int p2), .val (.int p3), .val (.ref bA), .val (.ref bS), .val (.ref tt), .val (.ref b1), .val (.int (2 : Int32)), .val (.int (5 : Int32)), .val (.ref b277), .unset, .unset]) rfl k) ?_
      show GoW _ _ _ _ _ _ _ T284 (mkF m 148 #[.val (.int p0), .val (.int p1), .val (.int p2), .val (.int p3), .val (.ref bA), .val (.ref bS), .val (.ref tt), .val (.ref b1), .val (.int (2 : Int32)), .val (.int (5 : Int32)), .val (.ref b277), .unset, .unset] [])
      refine GoW.st (fun _ k => XS.iload X284.here hx rfl (hb hby at_148) rfl k) ?_
      show GoW _ _ _ _ _ _ _ T284 (mkF m 150 #[.val (.int p0), .val (.int p1), .val (.int p2), .val (.int p3), .val (.ref bA), .val (.ref bS), .val (.ref tt), .val (.ref b1), .val (.int (2 : Int32)), .val (.int (5 : Int32)), .val (.ref b277), .unset, .unset] [(.int (5 : Int32))])
      refine GoW.st (fun _ k => XS.iconst X284.here hx rfl (hb hby at_150) k) ?_
      show GoW _ _ _ _ _ _ _ T284 (mkF m 151 #[.val (.int p0), .val (.int p1), .val (.int p2), .val (.int p3), .val (.ref bA), .val (.ref bS), .val (.ref tt), .val (.ref b1), .val (.int (2 : Int32)), .val (.int (5 : Int32)), .val (.ref b277), .unset, .unset] [(.int (3 : Int32)), (.int (5 : Int32))])
      refine GoW.st (fun _ k => XS.icmpYes X284.here hx rfl (pc0 := 151) (pc' := 212) rfl (hb hby at_151) rfl (flt (by decide : ¬ ((5 : Int32) < (3 : Int32)))).2.1 (by decide) (by decide) k) ?_
      show GoW _ _ _ _ _ _ _ T284 (mkF m 212 #[.val (.int p0), .val (.int p1), .val (.int p2), .val (.int p3), .val (.ref bA), .val (.ref bS), .val (.ref tt), .val (.ref b1), .val (.int (2 : Int32)), .val (.int (5 : Int32)), .val (.ref b277), .unset, .unset] [])
      refine GoW.st (fun _ k => XS.iload X284.here hx rfl (hb hby at_212) rfl k) ?_
      show GoW _ _ _ _ _ _ _ T284 (mkF m 214 #[.val (.int p0), .val (.int p1), .val (.int p2), .val (.int p3), .val (.ref bA), .val (.ref bS), .val (.ref tt), .val (.ref b1), .val (.int (2 : Int32)), .val (.int (5 : Int32)), .val (.ref b277), .unset, .unset] [(.int (5 : Int32))])
      refine GoW.st (fun _ k => XS.iconst X284.here hx rfl (hb hby at_214) k) ?_
      show GoW _ _ _ _ _ _ _ T284 (mkF m 215 #[.val (.int p0), .val (.int p1), .val (.int p2), .val (.int p3), .val (.ref bA), .val (.ref bS), .val (.ref tt), .val (.ref b1), .val (.int (2 : Int32)), .val (.int (5 : Int32)), .val (.ref b277), .unset, .unset] [(.int (3 : Int32)), (.int (5 : Int32))])
      refine GoW.st (fun _ k => XS.icmpYes X284.here hx rfl (pc0 := 215) (pc' := 237) rfl (hb hby at_215) rfl (feq (by decide : ¬ ((5 : Int32) = (3 : Int32)))).2 (by decide) (by decide) k) ?_
      show GoW _ _ _ _ _ _ _ T284 (mkF m 237 #[.val (.int p0), .val (.int p1), .val (.int p2), .val (.int p3), .val (.ref bA), .val (.ref bS), .val (.ref tt), .val (.ref b1), .val (.int (2 : Int32)), .val (.int (5 : Int32)), .val (.ref b277), .unset, .unset] [])
      refine GoW.st (fun _ k => XS.iload X284.here hx rfl (hb hby at_237) rfl k) ?_
      show GoW _ _ _ _ _ _ _ T284 (mkF m 239 #[.val (.int p0), .val (.int p1), .val (.int p2), .val (.int p3), .val (.ref bA), .val (.ref bS), .val (.ref tt), .val (.ref b1), .val (.int (2 : Int32)), .val (.int (5 : Int32)), .val (.ref b277), .unset, .unset] [(.int (5 : Int32))])
      refine GoW.st (fun _ k => XS.iconst X284.here hx rfl (hb hby at_239) k) ?_
      show GoW _ _ _ _ _ _ _ T284 (mkF m 240 #[.val (.int p0), .val (.int p1), .val (.int p2), .val (.int p3), .val (.ref bA), .val (.ref bS), .val (.ref tt), .val (.ref b1), .val (.int (2 : Int32)), .val (.int (5 : Int32)), .val (.ref b277), .unset, .unset] [(.int (4 : Int32)), (.int (5 : Int32))])
      refine GoW.st (fun _ k => XS.icmpYes X284.here hx rfl (pc0 := 240) (pc' := 258) rfl (hb hby at_240) rfl (feq (by decide : ¬ ((5 : Int32) = (4 : Int32)))).2 (by decide) (by decide) k) ?_
      show GoW _ _ _ _ _ _ _ T284 (mkF m 258 #[.val (.int p0), .val (.int p1), .val (.int p2), .val (.int p3), .val (.ref bA), .val (.ref bS), .val (.ref tt), .val (.ref b1), .val (.int (2 : Int32)), .val (.int (5 : Int32)), .val (.ref b277), .unset, .unset] [])
      refine GoW.st (fun _ k => XS.aload X284.here hx rfl (hb hby at_258) rfl rfl k) ?_
      show GoW _ _ _ _ _ _ _ T284 (mkF m 260 #[.val (.int p0), .val (.int p1), .val (.int p2), .val (.int p3), .val (.ref bA), .val (.ref bS), .val (.ref tt), .val (.ref b1), .val (.int (2 : Int32)), .val (.int (5 : Int32)), .val (.ref b277), .unset, .unset] [(.ref b277)])
      refine GoW.st (fun _ k => XS.aload X284.here hx rfl (hb hby at_260) rfl rfl k) ?_
      show GoW _ _ _ _ _ _ _ T284 (mkF m 262 #[.val (.int p0), .val (.int p1), .val (.int p2), .val (.int p3), .val (.ref bA), .val (.ref bS), .val (.ref tt), .val (.ref b1), .val (.int (2 : Int32)), .val (.int (5 : Int32)), .val (.ref b277), .unset, .unset] [(.ref b277), (.ref b277)])
      obtain ⟨cq285, kq285, q285a, q285b, q285c⟩ := isOf hZ e284 EE284
      obtain ⟨_, _, ⟨T285, L285, k285, n285⟩, -, X285, ⟨Lc285, hQ285, l285, y285, z285⟩, st285⟩ := X284.virtualBack hx (y := (⟨"com/example/prudent_checker/prudentchecker/language/VariableReference", "equals", "(Ljava/lang/Object;)Z"⟩ : MethodName)) (z := (⟨"com/example/prudent_checker/prudentchecker/language/VariableReference", "equals", "(Ljava/lang/Object;)Z"⟩ : MethodName)) hown (mvT hZ (hw _ (List.mem_of_getElem? (i := 68) rfl))) (mvT hZ (hw _ (List.mem_of_getElem? (i := 69) rfl))) (notFace_of_selects (args := #[]) (mvT hZ (hw _ (List.mem_of_getElem? (i := 71) rfl)))) (mvT hZ (hw _ (List.mem_of_getElem? (i := 71) rfl))) (mvT hZ (hw _ (List.mem_of_getElem? (i := 70) rfl))) (by decide) (backOf (W := 0) (rm10r l Z a0 hw [] b277 b277 b15 b15 h284 n0 Z284 EE284 F_variable_b277__284 F_variable_b277__284) hZ (hw _ (List.mem_of_getElem? (i := 72) rfl)) (hw _ (List.mem_of_getElem? (i := 56) rfl)) (by decide) (by decide)) q285a q285c (g := (mkF m 262 #[.val (.int p0), .val (.int p1), .val (.int p2), .val (.int p3), .val (.ref bA), .val (.ref bS), .val (.ref tt), .val (.ref b1), .val (.int (2 : Int32)), .val (.int (5 : Int32)), .val (.ref b277), .unset, .unset] [(.ref b277), (.ref b277)])) rfl (by rw [hml]; rfl) (Steps.refl _) (argsL := [(.ref b277)]) (rest := []) (lenOf pd_3 rfl) rfl (by show 2 * 0 + _ ≤ _; exact Nat.le_of_eq rfl) (hb hby at_262) (fun _ _ => ⟨rfl, e284, (by decide : 10 + 0 ≤ _), (by decide : 32 + 0 ≤ _)⟩)
      dsimp only [Pt.U, Pt.locs, Pt.cells, Pt.slots] at X285 l285 y285 z285 st285 hQ285
      subst l285 y285 z285
      obtain ⟨rfl, N285q, e285⟩ := hQ285
      have N285 := Fr.app N284 N285q
      refine GoW.st (fun _ k => st285.trans k) ?_
      show GoW _ _ _ _ _ _ _ T285 (mkF m 265 #[.val (.int p0), .val (.int p1), .val (.int p2), .val (.int p3), .val (.ref bA), .val (.ref bS), .val (.ref tt), .val (.ref b1), .val (.int (2 : Int32)), .val (.int (5 : Int32)), .val (.ref b277), .unset, .unset] [(.int (val_10r b277 b277 b15 b15))])
      rw [show (val_10r b277 b277 b15 b15) = (1 : Int32) from by unfold val_10r; rw [if_pos rfl]]
      show GoW _ _ _ _ _ _ _ T285 (mkF m 265 #[.val (.int p0), .val (.int p1), .val (.int p2), .val (.int p3), .val (.ref bA), .val (.ref bS), .val (.ref tt), .val (.ref b1), .val (.int (2 : Int32)), .val (.int (5 : Int32)), .val (.ref b277), .unset, .unset] [(.int (1 : Int32))])
      refine GoW.ret X285 hS (by rw [e285]; exact hk284) hlk (v := some (.int (1 : Int32))) (fun h => by rw [hret] at h; cases h) (fun fs hr => retN X285 hx (t := .boolean) hret (by simp) (hb hby at_265) hr) ?_ (by decide) (by decide)
      show Q0 Z p0 p1 p2 p3 w_BYTE w_INT G1 h0 n0 (some (.int (1 : Int32))) T285.heap _
      rw [e285]
      exact ⟨rfl, N285⟩
theorem ef_0 (m : MethodId) (p0 : Int32) (p1 : Int32) (p2 : Int32) (p3 : Int32) : entryFrame m #[(.int p0), (.int p1), (.int p2), (.int p3)] maxLocals = mkF m 0 #[.val (.int p0), .val (.int p1), .val (.int p2), .val (.int p3), .unset, .unset, .unset, .unset, .unset, .unset, .unset, .unset, .unset] [] := by first | (simp [entryFrame, mkF, argsToLocals, Value.category, maxLocals]; done) | rfl
set_option maxRecDepth 65536 in
set_option maxHeartbeats 40000000 in
theorem rm0 (l : Launch) (Z : State) (a0 : Array Value) (hw : ∀ d ∈ tables_1, d.before a0 Z = true) (ws : List Jvm.Cond) (p0 : Int32) (p1 : Int32) (p2 : Int32) (p3 : Int32) (w_BYTE : Addr) (w_INT : Addr) (G1 : Int32) (h0 : Heap) (n0 : Nat) (Z0 : n0 ≤ h0.size) (S_BYTE : Sta Z h0 "com/example/prudent_checker/prudentchecker/language/ScalarType" "BYTE" "Lcom/example/prudent_checker/prudentchecker/language/ScalarType;" (.ref w_BYTE)) (E_BYTE : Exa Z h0 w_BYTE "com/example/prudent_checker/prudentchecker/language/ScalarType") (S_INT : Sta Z h0 "com/example/prudent_checker/prudentchecker/language/ScalarType" "INT" "Lcom/example/prudent_checker/prudentchecker/language/ScalarType;" (.ref w_INT)) (E_INT : Exa Z h0 w_INT "com/example/prudent_checker/prudentchecker/language/ScalarType") (S_CS : Sta Z h0 "java/lang/String" "COMPACT_STRINGS" "Z" (.int G1)) (P_CS : ¬ G1 = (0 : Int32)) :
    MetFree l x (head1 (Jvm.Cond.code x code maxLocals ret :: ws) room_1) (fun a U => a = #[(.int p0), (.int p1), (.int p2), (.int p3)] ∧ Z.Warmed39 U.vm ∧ U.heap = h0) (fun _ _ _ _ _ => True) (fun _ U o U' => ∃ v L, o = .returned v ∧ Q0 Z p0 p1 p2 p3 w_BYTE w_INT G1 h0 n0 v U'.heap L ∧ ReturnedEndW U o U' L room_1.cells room_1.slots) := by
  refine MetFree.of_bodySF (plainFor_of_name pn_com_example_prudent_checker_prudentchecker_language_VariableReferenceEqualsPinLaw) hisR ?_
  intro p e s m args below meth c s₁ Bd hml0 hP hK
  obtain ⟨rfl, hZ, hh⟩ := hP
  have hx := Bd.exec
  have hby := Bd.bytes
  have hlk : meth.locks = false := BodyLoose.notSynchronized Bd
  have hret := Bd.returns
  have hml : c.maxLocals = 13 := hml0
  have hown : s.vm.findClass "com/example/prudent_checker/prudentchecker/language/VariableReferenceEqualsPinLaw" = some m.cls := findClass_of_methodNamed Bd.named
  have hnm := (name_of_methodNamed Bd.named Bd.method).1
  have X0 : Stand p l e room_1 s m #[(.int p0), (.int p1), (.int p2), (.int p3)] below meth c s₁ [] 0 0 := Stand.of_body Bd
  have e0 : s₁.heap = h0 := by rw [← hh, Bd.state]; rfl
  have N0 := Fr.nil n0
  refine GoW.start (Q := Q0 Z p0 p1 p2 p3 w_BYTE w_INT G1 h0 n0) (ef_0 m p0 p1 p2 p3) ?_
  show GoW _ _ _ _ _ _ _ s₁ (mkF m 0 #[.val (.int p0), .val (.int p1), .val (.int p2), .val (.int p3), .unset, .unset, .unset, .unset, .unset, .unset, .unset, .unset, .unset] [])
  refine GoW.st (fun _ k => XS.iconst X0.here hx rfl (hb hby at_0) k) ?_
  show GoW _ _ _ _ _ _ _ s₁ (mkF m 1 #[.val (.int p0), .val (.int p1), .val (.int p2), .val (.int p3), .unset, .unset, .unset, .unset, .unset, .unset, .unset, .unset, .unset] [(.int (2 : Int32))])
  obtain ⟨T1, h1, k1, X1, e1, E1, A1, st1⟩ := newP X0 hx hZ (hw _ (List.mem_of_getElem? (i := 0) rfl)) e0 (g := (mkF m 1 #[.val (.int p0), .val (.int p1), .val (.int p2), .val (.int p3), .unset, .unset, .unset, .unset, .unset, .unset, .unset, .unset, .unset] [(.int (2 : Int32))])) rfl (hb hby at_1) rfl (by decide) (cap := 2) (by decide) (by decide) (by decide) (by decide)
  obtain ⟨b1, g1⟩ : ∃ z, z = h0.size := ⟨_, rfl⟩
  rw [← g1] at A1 st1
  have ne2 : w_BYTE ≠ b1 := Nat.ne_of_lt (Nat.lt_of_lt_of_le E_BYTE.lt (Nat.le_of_eq g1.symm))
  have ne3 : w_INT ≠ b1 := Nat.ne_of_lt (Nat.lt_of_lt_of_le E_INT.lt (Nat.le_of_eq g1.symm))
  have g_b1 : n0 ≤ b1 := Nat.le_trans Z0 (Nat.le_of_eq g1.symm)
  have S_BYTE__1 := S_BYTE.ext E1
  have E_BYTE__1 := E_BYTE.ext E1
  have S_INT__1 := S_INT.ext E1
  have E_INT__1 := E_INT.ext E1
  have S_CS__1 := S_CS.ext E1
  have Z1 : n0 ≤ h1.size := Nat.le_trans Z0 E1.1
  have V_b1 : Arv Z h1 b1 k1 .char (2 : Int32) [(.int (0 : Int32)), (.int (0 : Int32))] (.int (0 : Int32)) := (Arv.new A1 (by decide)).pad (pad_rep [] (.int (0 : Int32)) 2)
  refine GoW.st st1 ?_
  show GoW _ _ _ _ _ _ _ T1 (mkF m 3 #[.val (.int p0), .val (.int p1), .val (.int p2), .val (.int p3), .unset, .unset, .unset, .unset, .unset, .unset, .unset, .unset, .unset] [(.ref b1)])
  refine GoW.st (fun _ k => XS.astore X1.here hx rfl (hb hby at_3) rfl rfl (l' := #[.val (.int p0), .val (.int p1), .val (.int p2), .val (.int p3), .val (.ref b1), .unset, .unset, .unset, .unset, .unset, .unset, .unset, .unset]) rfl k) ?_
  show GoW _ _ _ _ _ _ _ T1 (mkF m 5 #[.val (.int p0), .val (.int p1), .val (.int p2), .val (.int p3), .val (.ref b1), .unset, .unset, .unset, .unset, .unset, .unset, .unset, .unset] [])
  refine GoW.st (fun _ k => XS.aload X1.here hx rfl (hb hby at_5) rfl rfl k) ?_
  show GoW _ _ _ _ _ _ _ T1 (mkF m 7 #[.val (.int p0), .val (.int p1), .val (.int p2), .val (.int p3), .val (.ref b1), .unset, .unset, .unset, .unset, .unset, .unset, .unset, .unset] [(.ref b1)])
  refine GoW.st (fun _ k => XS.iconst X1.here hx rfl (hb hby at_7) k) ?_
  show GoW _ _ _ _ _ _ _ T1 (mkF m 8 #[.val (.int p0), .val (.int p1), .val (.int p2), .val (.int p3), .val (.ref b1), .unset, .unset, .unset, .unset, .unset, .unset, .unset, .unset] [(.int (0 : Int32)), (.ref b1)])
  refine GoW.st (fun _ k => XS.iloadN X1.here hx rfl (hb hby at_8) rfl k) ?_
  show GoW _ _ _ _ _ _ _ T1 (mkF m 9 #[.val (.int p0), .val (.int p1), .val (.int p2), .val (.int p3), .val (.ref b1), .unset, .unset, .unset, .unset, .unset, .unset, .unset, .unset] [(.int p0), (.int (0 : Int32)), (.ref b1)])
  refine GoW.st (fun _ k => XS.sipush X1.here hx rfl (hb hby at_9) k) ?_
  show GoW _ _ _ _ _ _ _ T1 (mkF m 12 #[.val (.int p0), .val (.int p1), .val (.int p2), .val (.int p3), .val (.ref b1), .unset, .unset, .unset, .unset, .unset, .unset, .unset, .unset] [(.int (255 : Int32)), (.int p0), (.int (0 : Int32)), (.ref b1)])
  refine GoW.st (fun _ k => XS.iand X1.here hx rfl (hb hby at_12) rfl k) ?_
  show GoW _ _ _ _ _ _ _ T1 (mkF m 13 #[.val (.int p0), .val (.int p1), .val (.int p2), .val (.int p3), .val (.ref b1), .unset, .unset, .unset, .unset, .unset, .unset, .unset, .unset] [(.int (p0 &&& (255 : Int32))), (.int (0 : Int32)), (.ref b1)])
  refine GoW.st (fun _ k => XS.i2c X1.here hx rfl (hb hby at_13) rfl k) ?_
  show GoW _ _ _ _ _ _ _ T1 (mkF m 14 #[.val (.int p0), .val (.int p1), .val (.int p2), .val (.int p3), .val (.ref b1), .unset, .unset, .unset, .unset, .unset, .unset, .unset, .unset] [(.int ((p0 &&& (255 : Int32)).toUInt32.toUInt16.toUInt32.toInt32)), (.int (0 : Int32)), (.ref b1)])
  obtain ⟨cl4, Ar4, qq4, SS4, NN4, HH4, GG4⟩ := id V_b1
  have hin5 : ¬ ((0 : Int32) < 0 ∨ cl4.slots.size ≤ ((0 : Int32)).toNatClampNeg) := inb_of SS4 ⟨by decide, by decide⟩
  obtain ⟨T6, h6, X6, e6, W6, st6⟩ := stC X1 hx hZ e1 Ar4 (j := (0 : Int32)) hin5 (g := (mkF m 14 #[.val (.int p0), .val (.int p1), .val (.int p2), .val (.int p3), .val (.ref b1), .unset, .unset, .unset, .unset, .unset, .unset, .unset, .unset] [(.int ((p0 &&& (255 : Int32)).toUInt32.toUInt16.toUInt32.toInt32)), (.int (0 : Int32)), (.ref b1)])) rfl rfl (hb hby at_14)
  have V_b1__6 : Arv Z h6 b1 k1 .char (2 : Int32) [(.int (nar .char ((p0 &&& (255 : Int32)).toUInt32.toUInt16.toUInt32.toInt32))), (.int (0 : Int32))] (.int (0 : Int32)) := Arv.set Ar4 qq4 SS4 NN4 HH4 GG4 (fits_nar_char _) W6 0 rfl (Nat.le_of_ble_eq_true rfl)
  have S_BYTE__6 := S_BYTE__1.wr W6
  have E_BYTE__6 := E_BYTE__1.wr W6
  have S_INT__6 := S_INT__1.wr W6
  have E_INT__6 := E_INT__1.wr W6
  have S_CS__6 := S_CS__1.wr W6
  have Z6 : n0 ≤ h6.size := Nat.le_trans Z1 (Keep.of_wr W6).1
  have N6 := Fr.snoc X6 N0 g_b1
  refine GoW.st st6 ?_
  show GoW _ _ _ _ _ _ _ T6 (mkF m 15 #[.val (.int p0), .val (.int p1), .val (.int p2), .val (.int p3), .val (.ref b1), .unset, .unset, .unset, .unset, .unset, .unset, .unset, .unset] [])
  refine GoW.st (fun _ k => XS.aload X6.here hx rfl (hb hby at_15) rfl rfl k) ?_
  show GoW _ _ _ _ _ _ _ T6 (mkF m 17 #[.val (.int p0), .val (.int p1), .val (.int p2), .val (.int p3), .val (.ref b1), .unset, .unset, .unset, .unset, .unset, .unset, .unset, .unset] [(.ref b1)])
  refine GoW.st (fun _ k => XS.iconst X6.here hx rfl (hb hby at_17) k) ?_
  show GoW _ _ _ _ _ _ _ T6 (mkF m 18 #[.val (.int p0), .val (.int p1), .val (.int p2), .val (.int p3), .val (.ref b1), .unset, .unset, .unset, .unset, .unset, .unset, .unset, .unset] [(.int (1 : Int32)), (.ref b1)])
  refine GoW.st (fun _ k => XS.iloadN X6.here hx rfl (hb hby at_18) rfl k) ?_
  show GoW _ _ _ _ _ _ _ T6 (mkF m 19 #[.val (.int p0), .val (.int p1), .val (.int p2), .val (.int p3), .val (.ref b1), .unset, .unset, .unset, .unset, .unset, .unset, .unset, .unset] [(.int p0), (.int (1 : Int32)), (.ref b1)])
  refine GoW.st (fun _ k => XS.bipush X6.here hx rfl (hb hby at_19) k) ?_
  show GoW _ _ _ _ _ _ _ T6 (mkF m 21 #[.val (.int p0), .val (.int p1), .val (.int p2), .val (.int p3), .val (.ref b1), .unset, .unset, .unset, .unset, .unset, .unset, .unset, .unset] [(.int (8 : Int32)), (.int p0), (.int (1 : Int32)), (.ref b1)])
  refine GoW.st (fun _ k => XS.iushr X6.here hx rfl (hb hby at_21) rfl k) ?_
  show GoW _ _ _ _ _ _ _ T6 (mkF m 22 #[.val (.int p0), .val (.int p1), .val (.int p2), .val (.int p3), .val (.ref b1), .unset, .unset, .unset, .unset, .unset, .unset, .unset, .unset] [(.int ((p0.toUInt32 >>> ((8 : Int32) &&& 31).toUInt32).toInt32)), (.int (1 : Int32)), (.ref b1)])
  refine GoW.st (fun _ k => XS.sipush X6.here hx rfl (hb hby at_22) k) ?_
  show GoW _ _ _ _ _ _ _ T6 (mkF m 25 #[.val (.int p0), .val (.int p1), .val (.int p2), .val (.int p3), .val (.ref b1), .unset, .unset, .unset, .unset, .unset, .unset, .unset, .unset] [(.int (255 : Int32)), (.int ((p0.toUInt32 >>> ((8 : Int32) &&& 31).toUInt32).toInt32)), (.int (1 : Int32)), (.ref b1)])
  refine GoW.st (fun _ k => XS.iand X6.here hx rfl (hb hby at_25) rfl k) ?_
  show GoW _ _ _ _ _ _ _ T6 (mkF m 26 #[.val (.int p0), .val (.int p1), .val (.int p2), .val (.int p3), .val (.ref b1), .unset, .unset, .unset, .unset, .unset, .unset, .unset, .unset] [(.int (((p0.toUInt32 >>> ((8 : Int32) &&& 31).toUInt32).toInt32) &&& (255 : Int32))), (.int (1 : Int32)), (.ref b1)])
  refine GoW.st (fun _ k => XS.i2c X6.here hx rfl (hb hby at_26) rfl k) ?_
  show GoW _ _ _ _ _ _ _ T6 (mkF m 27 #[.val (.int p0), .val (.int p1), .val (.int p2), .val (.int p3), .val (.ref b1), .unset, .unset, .unset, .unset, .unset, .unset, .unset, .unset] [(.int ((((p0.toUInt32 >>> ((8 : Int32) &&& 31).toUInt32).toInt32) &&& (255 : Int32)).toUInt32.toUInt16.toUInt32.toInt32)), (.int (1 : Int32)), (.ref b1)])
  obtain ⟨cl7, Ar7, qq7, SS7, NN7, HH7, GG7⟩ := id V_b1__6
  have hin8 : ¬ ((1 : Int32) < 0 ∨ cl7.slots.size ≤ ((1 : Int32)).toNatClampNeg) := inb_of SS7 ⟨by decide, by decide⟩
  obtain ⟨T9, h9, X9, e9, W9, st9⟩ := stC X6 hx hZ e6 Ar7 (j := (1 : Int32)) hin8 (g := (mkF m 27 #[.val (.int p0), .val (.int p1), .val (.int p2), .val (.int p3), .val (.ref b1), .unset, .unset, .unset, .unset, .unset, .unset, .unset, .unset] [(.int ((((p0.toUInt32 >>> ((8 : Int32) &&& 31).toUInt32).toInt32) &&& (255 : Int32)).toUInt32.toUInt16.toUInt32.toInt32)), (.int (1 : Int32)), (.ref b1)])) rfl rfl (hb hby at_27)
  have V_b1__9 : Arv Z h9 b1 k1 .char (2 : Int32) [(.int (nar .char ((p0 &&& (255 : Int32)).toUInt32.toUInt16.toUInt32.toInt32))), (.int (nar .char ((((p0.toUInt32 >>> ((8 : Int32) &&& 31).toUInt32).toInt32) &&& (255 : Int32)).toUInt32.toUInt16.toUInt32.toInt32)))] (.int (0 : Int32)) := Arv.set Ar7 qq7 SS7 NN7 HH7 GG7 (fits_nar_char _) W9 1 rfl (Nat.le_of_ble_eq_true rfl)
  have S_BYTE__9 := S_BYTE__6.wr W9
  have E_BYTE__9 := E_BYTE__6.wr W9
  have S_INT__9 := S_INT__6.wr W9
  have E_INT__9 := E_INT__6.wr W9
  have S_CS__9 := S_CS__6.wr W9
  have Z9 : n0 ≤ h9.size := Nat.le_trans Z6 (Keep.of_wr W9).1
  have N9 := Fr.snoc X9 N6 g_b1
  refine GoW.st st9 ?_
  show GoW _ _ _ _ _ _ _ T9 (mkF m 28 #[.val (.int p0), .val (.int p1), .val (.int p2), .val (.int p3), .val (.ref b1), .unset, .unset, .unset, .unset, .unset, .unset, .unset, .unset] [])
  obtain ⟨T10, h10, X10, e10, E10, A10, D10, -, st10⟩ := newO X9 hx hZ hown (hw _ (List.mem_of_getElem? (i := 1) rfl)) (hw _ (List.mem_of_getElem? (i := 2) rfl)) (hw _ (List.mem_of_getElem? (i := 3) rfl)) e9 (g := (mkF m 28 #[.val (.int p0), .val (.int p1), .val (.int p2), .val (.int p3), .val (.ref b1), .unset, .unset, .unset, .unset, .unset, .unset, .unset, .unset] [])) rfl (hb hby at_28) (by decide) (by decide)
  obtain ⟨b10, g10⟩ : ∃ z, z = h9.size := ⟨_, rfl⟩
  rw [← g10] at A10 D10 st10
  have ne11 : w_BYTE ≠ b10 := Nat.ne_of_lt (Nat.lt_of_lt_of_le E_BYTE__9.lt (Nat.le_of_eq g10.symm))
  have ne12 : w_INT ≠ b10 := Nat.ne_of_lt (Nat.lt_of_lt_of_le E_INT__9.lt (Nat.le_of_eq g10.symm))
  have ne13 : b1 ≠ b10 := Nat.ne_of_lt (Nat.lt_of_lt_of_le V_b1__9.lt (Nat.le_of_eq g10.symm))
  have g_b10 : n0 ≤ b10 := Nat.le_trans Z9 (Nat.le_of_eq g10.symm)
  have S_BYTE__10 := S_BYTE__9.ext E10
  have E_BYTE__10 := E_BYTE__9.ext E10
  have S_INT__10 := S_INT__9.ext E10
  have E_INT__10 := E_INT__9.ext E10
  have S_CS__10 := S_CS__9.ext E10
  have V_b1__10 := V_b1__9.ext E10
  have Z10 : n0 ≤ h10.size := Nat.le_trans Z9 E10.1
  have F_coder_b10 : Fld Z h10 b10 "java/lang/String" "coder" "B" (.int (0 : Int32)) := D10 (Or.inr (hw _ (List.mem_of_getElem? (i := 27) rfl))) (ty := .byte) (by decide)
  have F_value_b10 : Fld Z h10 b10 "java/lang/String" "value" "[B" .null := D10 (Or.inr (hw _ (List.mem_of_getElem? (i := 29) rfl))) (ty := (.array .byte)) (by decide)
  refine GoW.st st10 ?_
  show GoW _ _ _ _ _ _ _ T10 (mkF m 31 #[.val (.int p0), .val (.int p1), .val (.int p2), .val (.int p3), .val (.ref b1), .unset, .unset, .unset, .unset, .unset, .unset, .unset, .unset] [(.ref b10)])
  refine GoW.st (fun _ k => XS.dup X10.here hx rfl (hb hby at_31) rfl rfl k) ?_
  show GoW _ _ _ _ _ _ _ T10 (mkF m 32 #[.val (.int p0), .val (.int p1), .val (.int p2), .val (.int p3), .val (.ref b1), .unset, .unset, .unset, .unset, .unset, .unset, .unset, .unset] [(.ref b10), (.ref b10)])
  refine GoW.st (fun _ k => XS.aload X10.here hx rfl (hb hby at_32) rfl rfl k) ?_
  show GoW _ _ _ _ _ _ _ T10 (mkF m 34 #[.val (.int p0), .val (.int p1), .val (.int p2), .val (.int p3), .val (.ref b1), .unset, .unset, .unset, .unset, .unset, .unset, .unset, .unset] [(.ref b1), (.ref b10), (.ref b10)])
  have hws : ∀ d ∈ StrChars.Road.words, d.before a0 Z = true := fun d hd => hw d ((by decide +kernel : ∀ d ∈ StrChars.Road.words, d ∈ tables_1) d hd)
  have hlat : ∀ c ∈ [(nar .char ((p0 &&& (255 : Int32)).toUInt32.toUInt16.toUInt32.toInt32)), (nar .char ((((p0.toUInt32 >>> ((8 : Int32) &&& 31).toUInt32).toInt32) &&& (255 : Int32)).toUInt32.toUInt16.toUInt32.toInt32))], ¬ c < 0 ∧ ¬ (255 : Int32) < c := by
    intro c hc
    simp only [List.mem_cons, List.not_mem_nil, or_false] at hc
    rcases hc with rfl | rfl
    · rw [show (nar .char ((p0 &&& (255 : Int32)).toUInt32.toUInt16.toUInt32.toInt32)) = p0 &&& 255 from by simp only [nar, i2c_mask]]; exact own_and255 _
    · rw [show (nar .char ((((p0.toUInt32 >>> ((8 : Int32) &&& 31).toUInt32).toInt32) &&& (255 : Int32)).toUInt32.toUInt16.toUInt32.toInt32)) = ((p0.toUInt32 >>> ((8 : Int32) &&& 31).toUInt32).toInt32) &&& 255 from by simp only [nar, i2c_mask]]; exact own_and255 _
  obtain ⟨_, _, ⟨T14, L14, k14, n14⟩, -, X14, ⟨Lc14, hQ14, l14, y14, z14⟩, st14⟩ := X10.specialBack hx (y := (⟨"java/lang/String", "<init>", "([C)V"⟩ : MethodName)) rfl hown (mvT hZ (hw _ (List.mem_of_getElem? (i := 4) rfl))) (mvT hZ (hw _ (List.mem_of_getElem? (i := 5) rfl))) (mvT hZ (hw _ (List.mem_of_getElem? (i := 6) rfl))) (by decide) (StrChars.Road.backV (W := 1) hZ hws (kI := 4) (hw _ (List.mem_of_getElem? (i := 2) rfl)) (cs := [(nar .char ((p0 &&& (255 : Int32)).toUInt32.toUInt16.toUInt32.toInt32)), (nar .char ((((p0.toUInt32 >>> ((8 : Int32) &&& 31).toUInt32).toInt32) &&& (255 : Int32)).toUInt32.toUInt16.toUInt32.toInt32))]) (bs := [((nar .char ((p0 &&& (255 : Int32)).toUInt32.toUInt16.toUInt32.toInt32))).toInt8.toInt32, ((nar .char ((((p0.toUInt32 >>> ((8 : Int32) &&& 31).toUInt32).toInt32) &&& (255 : Int32)).toUInt32.toUInt16.toUInt32.toInt32))).toInt8.toInt32]) (n := 2) g_b10 Z10 A10 F_value_b10 F_coder_b10 V_b1__10 S_CS__10 P_CS rfl rfl (by decide) (by decide) hlat rfl (by decide) (by decide)) (g := (mkF m 34 #[.val (.int p0), .val (.int p1), .val (.int p2), .val (.int p3), .val (.ref b1), .unset, .unset, .unset, .unset, .unset, .unset, .unset, .unset] [(.ref b1), (.ref b10), (.ref b10)])) rfl (by rw [hml]; rfl) (Steps.refl _) (a := b10) (argsL := [(.ref b1)]) (rest := [(.ref b10)]) (lenOf pd_4 rfl) rfl (by show 2 * 0 + _ ≤ _; exact Nat.le_of_eq rfl) (hb hby at_34) (fun _ _ => ⟨rfl, e10, (by decide : 2 + 1 ≤ _), (by decide : 6 + 2 ≤ _)⟩)
  dsimp only [Pt.U, Pt.locs, Pt.cells, Pt.slots] at X14 l14 y14 z14 st14 hQ14
  subst l14 y14 z14
  generalize e14 : T14.heap = h14 at hQ14
  obtain ⟨rfl, N14q, K14, EE14, FFc14, -⟩ := hQ14
  have N14 := Fr.app N9 N14q
  refine GoW.st (fun _ k => st14.trans k) ?_
  have S_BYTE__14 := own_sta S_BYTE__10 K14 (allS A10.cell (all0))
  have E_BYTE__14 := E_BYTE__10.keep K14
  have S_INT__14 := own_sta S_INT__10 K14 (allS A10.cell (all0))
  have E_INT__14 := E_INT__10.keep K14
  have S_CS__14 := own_sta S_CS__10 K14 (allS A10.cell (all0))
  have V_b1__14 := V_b1__10.keep K14 (ninS ne13 (nin0))
  have A10__14 := A10.keep K14
  have Z14 : n0 ≤ h14.size := Nat.le_trans Z10 K14.1
  show GoW _ _ _ _ _ _ _ T14 (mkF m 37 #[.val (.int p0), .val (.int p1), .val (.int p2), .val (.int p3), .val (.ref b1), .unset, .unset, .unset, .unset, .unset, .unset, .unset, .unset] [(.ref b10)])
  refine GoW.st (fun _ k => XS.astore X14.here hx rfl (hb hby at_37) rfl rfl (l' := #[.val (.int p0), .val (.int p1), .val (.int p2), .val (.int p3), .val (.ref b1), .val (.ref b10), .unset, .unset, .unset, .unset, .unset, .unset, .unset]) rfl k) ?_
  show GoW _ _ _ _ _ _ _ T14 (mkF m 39 #[.val (.int p0), .val (.int p1), .val (.int p2), .val (.int p3), .val (.ref b1), .val (.ref b10), .unset, .unset, .unset, .unset, .unset, .unset, .unset] [])
  refine GoW.st (fun _ k => XS.iloadN X14.here hx rfl (hb hby at_39) rfl k) ?_
  show GoW _ _ _ _ _ _ _ T14 (mkF m 40 #[.val (.int p0), .val (.int p1), .val (.int p2), .val (.int p3), .val (.ref b1), .val (.ref b10), .unset, .unset, .unset, .unset, .unset, .unset, .unset] [(.int p0)])
  refine GoW.st (fun _ k => XS.bipush X14.here hx rfl (hb hby at_40) k) ?_
  show GoW _ _ _ _ _ _ _ T14 (mkF m 42 #[.val (.int p0), .val (.int p1), .val (.int p2), .val (.int p3), .val (.ref b1), .val (.ref b10), .unset, .unset, .unset, .unset, .unset, .unset, .unset] [(.int (16 : Int32)), (.int p0)])
  refine GoW.st (fun _ k => XS.iushr X14.here hx rfl (hb hby at_42) rfl k) ?_
  show GoW _ _ _ _ _ _ _ T14 (mkF m 43 #[.val (.int p0), .val (.int p1), .val (.int p2), .val (.int p3), .val (.ref b1), .val (.ref b10), .unset, .unset, .unset, .unset, .unset, .unset, .unset] [(.int ((p0.toUInt32 >>> ((16 : Int32) &&& 31).toUInt32).toInt32))])
  refine GoW.st (fun _ k => XS.iconst X14.here hx rfl (hb hby at_43) k) ?_
  show GoW _ _ _ _ _ _ _ T14 (mkF m 44 #[.val (.int p0), .val (.int p1), .val (.int p2), .val (.int p3), .val (.ref b1), .val (.ref b10), .unset, .unset, .unset, .unset, .unset, .unset, .unset] [(.int (1 : Int32)), (.int ((p0.toUInt32 >>> ((16 : Int32) &&& 31).toUInt32).toInt32))])
  refine GoW.st (fun _ k => XS.iand X14.here hx rfl (hb hby at_44) rfl k) ?_
  show GoW _ _ _ _ _ _ _ T14 (mkF m 45 #[.val (.int p0), .val (.int p1), .val (.int p2), .val (.int p3), .val (.ref b1), .val (.ref b10), .unset, .unset, .unset, .unset, .unset, .unset, .unset] [(.int (((p0.toUInt32 >>> ((16 : Int32) &&& 31).toUInt32).toInt32) &&& (1 : Int32)))])
  rcases and_one ((p0.toUInt32 >>> ((16 : Int32) &&& 31).toUInt32).toInt32) with hk15 | hk15
  · rw [hk15]
    show GoW _ _ _ _ _ _ _ T14 (mkF m 45 #[.val (.int p0), .val (.int p1), .val (.int p2), .val (.int p3), .val (.ref b1), .val (.ref b10), .unset, .unset, .unset, .unset, .unset, .unset, .unset] [(.int (0 : Int32))])
    refine GoW.st (fun _ k => XS.ifYes X14.here hx rfl (pc0 := 45) (pc' := 54) rfl (hb hby at_45) rfl ((if0 _ _).trans (teq (by decide : (0 : Int32) = (0 : Int32))).1) (by decide) (by decide) k) ?_
    show GoW _ _ _ _ _ _ _ T14 (mkF m 54 #[.val (.int p0), .val (.int p1), .val (.int p2), .val (.int p3), .val (.ref b1), .val (.ref b10), .unset, .unset, .unset, .unset, .unset, .unset, .unset] [])
    obtain ⟨T16, X16, e16, st16⟩ := getS2 X14 hx hZ hown (host := "") (Or.inl (hw _ (List.mem_of_getElem? (i := 30) rfl))) Via.refl e14 S_BYTE__14 (g := (mkF m 54 #[.val (.int p0), .val (.int p1), .val (.int p2), .val (.int p3), .val (.ref b1), .val (.ref b10), .unset, .unset, .unset, .unset, .unset, .unset, .unset] [])) rfl (hb hby at_54)
    refine GoW.st st16 ?_
    show GoW _ _ _ _ _ _ _ T16 (mkF m 57 #[.val (.int p0), .val (.int p1), .val (.int p2), .val (.int p3), .val (.ref b1), .val (.ref b10), .unset, .unset, .unset, .unset, .unset, .unset, .unset] [(.ref w_BYTE)])
    refine GoW.st (fun _ k => XS.astore X16.here hx rfl (hb hby at_57) rfl rfl (l' := #[.val (.int p0), .val (.int p1), .val (.int p2), .val (.int p3), .val (.ref b1), .val (.ref b10), .val (.ref w_BYTE), .unset, .unset, .unset, .unset, .unset, .unset]) rfl k) ?_
    show GoW _ _ _ _ _ _ _ T16 (mkF m 59 #[.val (.int p0), .val (.int p1), .val (.int p2), .val (.int p3), .val (.ref b1), .val (.ref b10), .val (.ref w_BYTE), .unset, .unset, .unset, .unset, .unset, .unset] [])
    exact tl_0 l Z a0 hw p0 p1 p2 p3 w_BYTE w_INT G1 b1 b10 w_BYTE h0 h14 n0 X16 hx hZ hby hml hown hnm hlk hret e16 N14 Z14 
  · rw [hk15]
    show GoW _ _ _ _ _ _ _ T14 (mkF m 45 #[.val (.int p0), .val (.int p1), .val (.int p2), .val (.int p3), .val (.ref b1), .val (.ref b10), .unset, .unset, .unset, .unset, .unset, .unset, .unset] [(.int (1 : Int32))])
    refine GoW.st (fun _ k => XS.ifNo X14.here hx rfl (hb hby at_45) rfl ((if0 _ _).trans (feq (by decide : ¬ ((1 : Int32) = (0 : Int32)))).1) k) ?_
    show GoW _ _ _ _ _ _ _ T14 (mkF m 48 #[.val (.int p0), .val (.int p1), .val (.int p2), .val (.int p3), .val (.ref b1), .val (.ref b10), .unset, .unset, .unset, .unset, .unset, .unset, .unset] [])
    obtain ⟨T17, X17, e17, st17⟩ := getS2 X14 hx hZ hown (host := "") (Or.inl (hw _ (List.mem_of_getElem? (i := 75) rfl))) Via.refl e14 S_INT__14 (g := (mkF m 48 #[.val (.int p0), .val (.int p1), .val (.int p2), .val (.int p3), .val (.ref b1), .val (.ref b10), .unset, .unset, .unset, .unset, .unset, .unset, .unset] [])) rfl (hb hby at_48)
    refine GoW.st st17 ?_
    show GoW _ _ _ _ _ _ _ T17 (mkF m 51 #[.val (.int p0), .val (.int p1), .val (.int p2), .val (.int p3), .val (.ref b1), .val (.ref b10), .unset, .unset, .unset, .unset, .unset, .unset, .unset] [(.ref w_INT)])
    refine GoW.st (fun _ k => XS.goto X17.here hx rfl (pc0 := 51) (pc' := 57) rfl (hb hby at_51) (by decide) (by decide) k) ?_
    show GoW _ _ _ _ _ _ _ T17 (mkF m 57 #[.val (.int p0), .val (.int p1), .val (.int p2), .val (.int p3), .val (.ref b1), .val (.ref b10), .unset, .unset, .unset, .unset, .unset, .unset, .unset] [(.ref w_INT)])
    refine GoW.st (fun _ k => XS.astore X17.here hx rfl (hb hby at_57) rfl rfl (l' := #[.val (.int p0), .val (.int p1), .val (.int p2), .val (.int p3), .val (.ref b1), .val (.ref b10), .val (.ref w_INT), .unset, .unset, .unset, .unset, .unset, .unset]) rfl k) ?_
    show GoW _ _ _ _ _ _ _ T17 (mkF m 59 #[.val (.int p0), .val (.int p1), .val (.int p2), .val (.int p3), .val (.ref b1), .val (.ref b10), .val (.ref w_INT), .unset, .unset, .unset, .unset, .unset, .unset] [])
    exact tl_0 l Z a0 hw p0 p1 p2 p3 w_BYTE w_INT G1 b1 b10 w_INT h0 h14 n0 X17 hx hZ hby hml hown hnm hlk hret e17 N14 Z14 
set_option maxRecDepth 65536 in
set_option maxHeartbeats 40000000 in
theorem comes_1 {Post : Tables → Env → Array Value → State → Outcome → State → Prop} (hpost : ∀ tb e args s v u, (limb_1_1.after args s (.returned v) u = true ∧ limb_1_2.after args s (.returned v) u = true ∧ True) → ReturnedEndW s (.returned v) u (Jvm.fieldLocs frame_1_writes args s ++ Jvm.arrayLocs frame_1_arrays args s ++ Jvm.staticLocs frame_1_statics s) 32 1152 → Post tb e args s (.returned v) u) :
    ArmFor flags0 classFile x code maxLocals ret World_1 tables_1 room_1 Calls_1 rest_1 Pre_1 Post := by
  intro l hfl _ _ p e ha hc hk s m args below hf hA hF happ hP
  obtain ⟨hcalls, hrest, hpre⟩ := hP
  obtain ⟨-, -, -, hnamed, -, -, -, hat⟩ := (Spec.applies_iff hf).mp happ
  obtain ⟨hg, hn⟩ := and_e (Cond.before_iff.mp (show (Jvm.Cond.and given_1 narrow_1).before args s = true from hpre))
  obtain ⟨g1, g2⟩ := and_e hg
  obtain ⟨g3, g4⟩ := and_e g2
  obtain ⟨g5, g6⟩ := and_e g4
  obtain ⟨g7, g8⟩ := and_e g6
  obtain ⟨w0, w1, w2, w3, rfl⟩ : ∃ w0 w1 w2 w3 : Value, args = #[w0, w1, w2, w3] := by
    have hs : args.size = 4 := by simpa [Cond.value, given_1] using g1
    obtain ⟨L⟩ := args
    match L, hs with
    | [w0, w1, w2, w3], _ => exact ⟨w0, w1, w2, w3, rfl⟩
  have hw := fun d (hd : d ∈ tables_1) => atoms_spec (ws := Jvm.Cond.code x code maxLocals ret :: tables_1) hat d (List.mem_cons_of_mem _ hd)
  have hfit : Fit s := fun {y c} hc i hi => by
    obtain ⟨ha, rfl⟩ := Array.getElem?_eq_some_iff.mp hc
    have q := List.all_eq_true.mp ((Array.all_eq_true_iff_forall_mem.mp hF) _ (Array.getElem_mem ha)) i (List.mem_range.mpr hi)
    simpa [Array.getElem?_eq_getElem hi] using q
  obtain ⟨hsets, hown0⟩ := atoms_of _ (rest_1_c_eq ▸ (show rest_1_c.before _ s = true from hrest))
  obtain ⟨i0, ei0⟩ := is_v g3
  obtain rfl : w0 = (.int i0) := Option.some.inj ei0
  obtain ⟨i1, ei1⟩ := is_v g5
  obtain rfl : w1 = (.int i1) := Option.some.inj ei1
  obtain ⟨i2, ei2⟩ := is_v g7
  obtain rfl : w2 = (.int i2) := Option.some.inj ei2
  obtain ⟨i3, ei3⟩ := is_v g8
  obtain rfl : w3 = (.int i3) := Option.some.inj ei3
  obtain ⟨g9, g10⟩ := and_e hn
  obtain ⟨w_BYTE, ev_BYTE⟩ := exa_v g9
  have S_BYTE := Sta.start ev_BYTE (Or.inr ⟨(hw _ (List.mem_of_getElem? (i := 31) rfl)), (hw _ (List.mem_of_getElem? (i := 32) rfl))⟩)
  have E_BYTE := Exa.start ev_BYTE g9
  obtain ⟨w_INT, ev_INT⟩ := exa_v g10
  have S_INT := Sta.start ev_INT (Or.inr ⟨(hw _ (List.mem_of_getElem? (i := 31) rfl)), (hw _ (List.mem_of_getElem? (i := 76) rfl))⟩)
  have E_INT := Exa.start ev_INT g10
  have n3 := not_v (Cond.before_iff.mp (hsets _ (List.mem_of_getElem? (i := 2) rfl)))
  obtain ⟨G1, e6⟩ := is_v (Cond.before_iff.mp (hsets _ (List.mem_of_getElem? (i := 1) rfl)))
  have S_CS : Sta s s.heap "java/lang/String" "COMPACT_STRINGS" "Z" (.int G1) := Sta.start e6 (Or.inl (hsets _ (List.mem_of_getElem? (i := 0) rfl)))
  have P_CS : ¬ (G1 = (0 : Int32)) := gotF (Cond.eq_ints e6 (Term.int_eval (0))) n3
  obtain ⟨n, o, h1, h2, h3, _, L, rfl, ⟨rfl, N⟩, hq⟩ := rm0 l s _ hw tables_1 i0 i1 i2 i3 w_BYTE w_INT G1 s.heap s.heap.size (Nat.le_refl _) S_BYTE E_BYTE S_INT E_INT S_CS P_CS p e ha hc hk s m _ below hf ((Spec.applies_iff_loose hf).mp happ).1 ⟨rfl, State.Warmed39.refl s, rfl⟩ trivial
  refine ⟨n, _, h1, h2, h3, hpost _ _ _ _ _ _ ⟨Cond.after_iff.mpr rfl, Cond.after_iff.mpr (eq_i res_at (Term.int_eval (1)) rfl), trivial⟩ ⟨hq.1, hq.2.1, hq.2.2.1, (hq.2.2.2.sift fun y hy => Or.inr (N y hy)).mono (by decide) (by decide)⟩⟩
theorem main_1_1 : Claimed_1_1 := comes_1 fun _ _ _ _ _ _ h hF => ⟨h.1, hF⟩
theorem main_1_2 : Claimed_1_2 := comes_1 fun _ _ _ _ _ _ h hF => ⟨h.2.1, hF⟩
end Jvm.Pilot.@@N@@
namespace Jvm.Pilot.@@N@@
open Jvm Jvm.ClassFile Sem Op Lib Jvm.Free Jvm.Stand Jvm.Pilot.@@N@@.Jvm.D
/-! MADE BY PROGRAM (witnessworld.py) out of the Statement's table words and the real class files: 25 classes; the members and pool entries that the words name. The judged class is class 1, her method 1. -/
namespace start1
open Jvm.ClassFile
def u (s : String) : CpInfo := .utf8 (stringToUtf16 s)
/-- a pool by its gaps: so many unusable entries, then the entry; so many at the end -/
def gap : Nat → List CpInfo → List CpInfo
  | 0, r => r
  | n + 1, r => .unusable :: gap n r
def poolList (es : List (Nat × CpInfo)) (last : Nat) : List CpInfo := es.foldr (fun e r => gap e.1 (e.2 :: r)) (gap last [])
def pool (es : List (Nat × CpInfo)) (last : Nat) : Array CpInfo := ⟨poolList es last⟩
def fileOf (pool : Array CpInfo) (this : Nat) (attrs : Array Attribute := #[]) (ms : Array MethodInfo := #[]) (fl : Nat := 33) (sup : Nat := 0) (ifs : Array Nat := #[]) (fds : Array FieldInfo := #[]) : ClassFile where
  minorVersion := 0
  majorVersion := 65
  constantPool := pool
  accessFlags := fl
  thisClass := this
  superClass := sup
  interfaces := ifs
  fields := fds
  methods := ms
  attributes := attrs
def plain (name : String) (sup : Option ClassId) : Class where
  name := name
  kind := .ordinary
  loader := none
  accessFlags := 33
  super := sup
  interfaces := #[]
  cf := none
  fields := #[]
  methods := #[]
  instanceTypes := #[]
  staticTypes := #[]
  resolved := #[]
  callSites := []
  init := .initialized
  statics := none
  mirror := none

def pool0 : Array CpInfo := pool [(5, u "<init>"), (0, u "()V"), (1, .class_ 10), (1, u "java/lang/Object")] 113

def k0c0 : Code := { maxStack := 0, maxLocals := 1, code := object_method_1_code, exceptionTable := #[], attributes := #[] }
def k0m0 : Method := { name := "<init>", desc := "()V", sig := { parameters := [], returnType := none }, accessFlags := 1, code := some k0c0 }
/-- java/lang/Object -/
def k0 : Class := { plain "java/lang/Object" none with
  accessFlags := 33
  interfaces := #[]
  cf := some (fileOf pool0 8 #[] #[{ accessFlags := 1, nameIndex := 5, descriptorIndex := 6, attributes := #[] }] 33 0 #[] #[])
  fields := #[]
  methods := #[k0m0]
  instanceTypes := #[]
  staticTypes := #[]
  resolved := Array.replicate 124 none
  statics := none }

def pool1 : Array CpInfo := pool [(2, .class_ 4), (1, u "java/lang/Object"), (0, u "<init>"), (0, u "()V"), (0, .class_ 8), (0, u "java/lang/String"), (0, .methodref 7 10), (0, .nameAndType 5 11), (0, u "([C)V"), (0, .fieldref 13 14), (0, .class_ 15), (0, .nameAndType 16 17), (0, u "com/example/prudent_checker/prudentchecker/language/ScalarType"), (0, u "INT"), (0, u "Lcom/example/prudent_checker/prudentchecker/language/ScalarType;"), (0, .fieldref 13 19), (0, .nameAndType 20 17), (0, u "BYTE"), (0, .class_ 22), (0, u "com/example/prudent_checker/prudentchecker/language/Variable"), (0, .methodref 21 24), (0, .nameAndType 5 25), (0, u "(Ljava/lang/String;Lcom/example/prudent_checker/prudentchecker/language/ScalarType;ILjava/lang/String;)V"), (0, .string 27), (0, u "p"), (0, .integer 2147483647), (0, .class_ 30), (0, u "com/example/prudent_checker/prudentchecker/language/VariableReference"), (0, .methodref 29 32), (0, .nameAndType 5 33), (0, u "(Lcom/example/prudent_checker/prudentchecker/language/Variable;)V"), (0, .methodref 29 35), (0, .nameAndType 36 37), (0, u "equals"), (0, u "(Ljava/lang/Object;)Z"), (0, .class_ 39), (0, u "com/example/prudent_checker/prudentchecker/language/VariableReferenceEqualsPinLaw"), (2, u "law"), (0, u "(IIII)Z")] 7

def k1m0 : Method := { name := "<init>", desc := "()V", sig := { parameters := [], returnType := none }, accessFlags := 1, code := none }
def k1c1 : Code := { maxStack := 8, maxLocals := 13, code := code, exceptionTable := #[], attributes := #[] }
def k1m1 : Method := { name := "law", desc := "(IIII)Z", sig := { parameters := [.int, .int, .int, .int], returnType := some .boolean }, accessFlags := 9, code := some k1c1 }
/-- com/example/prudent_checker/prudentchecker/language/VariableReferenceEqualsPinLaw -/
def k1 : Class := { plain "com/example/prudent_checker/prudentchecker/language/VariableReferenceEqualsPinLaw" (some 0) with
  accessFlags := 49
  interfaces := #[]
  cf := some (fileOf pool1 38 #[] #[{ accessFlags := 1, nameIndex := 5, descriptorIndex := 6, attributes := #[] }, { accessFlags := 9, nameIndex := 42, descriptorIndex := 43, attributes := #[] }] 49 2 #[] #[])
  fields := #[]
  methods := #[k1m0, k1m1]
  instanceTypes := #[]
  staticTypes := #[]
  resolved := Array.replicate 51 none
  statics := none }

def pool2 : Array CpInfo := pool [(1, .class_ 2), (0, u "java/io/Serializable"), (0, .class_ 4), (0, u "java/lang/Object")] 2

/-- java/io/Serializable -/
def k2 : Class := { plain "java/io/Serializable" (some 0) with
  accessFlags := 1537
  interfaces := #[]
  cf := some (fileOf pool2 1 #[] #[] 1537 3 #[] #[])
  fields := #[]
  methods := #[]
  instanceTypes := #[]
  staticTypes := #[]
  resolved := Array.replicate 7 none
  statics := none }

def pool3 : Array CpInfo := pool [(1, .class_ 2), (0, u "java/lang/Comparable"), (0, .class_ 4), (0, u "java/lang/Object")] 7

/-- java/lang/Comparable -/
def k3 : Class := { plain "java/lang/Comparable" (some 0) with
  accessFlags := 1537
  interfaces := #[]
  cf := some (fileOf pool3 1 #[] #[] 1537 3 #[] #[])
  fields := #[]
  methods := #[]
  instanceTypes := #[]
  staticTypes := #[]
  resolved := Array.replicate 12 none
  statics := none }

def pool4 : Array CpInfo := pool [(2, .class_ 4), (1, u "java/lang/CharSequence"), (42, .class_ 48), (0, u "java/lang/CharSequence$1CodePointIterator"), (10, .class_ 60), (0, u "java/lang/CharSequence$1CharIterator"), (5, .class_ 67), (0, u "java/lang/Object")] 63

/-- java/lang/CharSequence -/
def k4 : Class := { plain "java/lang/CharSequence" (some 0) with
  accessFlags := 1537
  interfaces := #[]
  cf := some (fileOf pool4 2 #[.nestMembers #[47, 59]] #[] 1537 66 #[] #[])
  fields := #[]
  methods := #[]
  instanceTypes := #[]
  staticTypes := #[]
  resolved := Array.replicate 131 none
  statics := none }

def pool5 : Array CpInfo := pool [(1, .class_ 2), (0, u "java/lang/constant/Constable"), (0, .class_ 4), (0, u "java/lang/Object")] 6

/-- java/lang/constant/Constable -/
def k5 : Class := { plain "java/lang/constant/Constable" (some 0) with
  accessFlags := 1537
  interfaces := #[]
  cf := some (fileOf pool5 1 #[] #[] 1537 3 #[] #[])
  fields := #[]
  methods := #[]
  instanceTypes := #[]
  staticTypes := #[]
  resolved := Array.replicate 11 none
  statics := none }

def pool6 : Array CpInfo := pool [(1, .class_ 2), (0, u "java/lang/constant/ConstantDesc"), (0, .class_ 4), (0, u "java/lang/Object")] 32

/-- java/lang/constant/ConstantDesc -/
def k6 : Class := { plain "java/lang/constant/ConstantDesc" (some 0) with
  accessFlags := 1537
  interfaces := #[]
  cf := some (fileOf pool6 1 #[] #[] 1537 3 #[] #[])
  fields := #[]
  methods := #[]
  instanceTypes := #[]
  staticTypes := #[]
  resolved := Array.replicate 37 none
  statics := none }

def pool7 : Array CpInfo := pool [(1, .methodref 2 3), (0, .class_ 4), (0, .nameAndType 5 6), (0, u "java/lang/Object"), (0, u "<init>"), (0, u "()V"), (2, .fieldref 10 11), (0, .class_ 12), (0, .nameAndType 13 14), (0, u "java/lang/String"), (0, u "value"), (0, u "[B"), (0, .fieldref 10 16), (0, .nameAndType 17 18), (0, u "coder"), (0, u "B"), (2, u "hash"), (0, u "I"), (2, u "hashIsZero"), (0, u "Z"), (0, .methodref 10 28), (0, .nameAndType 5 29), (0, u "([CIILjava/lang/Void;)V"), (8, .fieldref 10 39), (0, .nameAndType 40 26), (0, u "COMPACT_STRINGS"), (1, .class_ 44), (1, u "java/lang/StringUTF16"), (0, u "compress"), (1, .methodref 42 48), (0, .nameAndType 49 50), (0, u "coderFromArrayLen"), (0, u "([BI)B"), (126, .methodref 42 178), (0, .nameAndType 45 179), (0, u "([CII)[B"), (395, .class_ 576), (0, u "java/lang/CharSequence"), (22, u "CASE_INSENSITIVE_ORDER"), (0, u "Ljava/util/Comparator;"), (409, u "([C)V"), (90, u "serialPersistentFields"), (0, u "[Ljava/io/ObjectStreamField;"), (0, .class_ 1104), (0, u "java/lang/String$CaseInsensitiveComparator"), (1, .class_ 1107), (0, u "java/io/Serializable"), (0, .class_ 1109), (0, u "java/lang/Comparable"), (0, .class_ 1111), (0, u "java/lang/constant/Constable"), (0, .class_ 1113), (0, u "java/lang/constant/ConstantDesc"), (2, u "serialVersionUID"), (0, u "J"), (3, u "REPL"), (0, u "C"), (2, u "LATIN1"), (1, u "UTF16")] 323

def k7m0 : Method := { name := "<init>", desc := "()V", sig := { parameters := [], returnType := none }, accessFlags := 1, code := none }
def k7c1 : Code := { maxStack := 5, maxLocals := 2, code := jdk_42_method_3_code, exceptionTable := #[], attributes := #[] }
def k7m1 : Method := { name := "<init>", desc := "([C)V", sig := { parameters := [(.array .char)], returnType := none }, accessFlags := 1, code := some k7c1 }
def k7c2 : Code := { maxStack := 4, maxLocals := 6, code := jdk_42_method_149_code, exceptionTable := #[], attributes := #[] }
def k7m2 : Method := { name := "<init>", desc := "([CIILjava/lang/Void;)V", sig := { parameters := [(.array .char), .int, .int, (.object "java/lang/Void")], returnType := none }, accessFlags := 2, code := some k7c2 }
/-- java/lang/String -/
def k7 : Class := { plain "java/lang/String" (some 0) with
  accessFlags := 49
  interfaces := #[2, 3, 4, 5, 6]
  cf := some (fileOf pool7 10 #[.nestMembers #[1103]] #[{ accessFlags := 1, nameIndex := 5, descriptorIndex := 6, attributes := #[] }, { accessFlags := 1, nameIndex := 5, descriptorIndex := 1010, attributes := #[] }, { accessFlags := 2, nameIndex := 5, descriptorIndex := 29, attributes := #[] }] 49 2 #[1106, 1108, 575, 1110, 1112] #[{ accessFlags := 18, nameIndex := 13, descriptorIndex := 14, attributes := #[] }, { accessFlags := 18, nameIndex := 17, descriptorIndex := 18, attributes := #[] }, { accessFlags := 2, nameIndex := 21, descriptorIndex := 22, attributes := #[] }, { accessFlags := 2, nameIndex := 25, descriptorIndex := 26, attributes := #[] }, { accessFlags := 26, nameIndex := 1116, descriptorIndex := 1117, attributes := #[] }, { accessFlags := 24, nameIndex := 40, descriptorIndex := 26, attributes := #[] }, { accessFlags := 26, nameIndex := 1101, descriptorIndex := 1102, attributes := #[] }, { accessFlags := 26, nameIndex := 1121, descriptorIndex := 1122, attributes := #[] }, { accessFlags := 25, nameIndex := 599, descriptorIndex := 600, attributes := #[] }, { accessFlags := 24, nameIndex := 1125, descriptorIndex := 18, attributes := #[] }, { accessFlags := 24, nameIndex := 1127, descriptorIndex := 18, attributes := #[] }])
  fields := #[{ name := "value", type := (.array .byte), accessFlags := 18, slot := 0, constantValue := 0 }, { name := "coder", type := .byte, accessFlags := 18, slot := 1, constantValue := 0 }, { name := "hash", type := .int, accessFlags := 2, slot := 2, constantValue := 0 }, { name := "hashIsZero", type := .boolean, accessFlags := 2, slot := 3, constantValue := 0 }, { name := "serialVersionUID", type := .long, accessFlags := 26, slot := 0, constantValue := 0 }, { name := "COMPACT_STRINGS", type := .boolean, accessFlags := 24, slot := 1, constantValue := 0 }, { name := "serialPersistentFields", type := (.array (.object "java/io/ObjectStreamField")), accessFlags := 26, slot := 2, constantValue := 0 }, { name := "REPL", type := .char, accessFlags := 26, slot := 3, constantValue := 0 }, { name := "CASE_INSENSITIVE_ORDER", type := (.object "java/util/Comparator"), accessFlags := 25, slot := 4, constantValue := 0 }, { name := "LATIN1", type := .byte, accessFlags := 24, slot := 5, constantValue := 0 }, { name := "UTF16", type := .byte, accessFlags := 24, slot := 6, constantValue := 0 }]
  methods := #[k7m0, k7m1, k7m2]
  instanceTypes := #[(.array .byte), .byte, .int, .boolean]
  staticTypes := #[.long, .boolean, (.array (.object "java/io/ObjectStreamField")), .char, (.object "java/util/Comparator"), .byte, .byte]
  resolved := Array.replicate 1451 none
  statics := some 0 }

def pool8 : Array CpInfo := pool [(6, .class_ 8), (1, u "java/lang/Object"), (0, u "<init>"), (0, u "()V"), (1, .class_ 14), (1, u "java/lang/StringUTF16"), (31, u "$assertionsDisabled"), (0, u "Z"), (13, u "HI_BYTE_SHIFT"), (0, u "I"), (2, u "LO_BYTE_SHIFT"), (49, .methodref 12 116), (0, .nameAndType 117 118), (0, u "compress"), (0, u "([CI[BII)I"), (3, u "([CII)[B"), (138, u "coderFromArrayLen"), (0, u "([BI)B"), (106, .class_ 371), (1, u "java/lang/StringUTF16$LinesSpliterator"), (58, u "MAX_LENGTH"), (196, .class_ 628), (0, u "java/lang/StringUTF16$CodePointsSpliterator"), (0, .class_ 630), (0, u "java/lang/StringUTF16$CharsSpliterator")] 4

def k8m0 : Method := { name := "<init>", desc := "()V", sig := { parameters := [], returnType := none }, accessFlags := 0, code := none }
def k8c1 : Code := { maxStack := 2, maxLocals := 2, code := jdk_52_method_15_code, exceptionTable := #[], attributes := #[] }
def k8m1 : Method := { name := "coderFromArrayLen", desc := "([BI)B", sig := { parameters := [(.array .byte), .int], returnType := some .byte }, accessFlags := 8, code := some k8c1 }
def k8c2 : Code := { maxStack := 5, maxLocals := 6, code := jdk_52_method_16_code, exceptionTable := #[], attributes := #[] }
def k8m2 : Method := { name := "compress", desc := "([CII)[B", sig := { parameters := [(.array .char), .int, .int], returnType := some (.array .byte) }, accessFlags := 9, code := some k8c2 }
def k8c3 : Code := { maxStack := 3, maxLocals := 7, code := jdk_52_method_21_code, exceptionTable := #[], attributes := #[] }
def k8m3 : Method := { name := "compress", desc := "([CI[BII)I", sig := { parameters := [(.array .char), .int, (.array .byte), .int, .int], returnType := some .int }, accessFlags := 9, code := some k8c3 }
/-- java/lang/StringUTF16 -/
def k8 : Class := { plain "java/lang/StringUTF16" (some 0) with
  accessFlags := 48
  interfaces := #[]
  cf := some (fileOf pool8 12 #[.nestMembers #[627, 629, 369]] #[{ accessFlags := 0, nameIndex := 9, descriptorIndex := 10, attributes := #[] }, { accessFlags := 8, nameIndex := 261, descriptorIndex := 262, attributes := #[] }, { accessFlags := 9, nameIndex := 117, descriptorIndex := 122, attributes := #[] }, { accessFlags := 9, nameIndex := 117, descriptorIndex := 118, attributes := #[] }] 48 6 #[] #[{ accessFlags := 26, nameIndex := 61, descriptorIndex := 62, attributes := #[] }, { accessFlags := 26, nameIndex := 65, descriptorIndex := 62, attributes := #[] }, { accessFlags := 24, nameIndex := 430, descriptorIndex := 62, attributes := #[] }, { accessFlags := 4120, nameIndex := 46, descriptorIndex := 47, attributes := #[] }])
  fields := #[{ name := "HI_BYTE_SHIFT", type := .int, accessFlags := 26, slot := 0, constantValue := 0 }, { name := "LO_BYTE_SHIFT", type := .int, accessFlags := 26, slot := 1, constantValue := 0 }, { name := "MAX_LENGTH", type := .int, accessFlags := 24, slot := 2, constantValue := 0 }, { name := "$assertionsDisabled", type := .boolean, accessFlags := 4120, slot := 3, constantValue := 0 }]
  methods := #[k8m0, k8m1, k8m2, k8m3]
  instanceTypes := #[]
  staticTypes := #[.int, .int, .int, .boolean]
  resolved := Array.replicate 635 none
  statics := none }

def pool9 : Array CpInfo := pool [(2, .class_ 4), (1, u "java/lang/Enum"), (0, u "name"), (0, u "Ljava/lang/String;"), (2, u "ordinal"), (0, u "I"), (1, .class_ 14), (1, u "java/lang/Object"), (4, u "hash"), (86, .class_ 108), (1, u "java/lang/Enum$EnumDesc"), (2, .class_ 112), (0, u "java/lang/constant/Constable"), (0, .class_ 114), (0, u "java/lang/Comparable"), (0, .class_ 116), (0, u "java/io/Serializable")] 87

/-- java/lang/Enum -/
def k9 : Class := { plain "java/lang/Enum" (some 0) with
  accessFlags := 1057
  interfaces := #[5, 3, 2]
  cf := some (fileOf pool9 2 #[.nestMembers #[106]] #[] 1057 12 #[111, 113, 115] #[{ accessFlags := 18, nameIndex := 5, descriptorIndex := 6, attributes := #[] }, { accessFlags := 18, nameIndex := 9, descriptorIndex := 10, attributes := #[] }, { accessFlags := 2, nameIndex := 19, descriptorIndex := 10, attributes := #[] }])
  fields := #[{ name := "name", type := (.object "java/lang/String"), accessFlags := 18, slot := 0, constantValue := 0 }, { name := "ordinal", type := .int, accessFlags := 18, slot := 1, constantValue := 0 }, { name := "hash", type := .int, accessFlags := 2, slot := 2, constantValue := 0 }]
  methods := #[]
  instanceTypes := #[(.object "java/lang/String"), .int, .int]
  staticTypes := #[]
  resolved := Array.replicate 204 none
  statics := none }

def pool10 : Array CpInfo := pool [(1, .class_ 2), (0, u "com/example/prudent_checker/prudentchecker/language/ScalarType"), (2, u "BIT"), (0, u "Lcom/example/prudent_checker/prudentchecker/language/ScalarType;"), (2, u "BOOL"), (2, u "BYTE"), (2, u "SHORT"), (2, u "INT"), (2, u "$VALUES"), (0, u "[Lcom/example/prudent_checker/prudentchecker/language/ScalarType;"), (6, .class_ 31), (1, u "java/lang/Enum"), (8, u "keyword"), (0, u "Ljava/lang/String;"), (2, u "width"), (0, u "I"), (2, u "signed"), (0, u "Z")] 64

/-- com/example/prudent_checker/prudentchecker/language/ScalarType -/
def k10 : Class := { plain "com/example/prudent_checker/prudentchecker/language/ScalarType" (some 9) with
  accessFlags := 16433
  interfaces := #[]
  cf := some (fileOf pool10 1 #[] #[] 16433 29 #[] #[{ accessFlags := 16409, nameIndex := 5, descriptorIndex := 6, attributes := #[] }, { accessFlags := 16409, nameIndex := 9, descriptorIndex := 6, attributes := #[] }, { accessFlags := 16409, nameIndex := 12, descriptorIndex := 6, attributes := #[] }, { accessFlags := 16409, nameIndex := 15, descriptorIndex := 6, attributes := #[] }, { accessFlags := 16409, nameIndex := 18, descriptorIndex := 6, attributes := #[] }, { accessFlags := 18, nameIndex := 40, descriptorIndex := 41, attributes := #[] }, { accessFlags := 18, nameIndex := 44, descriptorIndex := 45, attributes := #[] }, { accessFlags := 18, nameIndex := 48, descriptorIndex := 49, attributes := #[] }, { accessFlags := 4122, nameIndex := 21, descriptorIndex := 22, attributes := #[] }])
  fields := #[{ name := "BIT", type := (.object "com/example/prudent_checker/prudentchecker/language/ScalarType"), accessFlags := 16409, slot := 0, constantValue := 0 }, { name := "BOOL", type := (.object "com/example/prudent_checker/prudentchecker/language/ScalarType"), accessFlags := 16409, slot := 1, constantValue := 0 }, { name := "BYTE", type := (.object "com/example/prudent_checker/prudentchecker/language/ScalarType"), accessFlags := 16409, slot := 2, constantValue := 0 }, { name := "SHORT", type := (.object "com/example/prudent_checker/prudentchecker/language/ScalarType"), accessFlags := 16409, slot := 3, constantValue := 0 }, { name := "INT", type := (.object "com/example/prudent_checker/prudentchecker/language/ScalarType"), accessFlags := 16409, slot := 4, constantValue := 0 }, { name := "keyword", type := (.object "java/lang/String"), accessFlags := 18, slot := 3, constantValue := 0 }, { name := "width", type := .int, accessFlags := 18, slot := 4, constantValue := 0 }, { name := "signed", type := .boolean, accessFlags := 18, slot := 5, constantValue := 0 }, { name := "$VALUES", type := (.array (.object "com/example/prudent_checker/prudentchecker/language/ScalarType")), accessFlags := 4122, slot := 5, constantValue := 0 }]
  methods := #[]
  instanceTypes := #[(.object "java/lang/String"), .int, .int, (.object "java/lang/String"), .int, .boolean]
  staticTypes := #[(.object "com/example/prudent_checker/prudentchecker/language/ScalarType"), (.object "com/example/prudent_checker/prudentchecker/language/ScalarType"), (.object "com/example/prudent_checker/prudentchecker/language/ScalarType"), (.object "com/example/prudent_checker/prudentchecker/language/ScalarType"), (.object "com/example/prudent_checker/prudentchecker/language/ScalarType"), (.array (.object "com/example/prudent_checker/prudentchecker/language/ScalarType"))]
  resolved := Array.replicate 114 none
  statics := some 1 }

def pool11 : Array CpInfo := pool [(1, .methodref 2 3), (0, .class_ 4), (0, .nameAndType 5 6), (0, u "java/lang/Object"), (0, u "<init>"), (0, u "()V"), (0, .fieldref 8 9), (0, .class_ 10), (0, .nameAndType 11 12), (0, u "com/example/prudent_checker/prudentchecker/language/Variable"), (0, u "name"), (0, u "Ljava/lang/String;"), (0, .fieldref 8 14), (0, .nameAndType 15 16), (0, u "type"), (0, u "Lcom/example/prudent_checker/prudentchecker/language/ScalarType;"), (0, .fieldref 8 18), (0, .nameAndType 19 20), (0, u "initialValue"), (0, u "I"), (0, .fieldref 8 22), (0, .nameAndType 23 12), (0, u "process"), (4, u "(Ljava/lang/String;Lcom/example/prudent_checker/prudentchecker/language/ScalarType;ILjava/lang/String;)V")] 26

def k11c0 : Code := { maxStack := 2, maxLocals := 5, code := prog_69_method_1_code, exceptionTable := #[], attributes := #[] }
def k11m0 : Method := { name := "<init>", desc := "(Ljava/lang/String;Lcom/example/prudent_checker/prudentchecker/language/ScalarType;ILjava/lang/String;)V", sig := { parameters := [(.object "java/lang/String"), (.object "com/example/prudent_checker/prudentchecker/language/ScalarType"), .int, (.object "java/lang/String")], returnType := none }, accessFlags := 0, code := some k11c0 }
/-- com/example/prudent_checker/prudentchecker/language/Variable -/
def k11 : Class := { plain "com/example/prudent_checker/prudentchecker/language/Variable" (some 0) with
  accessFlags := 49
  interfaces := #[]
  cf := some (fileOf pool11 8 #[] #[{ accessFlags := 0, nameIndex := 5, descriptorIndex := 28, attributes := #[] }] 49 2 #[] #[{ accessFlags := 18, nameIndex := 11, descriptorIndex := 12, attributes := #[] }, { accessFlags := 18, nameIndex := 15, descriptorIndex := 16, attributes := #[] }, { accessFlags := 18, nameIndex := 19, descriptorIndex := 20, attributes := #[] }, { accessFlags := 18, nameIndex := 23, descriptorIndex := 12, attributes := #[] }])
  fields := #[{ name := "name", type := (.object "java/lang/String"), accessFlags := 18, slot := 0, constantValue := 0 }, { name := "type", type := (.object "com/example/prudent_checker/prudentchecker/language/ScalarType"), accessFlags := 18, slot := 1, constantValue := 0 }, { name := "initialValue", type := .int, accessFlags := 18, slot := 2, constantValue := 0 }, { name := "process", type := (.object "java/lang/String"), accessFlags := 18, slot := 3, constantValue := 0 }]
  methods := #[k11m0]
  instanceTypes := #[(.object "java/lang/String"), (.object "com/example/prudent_checker/prudentchecker/language/ScalarType"), .int, (.object "java/lang/String")]
  staticTypes := #[]
  resolved := Array.replicate 55 none
  statics := none }

def pool12 : Array CpInfo := pool [(1, .methodref 2 3), (0, .class_ 4), (0, .nameAndType 5 6), (0, u "java/lang/Object"), (0, u "<init>"), (0, u "()V"), (1, .class_ 10), (1, u "com/example/prudent_checker/prudentchecker/language/Expression"), (18, .class_ 30), (0, u "com/example/prudent_checker/prudentchecker/language/Expression$VariablesOnly"), (57, u "ATOM_PRECEDENCE"), (0, u "I")] 39

def k12c0 : Code := { maxStack := 1, maxLocals := 1, code := prog_43_method_1_code, exceptionTable := #[], attributes := #[] }
def k12m0 : Method := { name := "<init>", desc := "()V", sig := { parameters := [], returnType := none }, accessFlags := 0, code := some k12c0 }
/-- com/example/prudent_checker/prudentchecker/language/Expression -/
def k12 : Class := { plain "com/example/prudent_checker/prudentchecker/language/Expression" (some 0) with
  accessFlags := 1057
  interfaces := #[]
  cf := some (fileOf pool12 8 #[.nestMembers #[29]] #[{ accessFlags := 0, nameIndex := 5, descriptorIndex := 6, attributes := #[] }] 1057 2 #[] #[{ accessFlags := 24, nameIndex := 88, descriptorIndex := 89, attributes := #[] }])
  fields := #[{ name := "ATOM_PRECEDENCE", type := .int, accessFlags := 24, slot := 0, constantValue := 0 }]
  methods := #[k12m0]
  instanceTypes := #[]
  staticTypes := #[.int]
  resolved := Array.replicate 129 none
  statics := none }

def pool13 : Array CpInfo := pool [(1, .methodref 2 3), (0, .class_ 4), (0, .nameAndType 5 6), (0, u "com/example/prudent_checker/prudentchecker/language/Expression"), (0, u "<init>"), (0, u "()V"), (0, .fieldref 8 9), (0, .class_ 10), (0, .nameAndType 11 12), (0, u "com/example/prudent_checker/prudentchecker/language/VariableReference"), (0, u "variable"), (0, u "Lcom/example/prudent_checker/prudentchecker/language/Variable;"), (5, u "(Ljava/lang/Object;)Z"), (24, u "(Lcom/example/prudent_checker/prudentchecker/language/Variable;)V"), (15, u "equals")] 3

def k13c0 : Code := { maxStack := 2, maxLocals := 2, code := prog_70_method_1_code, exceptionTable := #[], attributes := #[] }
def k13m0 : Method := { name := "<init>", desc := "(Lcom/example/prudent_checker/prudentchecker/language/Variable;)V", sig := { parameters := [(.object "com/example/prudent_checker/prudentchecker/language/Variable")], returnType := none }, accessFlags := 0, code := some k13c0 }
def k13c1 : Code := { maxStack := 2, maxLocals := 3, code := prog_70_method_8_code, exceptionTable := #[], attributes := #[] }
def k13m1 : Method := { name := "equals", desc := "(Ljava/lang/Object;)Z", sig := { parameters := [(.object "java/lang/Object")], returnType := some .boolean }, accessFlags := 1, code := some k13c1 }
/-- com/example/prudent_checker/prudentchecker/language/VariableReference -/
def k13 : Class := { plain "com/example/prudent_checker/prudentchecker/language/VariableReference" (some 12) with
  accessFlags := 49
  interfaces := #[]
  cf := some (fileOf pool13 8 #[] #[{ accessFlags := 0, nameIndex := 5, descriptorIndex := 43, attributes := #[] }, { accessFlags := 1, nameIndex := 59, descriptorIndex := 18, attributes := #[] }] 49 2 #[] #[{ accessFlags := 18, nameIndex := 11, descriptorIndex := 12, attributes := #[] }])
  fields := #[{ name := "variable", type := (.object "com/example/prudent_checker/prudentchecker/language/Variable"), accessFlags := 18, slot := 0, constantValue := 0 }]
  methods := #[k13m0, k13m1]
  instanceTypes := #[(.object "com/example/prudent_checker/prudentchecker/language/Variable")]
  staticTypes := #[]
  resolved := Array.replicate 63 none
  statics := none }

def pool14 : Array CpInfo := pool [(4, .class_ 6), (1, u "java/lang/Object"), (0, u "<init>"), (0, u "()V"), (5, .class_ 16), (1, u "java/lang/StringLatin1"), (104, u "$assertionsDisabled"), (0, u "Z"), (98, .class_ 223), (1, u "java/lang/StringLatin1$LinesSpliterator"), (166, .class_ 391), (0, u "java/lang/StringLatin1$CharsSpliterator")] 3

def k14m0 : Method := { name := "<init>", desc := "()V", sig := { parameters := [], returnType := none }, accessFlags := 0, code := none }
/-- java/lang/StringLatin1 -/
def k14 : Class := { plain "java/lang/StringLatin1" (some 0) with
  accessFlags := 48
  interfaces := #[]
  cf := some (fileOf pool14 14 #[.nestMembers #[390, 221]] #[{ accessFlags := 0, nameIndex := 7, descriptorIndex := 8, attributes := #[] }] 48 4 #[] #[{ accessFlags := 4120, nameIndex := 121, descriptorIndex := 122, attributes := #[] }])
  fields := #[{ name := "$assertionsDisabled", type := .boolean, accessFlags := 4120, slot := 0, constantValue := 0 }]
  methods := #[k14m0]
  instanceTypes := #[]
  staticTypes := #[.boolean]
  resolved := Array.replicate 395 none
  statics := none }

def pool15 : Array CpInfo := pool [(2, .class_ 4), (1, u "java/lang/Object"), (0, u "<init>"), (0, u "()V"), (17, .class_ 26), (1, u "jdk/internal/util/Preconditions"), (28, .class_ 56), (0, u "jdk/internal/util/Preconditions$4"), (57, .class_ 115), (0, u "jdk/internal/util/Preconditions$1"), (7, u "SIOOBE_FORMATTER"), (0, u "Ljava/util/function/BiFunction;"), (0, .class_ 126), (0, u "jdk/internal/util/Preconditions$2"), (3, u "AIOOBE_FORMATTER"), (0, .class_ 132), (0, u "jdk/internal/util/Preconditions$3"), (3, u "IOOBE_FORMATTER")] 57

def k15m0 : Method := { name := "<init>", desc := "()V", sig := { parameters := [], returnType := none }, accessFlags := 1, code := none }
/-- jdk/internal/util/Preconditions -/
def k15 : Class := { plain "jdk/internal/util/Preconditions" (some 0) with
  accessFlags := 33
  interfaces := #[]
  cf := some (fileOf pool15 24 #[.nestMembers #[55, 131, 125, 114]] #[{ accessFlags := 1, nameIndex := 5, descriptorIndex := 6, attributes := #[] }] 33 2 #[] #[{ accessFlags := 25, nameIndex := 123, descriptorIndex := 124, attributes := #[] }, { accessFlags := 25, nameIndex := 130, descriptorIndex := 124, attributes := #[] }, { accessFlags := 25, nameIndex := 136, descriptorIndex := 124, attributes := #[] }])
  fields := #[{ name := "SIOOBE_FORMATTER", type := (.object "java/util/function/BiFunction"), accessFlags := 25, slot := 0, constantValue := 0 }, { name := "AIOOBE_FORMATTER", type := (.object "java/util/function/BiFunction"), accessFlags := 25, slot := 1, constantValue := 0 }, { name := "IOOBE_FORMATTER", type := (.object "java/util/function/BiFunction"), accessFlags := 25, slot := 2, constantValue := 0 }]
  methods := #[k15m0]
  instanceTypes := #[]
  staticTypes := #[(.object "java/util/function/BiFunction"), (.object "java/util/function/BiFunction"), (.object "java/util/function/BiFunction")]
  resolved := Array.replicate 194 none
  statics := some 2 }

def pool16 : Array CpInfo := pool [(9, u "<init>"), (6, .class_ 18), (1, u "java/lang/Object"), (0, u "()V"), (1, .class_ 23), (1, u "jdk/internal/util/ArraysSupport"), (0, u "LOG2_ARRAY_LONG_INDEX_SCALE"), (0, u "I"), (2, u "U"), (0, u "Ljdk/internal/misc/Unsafe;"), (8, u "BIG_ENDIAN"), (0, u "Z"), (8, u "LOG2_BYTE_BIT_SIZE"), (4, u "LOG2_ARRAY_INT_INDEX_SCALE"), (54, u "JLA"), (0, u "Ljdk/internal/access/JavaLangAccess;"), (11, u "LOG2_ARRAY_BOOLEAN_INDEX_SCALE"), (9, u "LOG2_ARRAY_BYTE_INDEX_SCALE"), (5, u "LOG2_ARRAY_CHAR_INDEX_SCALE"), (5, u "LOG2_ARRAY_SHORT_INDEX_SCALE"), (18, u "LOG2_ARRAY_FLOAT_INDEX_SCALE"), (24, u "LOG2_ARRAY_DOUBLE_INDEX_SCALE"), (89, u "T_BOOLEAN"), (2, u "T_CHAR"), (1, u "T_FLOAT"), (1, u "T_DOUBLE"), (1, u "T_BYTE"), (1, u "T_SHORT"), (1, u "T_INT"), (1, u "T_LONG"), (1, u "SOFT_MAX_ARRAY_LENGTH")] 83

def k16m0 : Method := { name := "<init>", desc := "()V", sig := { parameters := [], returnType := none }, accessFlags := 2, code := none }
/-- jdk/internal/util/ArraysSupport -/
def k16 : Class := { plain "jdk/internal/util/ArraysSupport" (some 0) with
  accessFlags := 33
  interfaces := #[]
  cf := some (fileOf pool16 21 #[] #[{ accessFlags := 2, nameIndex := 9, descriptorIndex := 19, attributes := #[] }] 33 16 #[] #[{ accessFlags := 24, nameIndex := 28, descriptorIndex := 29, attributes := #[] }, { accessFlags := 26, nameIndex := 38, descriptorIndex := 39, attributes := #[] }, { accessFlags := 25, nameIndex := 121, descriptorIndex := 25, attributes := #[] }, { accessFlags := 25, nameIndex := 131, descriptorIndex := 25, attributes := #[] }, { accessFlags := 25, nameIndex := 137, descriptorIndex := 25, attributes := #[] }, { accessFlags := 25, nameIndex := 143, descriptorIndex := 25, attributes := #[] }, { accessFlags := 25, nameIndex := 53, descriptorIndex := 25, attributes := #[] }, { accessFlags := 25, nameIndex := 24, descriptorIndex := 25, attributes := #[] }, { accessFlags := 25, nameIndex := 162, descriptorIndex := 25, attributes := #[] }, { accessFlags := 25, nameIndex := 187, descriptorIndex := 25, attributes := #[] }, { accessFlags := 26, nameIndex := 48, descriptorIndex := 25, attributes := #[] }, { accessFlags := 25, nameIndex := 277, descriptorIndex := 25, attributes := #[] }, { accessFlags := 25, nameIndex := 280, descriptorIndex := 25, attributes := #[] }, { accessFlags := 25, nameIndex := 282, descriptorIndex := 25, attributes := #[] }, { accessFlags := 25, nameIndex := 284, descriptorIndex := 25, attributes := #[] }, { accessFlags := 25, nameIndex := 286, descriptorIndex := 25, attributes := #[] }, { accessFlags := 25, nameIndex := 288, descriptorIndex := 25, attributes := #[] }, { accessFlags := 25, nameIndex := 290, descriptorIndex := 25, attributes := #[] }, { accessFlags := 25, nameIndex := 292, descriptorIndex := 25, attributes := #[] }, { accessFlags := 26, nameIndex := 108, descriptorIndex := 109, attributes := #[] }, { accessFlags := 25, nameIndex := 294, descriptorIndex := 25, attributes := #[] }])
  fields := #[{ name := "U", type := (.object "jdk/internal/misc/Unsafe"), accessFlags := 24, slot := 0, constantValue := 0 }, { name := "BIG_ENDIAN", type := .boolean, accessFlags := 26, slot := 1, constantValue := 0 }, { name := "LOG2_ARRAY_BOOLEAN_INDEX_SCALE", type := .int, accessFlags := 25, slot := 2, constantValue := 0 }, { name := "LOG2_ARRAY_BYTE_INDEX_SCALE", type := .int, accessFlags := 25, slot := 3, constantValue := 0 }, { name := "LOG2_ARRAY_CHAR_INDEX_SCALE", type := .int, accessFlags := 25, slot := 4, constantValue := 0 }, { name := "LOG2_ARRAY_SHORT_INDEX_SCALE", type := .int, accessFlags := 25, slot := 5, constantValue := 0 }, { name := "LOG2_ARRAY_INT_INDEX_SCALE", type := .int, accessFlags := 25, slot := 6, constantValue := 0 }, { name := "LOG2_ARRAY_LONG_INDEX_SCALE", type := .int, accessFlags := 25, slot := 7, constantValue := 0 }, { name := "LOG2_ARRAY_FLOAT_INDEX_SCALE", type := .int, accessFlags := 25, slot := 8, constantValue := 0 }, { name := "LOG2_ARRAY_DOUBLE_INDEX_SCALE", type := .int, accessFlags := 25, slot := 9, constantValue := 0 }, { name := "LOG2_BYTE_BIT_SIZE", type := .int, accessFlags := 26, slot := 10, constantValue := 0 }, { name := "T_BOOLEAN", type := .int, accessFlags := 25, slot := 11, constantValue := 0 }, { name := "T_CHAR", type := .int, accessFlags := 25, slot := 12, constantValue := 0 }, { name := "T_FLOAT", type := .int, accessFlags := 25, slot := 13, constantValue := 0 }, { name := "T_DOUBLE", type := .int, accessFlags := 25, slot := 14, constantValue := 0 }, { name := "T_BYTE", type := .int, accessFlags := 25, slot := 15, constantValue := 0 }, { name := "T_SHORT", type := .int, accessFlags := 25, slot := 16, constantValue := 0 }, { name := "T_INT", type := .int, accessFlags := 25, slot := 17, constantValue := 0 }, { name := "T_LONG", type := .int, accessFlags := 25, slot := 18, constantValue := 0 }, { name := "JLA", type := (.object "jdk/internal/access/JavaLangAccess"), accessFlags := 26, slot := 19, constantValue := 0 }, { name := "SOFT_MAX_ARRAY_LENGTH", type := .int, accessFlags := 25, slot := 20, constantValue := 0 }]
  methods := #[k16m0]
  instanceTypes := #[]
  staticTypes := #[(.object "jdk/internal/misc/Unsafe"), .boolean, .int, .int, .int, .int, .int, .int, .int, .int, .int, .int, .int, .int, .int, .int, .int, .int, .int, (.object "jdk/internal/access/JavaLangAccess"), .int]
  resolved := Array.replicate 378 none
  statics := none }

def pool17 : Array CpInfo := pool [(1, u "java/lang/Cloneable"), (0, .class_ 1), (0, u "java/lang/Object"), (0, .class_ 3)] 3

/-- java/lang/Cloneable -/
def k17 : Class := { plain "java/lang/Cloneable" (some 0) with
  accessFlags := 1537
  interfaces := #[]
  cf := some (fileOf pool17 2 #[] #[] 1537 4 #[] #[])
  fields := #[]
  methods := #[]
  instanceTypes := #[]
  staticTypes := #[]
  resolved := Array.replicate 8 none
  statics := none }

/-- the primitive byte -/
def k18 : Class := { plain "byte" none with kind := .primitive 'B', accessFlags := 0x411 }
/-- [B -/
def k19 : Class := { plain "[B" (some 0) with kind := .array 18 .byte, interfaces := #[17, 2], accessFlags := 1041 }

/-- the primitive char -/
def k20 : Class := { plain "char" none with kind := .primitive 'C', accessFlags := 0x411 }
/-- [C -/
def k21 : Class := { plain "[C" (some 0) with kind := .array 20 .char, interfaces := #[17, 2], accessFlags := 1041 }

/-- the primitive int -/
def k22 : Class := { plain "int" none with kind := .primitive 'I', accessFlags := 0x411 }
/-- [I -/
def k23 : Class := { plain "[I" (some 0) with kind := .array 22 .int, interfaces := #[17, 2], accessFlags := 1041 }

/-- [Lcom/example/prudent_checker/prudentchecker/language/Variable; -/
def k24 : Class := { plain "[Lcom/example/prudent_checker/prudentchecker/language/Variable;" (some 0) with kind := .array 11 (.object "com/example/prudent_checker/prudentchecker/language/Variable"), interfaces := #[17, 2], accessFlags := 1041 }

def heap : Heap := #[{ cls := 7, slots := #[.long 0, .int 1, .null, .int 0, .null, .int 0, .int 0], vm := .statics 7 },
  { cls := 10, slots := #[.null, .null, .ref 3, .null, .ref 4, .null], vm := .statics 10 },
  { cls := 15, slots := #[.null, .null, .null], vm := .statics 15 },
  { cls := 10, slots := #[.null, .int 0, .int 0, .null, .int 0, .int 0], vm := .none },
  { cls := 10, slots := #[.null, .int 0, .int 0, .null, .int 0, .int 0], vm := .none }]
def classes : Array Class := #[k0, k1, k2, k3, k4, k5, k6, k7, k8, k9, k10, k11, k12, k13, k14, k15, k16, k17, k18, k19, k20, k21, k22, k23, k24]
def interned : List (Array UInt16 × Addr) := []
def slotsUsed : Nat := 28
def theMethod : MethodId := ⟨1, 1⟩
def args0 : Array Value := #[.int 5, .int 3, .int 2, .int 1]
def aboutOver (below : List Frame) : State where
  vm := { classes := classes, interned := interned.toArray }
  heap := heap
  slotsUsed := slotsUsed
  threads := #[{ frames := .invoking theMethod args0 :: below }]
def below0 : List Frame := [.native { method := ⟨0, 0⟩, args := #[] }]
def about1 : State := aboutOver below0
def p0 : Program := .bare "" "" ""
def e0 : Env := launch0.env 0 0 0
theorem w_frames : about1.frames = Frame.invoking theMethod args0 :: below0 := rfl
set_option maxRecDepth 65536 in
theorem w_args : argsFit about1.vm theMethod args0 = true := by decide +kernel
set_option maxRecDepth 65536 in
theorem w_heap : heapFits about1 = true := by decide +kernel
set_option maxRecDepth 65536 in
theorem w_runnable : about1.curStatus? = some .runnable := by decide +kernel
set_option maxRecDepth 65536 in
theorem w_alone : about1.alone = true := by decide +kernel
set_option maxRecDepth 65536 in
theorem w_named : about1.methodNamed? x = some theMethod := by decide +kernel
set_option maxRecDepth 65536 in
theorem w_hears : about1.hears theMethod below0 = true := by decide +kernel
set_option maxRecDepth 65536 in
theorem w_ripe : about1.ripe theMethod args0 below0 = true := by decide +kernel
theorem w_running : about1.status = .running := rfl
set_option maxRecDepth 65536 in
theorem w_room : about1.hasRoom e0.platform room_1 = true :=
  launch0.hasRoom_least _ room_1 (by decide +kernel) (by decide +kernel) (by decide +kernel) (by decide +kernel) (by decide +kernel) (by decide +kernel)
theorem allAtoms_all (ts : List Jvm.Cond) (a : Array Jvm.Value) (st : Jvm.State) : (allAtoms ts).before a st = ts.all (fun c => c.before a st) := by
  induction ts with
  | nil => rfl
  | cons c t ih =>
    show (Jvm.Cond.and c (allAtoms t)).before a st = _
    rw [Jvm.Cond.before_and, ih, List.all_cons]
def words1 : List Jvm.Cond := Jvm.Cond.code x code maxLocals ret :: tables_1
/-- a 'code' word, met by the world's own term for the bytes: nothing is compared byte by byte -/
theorem code_word {y : MethodName} {bytes : ByteArray} {mx : Nat} {rt : Option FieldType} {a : Array Value} {s : State} {m : MethodId} {meth : Method} {c : Code} (h1 : s.methodNamed? y = some m) (h2 : s.vm.method? m = some meth) (h3 : meth.code = some c) (h4 : c.code = bytes)
    (h5 : (c.maxLocals == mx && c.exceptionTable.isEmpty && decide (c.maxStack ≤ mostOperands) && decide (meth.sig.returnType = rt) && !meth.locks && decide (parseMethodDescriptor y.desc = some meth.sig)) = true) : (Jvm.Cond.code y bytes mx rt).before a s = true := by
  simp only [Bool.and_eq_true, beq_iff_eq, Bool.not_eq_true', decide_eq_true_eq] at h5
  obtain ⟨⟨⟨⟨⟨g1, g2⟩, g3⟩, g4⟩, g5⟩, g6⟩ := h5
  simp [Cond.before, Cond.holds, Cond.value, h1, h2, h3, h4, g1, g2, g3, g4, g5, g6]
def isCode : Jvm.Cond → Bool
  | .code _ _ _ _ => true
  | _ => false
theorem all_split {L : List Jvm.Cond} {P : Jvm.Cond → Bool} (h1 : L.all (fun c => isCode c || P c) = true) (h2 : ∀ c ∈ L.filter isCode, P c = true) : L.all P = true := by
  refine List.all_eq_true.mpr fun c hc => ?_
  have h := List.all_eq_true.mp h1 c hc
  rcases Bool.eq_false_or_eq_true (isCode c) with hi | hi
  · exact h2 c (List.mem_filter.mpr ⟨hc, hi⟩)
  · simpa [hi] using h
set_option maxRecDepth 65536 in
theorem w_c0 : (Jvm.Cond.code x code maxLocals ret).before args0 about1 = true := code_word (m := ⟨1, 1⟩) (meth := k1m1) (c := k1c1) (by decide +kernel) rfl rfl rfl (by decide +kernel)
set_option maxRecDepth 65536 in
theorem w_c1 : (Jvm.Cond.code ({ cls := "java/lang/String", name := "<init>", desc := "([C)V" } : Jvm.MethodName) jdk_42_method_3_code (2 : Nat) (Option.none : Option Jvm.ClassFile.FieldType)).before args0 about1 = true := code_word (m := ⟨7, 1⟩) (meth := k7m1) (c := k7c1) (by decide +kernel) rfl rfl rfl (by decide +kernel)
set_option maxRecDepth 65536 in
theorem w_c2 : (Jvm.Cond.code ({ cls := "java/lang/String", name := "<init>", desc := "([CIILjava/lang/Void;)V" } : Jvm.MethodName) jdk_42_method_149_code (6 : Nat) (Option.none : Option Jvm.ClassFile.FieldType)).before args0 about1 = true := code_word (m := ⟨7, 2⟩) (meth := k7m2) (c := k7c2) (by decide +kernel) rfl rfl rfl (by decide +kernel)
set_option maxRecDepth 65536 in
theorem w_c3 : (Jvm.Cond.code ({ cls := "java/lang/Object", name := "<init>", desc := "()V" } : Jvm.MethodName) object_method_1_code (1 : Nat) (Option.none : Option Jvm.ClassFile.FieldType)).before args0 about1 = true := code_word (m := ⟨0, 0⟩) (meth := k0m0) (c := k0c0) (by decide +kernel) rfl rfl rfl (by decide +kernel)
set_option maxRecDepth 65536 in
theorem w_c4 : (Jvm.Cond.code ({ cls := "java/lang/StringUTF16", name := "compress", desc := "([CII)[B" } : Jvm.MethodName) jdk_52_method_16_code (6 : Nat) (Option.some (Jvm.ClassFile.FieldType.array Jvm.ClassFile.FieldType.byte))).before args0 about1 = true := code_word (m := ⟨8, 2⟩) (meth := k8m2) (c := k8c2) (by decide +kernel) rfl rfl rfl (by decide +kernel)
set_option maxRecDepth 65536 in
theorem w_c5 : (Jvm.Cond.code ({ cls := "java/lang/StringUTF16", name := "compress", desc := "([CI[BII)I" } : Jvm.MethodName) jdk_52_method_21_code (7 : Nat) (Option.some Jvm.ClassFile.FieldType.int)).before args0 about1 = true := code_word (m := ⟨8, 3⟩) (meth := k8m3) (c := k8c3) (by decide +kernel) rfl rfl rfl (by decide +kernel)
set_option maxRecDepth 65536 in
theorem w_c6 : (Jvm.Cond.code ({ cls := "java/lang/StringUTF16", name := "coderFromArrayLen", desc := "([BI)B" } : Jvm.MethodName) jdk_52_method_15_code (2 : Nat) (Option.some Jvm.ClassFile.FieldType.byte)).before args0 about1 = true := code_word (m := ⟨8, 1⟩) (meth := k8m1) (c := k8c1) (by decide +kernel) rfl rfl rfl (by decide +kernel)
set_option maxRecDepth 65536 in
theorem w_c7 : (Jvm.Cond.code ({ cls := "com/example/prudent_checker/prudentchecker/language/Variable", name := "<init>", desc := "(Ljava/lang/String;Lcom/example/prudent_checker/prudentchecker/language/ScalarType;ILjava/lang/String;)V" } : Jvm.MethodName) prog_69_method_1_code (5 : Nat) (Option.none : Option Jvm.ClassFile.FieldType)).before args0 about1 = true := code_word (m := ⟨11, 0⟩) (meth := k11m0) (c := k11c0) (by decide +kernel) rfl rfl rfl (by decide +kernel)
set_option maxRecDepth 65536 in
theorem w_c8 : (Jvm.Cond.code ({ cls := "com/example/prudent_checker/prudentchecker/language/VariableReference", name := "<init>", desc := "(Lcom/example/prudent_checker/prudentchecker/language/Variable;)V" } : Jvm.MethodName) prog_70_method_1_code (2 : Nat) (Option.none : Option Jvm.ClassFile.FieldType)).before args0 about1 = true := code_word (m := ⟨13, 0⟩) (meth := k13m0) (c := k13c0) (by decide +kernel) rfl rfl rfl (by decide +kernel)
set_option maxRecDepth 65536 in
theorem w_c9 : (Jvm.Cond.code ({ cls := "com/example/prudent_checker/prudentchecker/language/Expression", name := "<init>", desc := "()V" } : Jvm.MethodName) prog_43_method_1_code (1 : Nat) (Option.none : Option Jvm.ClassFile.FieldType)).before args0 about1 = true := code_word (m := ⟨12, 0⟩) (meth := k12m0) (c := k12c0) (by decide +kernel) rfl rfl rfl (by decide +kernel)
set_option maxRecDepth 65536 in
theorem w_c10 : (Jvm.Cond.code ({ cls := "com/example/prudent_checker/prudentchecker/language/VariableReference", name := "equals", desc := "(Ljava/lang/Object;)Z" } : Jvm.MethodName) prog_70_method_8_code (3 : Nat) (Option.some Jvm.ClassFile.FieldType.boolean)).before args0 about1 = true := code_word (m := ⟨13, 1⟩) (meth := k13m1) (c := k13c1) (by decide +kernel) rfl rfl rfl (by decide +kernel)
def codes1 : List Jvm.Cond := [Jvm.Cond.code x code maxLocals ret, Jvm.Cond.code ({ cls := "java/lang/String", name := "<init>", desc := "([C)V" } : Jvm.MethodName) jdk_42_method_3_code (2 : Nat) (Option.none : Option Jvm.ClassFile.FieldType), Jvm.Cond.code ({ cls := "java/lang/String", name := "<init>", desc := "([CIILjava/lang/Void;)V" } : Jvm.MethodName) jdk_42_method_149_code (6 : Nat) (Option.none : Option Jvm.ClassFile.FieldType), Jvm.Cond.code ({ cls := "java/lang/Object", name := "<init>", desc := "()V" } : Jvm.MethodName) object_method_1_code (1 : Nat) (Option.none : Option Jvm.ClassFile.FieldType), Jvm.Cond.code ({ cls := "java/lang/StringUTF16", name := "compress", desc := "([CII)[B" } : Jvm.MethodName) jdk_52_method_16_code (6 : Nat) (Option.some (Jvm.ClassFile.FieldType.array Jvm.ClassFile.FieldType.byte)), Jvm.Cond.code ({ cls := "java/lang/StringUTF16", name := "compress", desc := "([CI[BII)I" } : Jvm.MethodName) jdk_52_method_21_code (7 : Nat) (Option.some Jvm.ClassFile.FieldType.int), Jvm.Cond.code ({ cls := "java/lang/StringUTF16", name := "coderFromArrayLen", desc := "([BI)B" } : Jvm.MethodName) jdk_52_method_15_code (2 : Nat) (Option.some Jvm.ClassFile.FieldType.byte), Jvm.Cond.code ({ cls := "com/example/prudent_checker/prudentchecker/language/Variable", name := "<init>", desc := "(Ljava/lang/String;Lcom/example/prudent_checker/prudentchecker/language/ScalarType;ILjava/lang/String;)V" } : Jvm.MethodName) prog_69_method_1_code (5 : Nat) (Option.none : Option Jvm.ClassFile.FieldType), Jvm.Cond.code ({ cls := "com/example/prudent_checker/prudentchecker/language/VariableReference", name := "<init>", desc := "(Lcom/example/prudent_checker/prudentchecker/language/Variable;)V" } : Jvm.MethodName) prog_70_method_1_code (2 : Nat) (Option.none : Option Jvm.ClassFile.FieldType), Jvm.Cond.code ({ cls := "com/example/prudent_checker/prudentchecker/language/Expression", name := "<init>", desc := "()V" } : Jvm.MethodName) prog_43_method_1_code (1 : Nat) (Option.none : Option Jvm.ClassFile.FieldType), Jvm.Cond.code ({ cls := "com/example/prudent_checker/prudentchecker/language/VariableReference", name := "equals", desc := "(Ljava/lang/Object;)Z" } : Jvm.MethodName) prog_70_method_8_code (3 : Nat) (Option.some Jvm.ClassFile.FieldType.boolean)]
set_option maxRecDepth 65536 in
theorem codes_eq : words1.filter isCode = codes1 := rfl
theorem w_codes : ∀ c ∈ words1.filter isCode, c.before args0 about1 = true := by
  rw [codes_eq]
  intro c hc
  simp only [codes1, List.mem_cons, List.not_mem_nil, or_false] at hc
  rcases hc with rfl | rfl | rfl | rfl | rfl | rfl | rfl | rfl | rfl | rfl | rfl
  · exact w_c0
  · exact w_c1
  · exact w_c2
  · exact w_c3
  · exact w_c4
  · exact w_c5
  · exact w_c6
  · exact w_c7
  · exact w_c8
  · exact w_c9
  · exact w_c10
set_option maxRecDepth 65536 in
theorem w_t1 : (words1.take 24).all (fun c => isCode c || c.before args0 about1) = true := by decide +kernel
set_option maxRecDepth 65536 in
theorem w_t2 : ((words1.drop 24).take 24).all (fun c => isCode c || c.before args0 about1) = true := by decide +kernel
set_option maxRecDepth 65536 in
theorem w_t3 : (((words1.drop 24).drop 24).take 24).all (fun c => isCode c || c.before args0 about1) = true := by decide +kernel
set_option maxRecDepth 65536 in
theorem w_t4 : (((words1.drop 24).drop 24).drop 24).all (fun c => isCode c || c.before args0 about1) = true := by decide +kernel
theorem w_tables : (allAtoms (Jvm.Cond.code x code maxLocals ret :: tables_1)).before args0 about1 = true := by
  rw [allAtoms_all]
  show words1.all (fun c => c.before args0 about1) = true
  refine all_split ?_ w_codes
  rw [← List.take_append_drop 24 words1, List.all_append, w_t1, ← List.take_append_drop 24 (words1.drop 24), List.all_append, w_t2, ← List.take_append_drop 24 ((words1.drop 24).drop 24), List.all_append, w_t3, w_t4]
  rfl
set_option maxRecDepth 65536 in
theorem w_rest : rest_1_c.before args0 about1 = true := by decide +kernel
set_option maxRecDepth 65536 in
theorem w_case : (Jvm.Cond.and given_1 narrow_1).before args0 about1 = true := by decide +kernel
theorem w_applies : (headSpec (Jvm.Cond.code x code maxLocals ret :: tables_1) room_1).applies x e0.platform about1 = true :=
  (Spec.applies_iff w_frames).mpr ⟨w_running, w_runnable, w_alone, w_named, w_hears, w_ripe, w_room, w_tables⟩
theorem atStart : AtStart classFile x code maxLocals ret World_1 tables_1 room_1 Calls_1 rest_1 Pre_1 launch0 p0 e0 about1 theMethod args0 below0 :=
  ⟨lists_1, trivial, launch0.admits_env _ _ _, launch0.least_env, fairChoices_fair.cas, fairChoices_fair.clock, w_frames, w_args, w_heap, w_applies, trivial, w_rest, w_case⟩
end start1
theorem witness_1 : WitnessClaimed_1 := ⟨start1.p0, start1.e0, start1.about1, start1.theMethod, start1.args0, start1.below0, start1.atStart⟩
end Jvm.Pilot.@@N@@
