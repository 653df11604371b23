import JvmDerived
import JvmDerived.Pilot.@@N@@Statement
import JvmDerived.Pilot.@@N@@Code
set_option linter.unusedVariables false
set_option linter.unusedSimpArgs false
/- laws to paste: Road.backV (cut by pick.py; bodies as the Statement names them) -/
namespace Jvm.Pilot.@@N@@
namespace StrChars
open Jvm Sem ClassFile Op Lib Jvm.Stand Jvm.Free.XT Jvm.Free.ALB Jvm.Free.JM Jvm.Free
open Jvm.Lib.Cold (StaticIs)
/-- a char array whose places are chars -/
def Ch (a : Addr) (A : Cell) (U : State) : Prop := Arr .char a A U ∧ Typed .char A
theorem Ch.mv {a : Addr} {A : Cell} {U U' : State} (h : Ch a A U) (hal : U.vm.Alike U'.vm) (hh : U'.heap = U.heap) : Ch a A U' := ⟨h.1.mv hal hh, h.2⟩
theorem Ch.keep {a : Addr} {A : Cell} {U U' : State} (h : Ch a A U) (hal : U.vm.Alike U'.vm) (hk : U'.heap[a]? = some A) : Ch a A U' := ⟨h.1.keep hal hk, h.2⟩
/-- what place i of a char[]'s cell holds -/
def cv (A : Cell) (i : Nat) : Int32 := match A.slots[i]? with | some (.int x) => x | _ => 0
theorem Ch.get {a : Addr} {A : Cell} {U : State} (h : Ch a A U) {i : Nat} (hi : i < A.slots.size) : A.slots[i]? = some (.int (cv A i)) := by
  have e := Array.getElem?_eq_getElem hi
  have f := h.2 i _ e
  unfold cv; rw [e]
  generalize A.slots[i] = v at f
  cases v <;> simp [fits] at f ⊢
/-- the byte that i2b leaves of a char -/
def lo8 (x : Int32) : Int32 := x.toInt8.toInt32
theorem fits_lo8 (y : Int32) : fits .byte (.int (lo8 y)) = true := by
  have h1 := y.toInt8.le_toInt
  have h2 := y.toInt8.toInt_lt
  simp only [lo8, fits, Bool.and_eq_true, decide_eq_true_eq, Int32.le_iff_toInt_le, Int8.toInt_toInt32, show (-128 : Int32).toInt = -128 from by decide, show (127 : Int32).toInt = 127 from by decide]
  omega
/-- A' is A but that each place j of lo .. hi - 1 holds f j -/
def Laid (A A' : Cell) (lo hi : Nat) (f : Nat → Value) : Prop := A'.cls = A.cls ∧ A'.vm = A.vm ∧ A'.slots.size = A.slots.size ∧ ∀ i, A'.slots[i]? = if lo ≤ i ∧ i < hi then some (f i) else A.slots[i]?
theorem Laid.zero (A : Cell) (lo : Nat) (f : Nat → Value) : Laid A A lo (lo + 0) f := ⟨rfl, rfl, rfl, fun i => by rw [if_neg (by omega)]⟩
theorem Laid.step {A Ak : Cell} {lo k : Nat} {f : Nat → Value} {v : Value} (h : Laid A Ak lo k f) (hlo : lo ≤ k) (hk : k < Ak.slots.size) (hv : v = f k) : Laid A (Ak.setSlot k v) lo (k + 1) f := by
  refine ⟨h.1, h.2.1, by simpa [Cell.setSlot] using h.2.2.1, fun i => ?_⟩
  by_cases e : k = i
  · subst e; rw [Cell.slots_setSlot_self v hk, if_pos (by omega), hv]
  · rw [Cell.slots_setSlot_ne v e, h.2.2.2 i]
    by_cases q : lo ≤ i ∧ i < k
    · rw [if_pos q, if_pos (by omega)]
    · rw [if_neg q, if_neg (by omega)]
def U16 : String := "java/lang/StringUTF16"
namespace Cmp5
def yN : MethodName := ⟨"java/lang/StringUTF16", "compress", "([CI[BII)I"⟩
abbrev yB : ByteArray := jdk_52_method_21_code
theorem d0 : decode yB 0 = .ok (.iconst 0, 1) := by decide +kernel
theorem d1 : decode yB 1 = .ok (.istore 5, 2) := by decide +kernel
theorem d3 : decode yB 3 = .ok (.iload 5, 2) := by decide +kernel
theorem d5 : decode yB 5 = .ok (.iload 4, 2) := by decide +kernel
theorem d7 : decode yB 7 = .ok (.if_icmp (.ge) 37, 3) := by decide +kernel
theorem d10 : decode yB 10 = .ok (.aload_n 0, 1) := by decide +kernel
theorem d11 : decode yB 11 = .ok (.iload_n 1, 1) := by decide +kernel
theorem d12 : decode yB 12 = .ok (.caload, 1) := by decide +kernel
theorem d13 : decode yB 13 = .ok (.istore 6, 2) := by decide +kernel
theorem d15 : decode yB 15 = .ok (.iload 6, 2) := by decide +kernel
theorem d17 : decode yB 17 = .ok (.sipush 255, 3) := by decide +kernel
theorem d20 : decode yB 20 = .ok (.if_icmp (.le) 6, 3) := by decide +kernel
theorem d26 : decode yB 26 = .ok (.aload_n 2, 1) := by decide +kernel
theorem d27 : decode yB 27 = .ok (.iload_n 3, 1) := by decide +kernel
theorem d28 : decode yB 28 = .ok (.iload 6, 2) := by decide +kernel
theorem d30 : decode yB 30 = .ok (.i2b, 1) := by decide +kernel
theorem d31 : decode yB 31 = .ok (.bastore, 1) := by decide +kernel
theorem d32 : decode yB 32 = .ok (.iinc 1 1, 3) := by decide +kernel
theorem d35 : decode yB 35 = .ok (.iinc 3 1, 3) := by decide +kernel
theorem d38 : decode yB 38 = .ok (.iinc 5 1, 3) := by decide +kernel
theorem d41 : decode yB 41 = .ok (.goto (-38), 3) := by decide +kernel
theorem d44 : decode yB 44 = .ok (.iload 4, 2) := by decide +kernel
theorem d46 : decode yB 46 = .ok (.ireturn, 1) := by decide +kernel
def site : List Cond := []
def tab : Cond := tabOf yN yB 7 (some .int) site
def P (b : Addr) (A : Cell) (d : Addr) (B : Cell) (o q len : Nat) (args : Array Value) (s : State) : Prop := args = #[.ref b, .int (Int32.ofNat o), .ref d, .int (Int32.ofNat q), .int (Int32.ofNat len)] ∧ Ch b A s ∧ Arr .byte d B s ∧ b ≠ d ∧ o + len ≤ A.slots.size ∧ q + len ≤ B.slots.size ∧ ∀ i, i < len → ¬ 255 < cv A (o + i)
def E (b : Addr) (A : Cell) (d : Addr) (B : Cell) (o q len : Nat) (r : Option Value) (s u : State) : Prop := r = some (.int (Int32.ofNat len)) ∧ ∃ B', Put d B' s u ∧ Laid B B' q (q + len) (fun j => Value.int (lo8 (cv A (o + (j - q)))))
/-- no char of the range above 255: len; the places written hold each char's low byte -/
theorem law (l : Launch) (b : Addr) (A : Cell) (d : Addr) (B : Cell) (o q len : Nat) : Law l yN 5 5 0 0 yB 7 (some .int) site (P b A d B o q len) (E b A d B o q len) (copyLocs d q len) 0 0 := by
  refine Law.of_walk (plainFor_of_name (by decide +kernel)) (by decide +kernel) (by decide +kernel) (by decide) (fun _ _ h => by rw [h.1]; rfl) (fun _ U U' hal hh h => ⟨h.1, h.2.1.mv hal hh, h.2.2.1.mv hal hh, h.2.2.2⟩) (fun r U U' V V' h1 hal h2 h => ⟨h.1, h.2.elim fun B' q => ⟨B', q.1.mv h1 h2, q.2⟩⟩) ?_
  intro p e s m args below meth c s₁ X0 hexec hbytes hml hret hlk hnm hown hh0 W hP
  obtain ⟨rfl, hA, hB, hne, l1, l2, hp⟩ := hP
  have c1 : Steps p.tables e below (s₁.setTop (entryFrame m #[.ref b, .int (Int32.ofNat o), .ref d, .int (Int32.ofNat q), .int (Int32.ofNat len)] 7)) (s₁.setTop (mkF m 0 #[.val (.ref b), .val (.int (Int32.ofNat o)), .val (.ref d), .val (.int (Int32.ofNat q)), .val (.int (Int32.ofNat len)), .unset, .unset] [])) := entry rfl
  have hA0 := hA.1.mv X0.warmed.alike hh0
  have hB0 := hB.mv X0.warmed.alike hh0
  have a31 := hA.1.2.2.2
  have c2 : Steps p.tables e below (s₁.setTop (entryFrame m #[.ref b, .int (Int32.ofNat o), .ref d, .int (Int32.ofNat q), .int (Int32.ofNat len)] 7)) (s₁.setTop (mkF m 3 #[.val (.ref b), .val (.int (Int32.ofNat o)), .val (.ref d), .val (.int (Int32.ofNat q)), .val (.int (Int32.ofNat len)), .val (.int 0), .unset] [])) := c1.trans (by
    refine iconstV X0.here hexec rfl 0 (hb hbytes d0) (by decide) ?_
    refine XS.istore X0.here hexec rfl (hb hbytes d1) rfl rfl ?_
    exact Steps.refl _)
  have loop : ∀ (r i : Nat), i + r = len → ∀ (z : Slot), (z = .unset ∨ ∃ w, z = .val w ∧ w.category = 1) → ∀ (Tl : State) (Bk : Cell), Stand p l e { frames := 0, locals := 0, cells := 0, slots := 0 } s m #[.ref b, .int (Int32.ofNat o), .ref d, .int (Int32.ofNat q), .int (Int32.ofNat len)] below meth c Tl ([] ++ copyLocs d q i) 0 0 → Put d Bk s₁ Tl → Laid B Bk q (q + i) (fun j => Value.int (lo8 (cv A (o + (j - q))))) →
      Steps p.tables e below (s₁.setTop (entryFrame m #[.ref b, .int (Int32.ofNat o), .ref d, .int (Int32.ofNat q), .int (Int32.ofNat len)] 7)) (Tl.setTop (mkF m 3 #[.val (.ref b), .val (.int (Int32.ofNat (o + i))), .val (.ref d), .val (.int (Int32.ofNat (q + i))), .val (.int (Int32.ofNat len)), .val (.int (Int32.ofNat i)), z] [])) → ∃ (T' : State) (B' : Cell) (z' : Slot), Stand p l e { frames := 0, locals := 0, cells := 0, slots := 0 } s m #[.ref b, .int (Int32.ofNat o), .ref d, .int (Int32.ofNat q), .int (Int32.ofNat len)] below meth c T' ([] ++ copyLocs d q len) 0 0 ∧ Put d B' s₁ T' ∧ Laid B B' q (q + len) (fun j => Value.int (lo8 (cv A (o + (j - q))))) ∧
      Steps p.tables e below (s₁.setTop (entryFrame m #[.ref b, .int (Int32.ofNat o), .ref d, .int (Int32.ofNat q), .int (Int32.ofNat len)] 7)) (T'.setTop (mkF m 3 #[.val (.ref b), .val (.int (Int32.ofNat (o + len))), .val (.ref d), .val (.int (Int32.ofNat (q + len))), .val (.int (Int32.ofNat len)), .val (.int (Int32.ofNat len)), z'] [])) := by
    intro r
    induction r with
    | zero =>
      intro i hi z hz Tl Bk Xl pl fl cl
      have hil : i = len := by omega
      rw [hil] at Xl fl cl
      exact ⟨Tl, Bk, z, Xl, pl, fl, cl⟩
    | succ r ih =>
      intro i hi z hz Tl Bk Xl pl fl cl
      have all := X0.warmed.alike.symm.trans Xl.warmed.alike
      have hAl := hA0.keep all (pl.other hne hA0.1)
      have hBk := hB0.like all pl.1 fl.1 fl.2.1 fl.2.2.1
      have hlt : q + i < Bk.slots.size := by rw [fl.2.2.1]; omega
      have c3 : Steps p.tables e below (s₁.setTop (entryFrame m #[.ref b, .int (Int32.ofNat o), .ref d, .int (Int32.ofNat q), .int (Int32.ofNat len)] 7)) (Tl.setTop (mkF m 12 #[.val (.ref b), .val (.int (Int32.ofNat (o + i))), .val (.ref d), .val (.int (Int32.ofNat (q + i))), .val (.int (Int32.ofNat len)), .val (.int (Int32.ofNat i)), z] [.int (Int32.ofNat (o + i)), .ref b])) := cl.trans (by
        refine XS.iload Xl.here hexec rfl (hb hbytes d3) rfl ?_
        refine XS.iload Xl.here hexec rfl (hb hbytes d5) rfl ?_
        refine XS.icmpNo Xl.here hexec rfl (hb hbytes d7) rfl (ii_ge_f (lt32 (by omega) (by omega))) ?_
        refine XS.aloadN Xl.here hexec rfl (hb hbytes d10) rfl rfl ?_
        refine XS.iloadN Xl.here hexec rfl (hb hbytes d11) rfl ?_
        exact Steps.refl _)
      have c4 : Steps p.tables e below (s₁.setTop (entryFrame m #[.ref b, .int (Int32.ofNat o), .ref d, .int (Int32.ofNat q), .int (Int32.ofNat len)] 7)) (Tl.setTop (mkF m 13 #[.val (.ref b), .val (.int (Int32.ofNat (o + i))), .val (.ref d), .val (.int (Int32.ofNat (q + i))), .val (.int (Int32.ofNat len)), .val (.int (Int32.ofNat i)), z] [.int (cv A (o + i))])) := c3.trans (by
        refine Xl.aget hexec hAl rfl (hA.get (i := o + i) (by omega)) rfl rfl (hb hbytes d12) ?_
        exact Steps.refl _)
      have c5 : Steps p.tables e below (s₁.setTop (entryFrame m #[.ref b, .int (Int32.ofNat o), .ref d, .int (Int32.ofNat q), .int (Int32.ofNat len)] 7)) (Tl.setTop (mkF m 15 #[.val (.ref b), .val (.int (Int32.ofNat (o + i))), .val (.ref d), .val (.int (Int32.ofNat (q + i))), .val (.int (Int32.ofNat len)), .val (.int (Int32.ofNat i)), .val (.int (cv A (o + i)))] [])) := c4.trans (by
        refine XS.istoreS Xl.here hexec rfl (hb hbytes d13) rfl rfl hz ?_
        exact Steps.refl _)
      have c6 : Steps p.tables e below (s₁.setTop (entryFrame m #[.ref b, .int (Int32.ofNat o), .ref d, .int (Int32.ofNat q), .int (Int32.ofNat len)] 7)) (Tl.setTop (mkF m 31 #[.val (.ref b), .val (.int (Int32.ofNat (o + i))), .val (.ref d), .val (.int (Int32.ofNat (q + i))), .val (.int (Int32.ofNat len)), .val (.int (Int32.ofNat i)), .val (.int (cv A (o + i)))] [.int (lo8 (cv A (o + i))), .int (Int32.ofNat (q + i)), .ref d])) := c5.trans (by
        refine XS.iload Xl.here hexec rfl (hb hbytes d15) rfl ?_
        refine sipushV Xl.here hexec rfl 255 (hb hbytes d17) (by decide) ?_
        refine XS.icmpYes Xl.here hexec rfl (pc0 := 20) rfl (hb hbytes d20) rfl (ii_le_t (hp i (by omega))) (by decide) rfl ?_
        refine XS.aloadN Xl.here hexec rfl (hb hbytes d26) rfl rfl ?_
        refine XS.iloadN Xl.here hexec rfl (hb hbytes d27) rfl ?_
        refine XS.iload Xl.here hexec rfl (hb hbytes d28) rfl ?_
        refine i2b Xl.here hexec rfl (hb hbytes d30) rfl ?_
        exact Steps.refl _)
      obtain ⟨T7, X7, p7, st7⟩ := Xl.aput hexec hBk rfl hlt rfl (fits_lo8 (cv A (o + i))) (g := (mkF m 31 #[.val (.ref b), .val (.int (Int32.ofNat (o + i))), .val (.ref d), .val (.int (Int32.ofNat (q + i))), .val (.int (Int32.ofNat len)), .val (.int (Int32.ofNat i)), .val (.int (cv A (o + i)))] [.int (lo8 (cv A (o + i))), .int (Int32.ofNat (q + i)), .ref d])) rfl (rest := []) rfl (hb hbytes d31)
      have c8 : Steps p.tables e below (s₁.setTop (entryFrame m #[.ref b, .int (Int32.ofNat o), .ref d, .int (Int32.ofNat q), .int (Int32.ofNat len)] 7)) (T7.setTop (mkF m 32 #[.val (.ref b), .val (.int (Int32.ofNat (o + i))), .val (.ref d), .val (.int (Int32.ofNat (q + i))), .val (.int (Int32.ofNat len)), .val (.int (Int32.ofNat i)), .val (.int (cv A (o + i)))] [])) := c6.trans (st7 _ (Steps.refl _))
      have c9 : Steps p.tables e below (s₁.setTop (entryFrame m #[.ref b, .int (Int32.ofNat o), .ref d, .int (Int32.ofNat q), .int (Int32.ofNat len)] 7)) (T7.setTop (mkF m 3 #[.val (.ref b), .val (.int (Int32.ofNat (o + i) + 1)), .val (.ref d), .val (.int (Int32.ofNat (q + i) + 1)), .val (.int (Int32.ofNat len)), .val (.int (Int32.ofNat i + 1)), .val (.int (cv A (o + i)))] [])) := c8.trans (by
        refine iincV X7.here hexec rfl 1 (hb hbytes d32) (by decide) rfl rfl ?_
        refine iincV X7.here hexec rfl 1 (hb hbytes d35) (by decide) rfl rfl ?_
        refine iincV X7.here hexec rfl 1 (hb hbytes d38) (by decide) rfl rfl ?_
        refine XS.goto X7.here hexec rfl (pc0 := 41) rfl (hb hbytes d41) (by decide) rfl ?_
        exact Steps.refl _)
      have c10 : Steps p.tables e below (s₁.setTop (entryFrame m #[.ref b, .int (Int32.ofNat o), .ref d, .int (Int32.ofNat q), .int (Int32.ofNat len)] 7)) (T7.setTop (mkF m 3 #[.val (.ref b), .val (.int (Int32.ofNat (o + (i + 1)))), .val (.ref d), .val (.int (Int32.ofNat (q + (i + 1)))), .val (.int (Int32.ofNat len)), .val (.int (Int32.ofNat (i + 1))), .val (.int (cv A (o + i)))] [])) := by
        have := c9
        rw [succ32, succ32, succ32] at this
        exact this
      exact ih (i + 1) (by omega) _ (Or.inr ⟨_, rfl, rfl⟩) T7 _ (by rw [copyLocs_step, ← List.append_assoc]; exact X7) (pl.trans p7) (fl.step (by omega) hlt (by simp)) c10
  obtain ⟨T9, B9, z9, X9, p9, f9, g9⟩ := loop len 0 (by omega) .unset (Or.inl rfl) s₁ B (by simpa [copyLocs] using X0) ⟨hB0.1, fun _ _ => rfl, rfl⟩ (Laid.zero _ _ _) c2
  have c11 : Steps p.tables e below (s₁.setTop (entryFrame m #[.ref b, .int (Int32.ofNat o), .ref d, .int (Int32.ofNat q), .int (Int32.ofNat len)] 7)) (T9.setTop (mkF m 46 #[.val (.ref b), .val (.int (Int32.ofNat (o + len))), .val (.ref d), .val (.int (Int32.ofNat (q + len))), .val (.int (Int32.ofNat len)), .val (.int (Int32.ofNat len)), z9] [.int (Int32.ofNat len)])) := g9.trans (by
    refine XS.iload X9.here hexec rfl (hb hbytes d3) rfl ?_
    refine XS.iload X9.here hexec rfl (hb hbytes d5) rfl ?_
    refine XS.icmpYes X9.here hexec rfl (pc0 := 7) rfl (hb hbytes d7) rfl (ii_ge_t (nlt32 (by omega) (Nat.le_refl _))) (by decide) rfl ?_
    refine XS.iload X9.here hexec rfl (hb hbytes d44) rfl ?_
    exact Steps.refl _)
  exact ⟨T9, some (.int (Int32.ofNat len)), _, _, _, X9, by simp, rfl, rfl, (fun h => by cases h), ⟨rfl, B9, p9.from hh0, f9⟩, fun fs hl => c11.trans (X9.ireturnOut hexec hret rfl (Or.inl rfl) (hb hbytes d46) hl)⟩
end Cmp5
namespace Cmp3
def yN : MethodName := ⟨"java/lang/StringUTF16", "compress", "([CII)[B"⟩
abbrev yB : ByteArray := jdk_52_method_16_code
theorem d0 : decode yB 0 = .ok (.iload_n 2, 1) := by decide +kernel
theorem d1 : decode yB 1 = .ok (.newarray .byte, 2) := by decide +kernel
theorem d3 : decode yB 3 = .ok (.astore_n 3, 1) := by decide +kernel
theorem d4 : decode yB 4 = .ok (.aload_n 0, 1) := by decide +kernel
theorem d5 : decode yB 5 = .ok (.iload_n 1, 1) := by decide +kernel
theorem d6 : decode yB 6 = .ok (.aload_n 3, 1) := by decide +kernel
theorem d7 : decode yB 7 = .ok (.iconst 0, 1) := by decide +kernel
theorem d8 : decode yB 8 = .ok (.iload_n 2, 1) := by decide +kernel
theorem d9 : decode yB 9 = .ok (.invokestatic 115, 3) := by decide +kernel
theorem d12 : decode yB 12 = .ok (.istore 4, 2) := by decide +kernel
theorem d14 : decode yB 14 = .ok (.iload 4, 2) := by decide +kernel
theorem d16 : decode yB 16 = .ok (.iload_n 2, 1) := by decide +kernel
theorem d17 : decode yB 17 = .ok (.if_icmp (.eq) 40, 3) := by decide +kernel
theorem d57 : decode yB 57 = .ok (.aload_n 3, 1) := by decide +kernel
theorem d58 : decode yB 58 = .ok (.areturn, 1) := by decide +kernel
def site : List Cond := [.arrayClass .byte, Cmp5.tab] ++ staticW U16 115 Cmp5.yN
def tab : Cond := tabOf yN yB 6 (some (.array .byte)) site
def P (b : Addr) (A : Cell) (o len : Nat) (args : Array Value) (s : State) : Prop := args = #[.ref b, .int (Int32.ofNat o), .int (Int32.ofNat len)] ∧ Ch b A s ∧ o + len ≤ A.slots.size ∧ len ≤ 536870912 ∧ ∀ i, i < len → ¬ 255 < cv A (o + i)
def E (b : Addr) (A : Cell) (o len : Nat) (r : Option Value) (s u : State) : Prop := NewArr .byte "[B" len (fun j => .int (lo8 (cv A (o + j)))) r s u ∧ u.heap.size = s.heap.size + 1
/-- no char of the range above 255: a new byte[] of their low bytes -/
theorem law (l : Launch) (b : Addr) (A : Cell) (o len : Nat) : Law l yN 3 3 1 18 yB 6 (some (.array .byte)) site (P b A o len) (E b A o len) [] 1 len := by
  refine Law.of_walk (plainFor_of_name (by decide +kernel)) (by decide +kernel) (by decide +kernel) (by decide) (fun _ _ h => by rw [h.1]; rfl) (fun _ U U' hal hh h => ⟨h.1, h.2.1.mv hal hh, h.2.2⟩) (fun r U U' V V' h1 hal h2 h => ⟨NewArr.mv r U U' V V' h1 hal h2 h.1, by rw [h1, h2]; exact h.2⟩) ?_
  intro p e s m args below meth c s₁ X0 hexec hbytes hml hret hlk hnm hown hh0 W hP
  obtain ⟨rfl, hA, l1, l2, hp⟩ := hP
  have a31 := hA.1.2.2.2
  have c1 : Steps p.tables e below (s₁.setTop (entryFrame m #[.ref b, .int (Int32.ofNat o), .int (Int32.ofNat len)] 6)) (s₁.setTop (mkF m 0 #[.val (.ref b), .val (.int (Int32.ofNat o)), .val (.int (Int32.ofNat len)), .unset, .unset, .unset] [])) := entry rfl
  have c2 : Steps p.tables e below (s₁.setTop (entryFrame m #[.ref b, .int (Int32.ofNat o), .int (Int32.ofNat len)] 6)) (s₁.setTop (mkF m 1 #[.val (.ref b), .val (.int (Int32.ofNat o)), .val (.int (Int32.ofNat len)), .unset, .unset, .unset] [.int (Int32.ofNat len)])) := c1.trans (by
    refine XS.iloadN X0.here hexec rfl (hb hbytes d0) rfl ?_
    exact Steps.refl _)
  obtain ⟨T3, B3, X3, ba3, bs3, bv3, bh3, bf3, st3⟩ := X0.anew hexec (atype := .byte) (wk W (.arrayClass .byte)) rfl (by show len * 1 ≤ _; omega) (by omega) (g := (mkF m 1 #[.val (.ref b), .val (.int (Int32.ofNat o)), .val (.int (Int32.ofNat len)), .unset, .unset, .unset] [.int (Int32.ofNat len)])) rfl (hb hbytes d1) (rest := []) rfl (Nat.le_refl _) (by show 0 + len ≤ len; omega)
  rw [hh0] at ba3 st3
  have kp3 : XT.Kept s T3 := (XT.Kept.of_eq hh0).push bh3
  have hA3 := hA.keep X3.warmed.alike (kp3 _ _ hA.1.1)
  have hne : b ≠ s.heap.size := hA.1.ne
  have c4 : Steps p.tables e below (s₁.setTop (entryFrame m #[.ref b, .int (Int32.ofNat o), .int (Int32.ofNat len)] 6)) (T3.setTop (mkF m 3 #[.val (.ref b), .val (.int (Int32.ofNat o)), .val (.int (Int32.ofNat len)), .unset, .unset, .unset] [.ref s.heap.size])) := c2.trans (st3 _ (Steps.refl _))
  have c5 : Steps p.tables e below (s₁.setTop (entryFrame m #[.ref b, .int (Int32.ofNat o), .int (Int32.ofNat len)] 6)) (T3.setTop (mkF m 9 #[.val (.ref b), .val (.int (Int32.ofNat o)), .val (.int (Int32.ofNat len)), .val (.ref s.heap.size), .unset, .unset] [.int (Int32.ofNat len), .int 0, .ref s.heap.size, .int (Int32.ofNat o), .ref b])) := c4.trans (by
    refine XS.astoreN X3.here hexec rfl (hb hbytes d3) rfl rfl rfl ?_
    refine XS.aloadN X3.here hexec rfl (hb hbytes d4) rfl rfl ?_
    refine XS.iloadN X3.here hexec rfl (hb hbytes d5) rfl ?_
    refine XS.aloadN X3.here hexec rfl (hb hbytes d6) rfl rfl ?_
    refine iconstV X3.here hexec rfl 0 (hb hbytes d7) (by decide) ?_
    refine XS.iloadN X3.here hexec rfl (hb hbytes d8) rfl ?_
    exact Steps.refl _)
  obtain ⟨v6, T6, X6, E6, g6⟩ := X3.callS hexec (Cmp5.law l b A s.heap.size B3 o 0 len) hown (wks W (staticW U16 115 Cmp5.yN)) (wk W Cmp5.tab) (W := 0) (Nat.le_of_ble_eq_true rfl) (Nat.le_of_ble_eq_true rfl) (Nat.le_refl _) (by show 0 + len + 0 ≤ len; omega) (g := (mkF m 9 #[.val (.ref b), .val (.int (Int32.ofNat o)), .val (.int (Int32.ofNat len)), .val (.ref s.heap.size), .unset, .unset] [.int (Int32.ofNat len), .int (Int32.ofNat 0), .ref s.heap.size, .int (Int32.ofNat o), .ref b])) rfl (by rw [hml]; rfl) c5 (argsL := [.ref b, .int (Int32.ofNat o), .ref s.heap.size, .int (Int32.ofNat 0), .int (Int32.ofNat len)]) (rest := []) rfl rfl (by show 2 * 0 + 0 ≤ _; decide) (hb hbytes d9) (⟨rfl, hA3, ba3, hne, l1, by rw [bs3]; simp, hp⟩)
  obtain ⟨rfl, B6, p6, f6⟩ := E6
  have c7 : Steps p.tables e below (s₁.setTop (entryFrame m #[.ref b, .int (Int32.ofNat o), .int (Int32.ofNat len)] 6)) (T6.setTop (mkF m 12 #[.val (.ref b), .val (.int (Int32.ofNat o)), .val (.int (Int32.ofNat len)), .val (.ref s.heap.size), .unset, .unset] [.int (Int32.ofNat len)])) := g6
  have c8 : Steps p.tables e below (s₁.setTop (entryFrame m #[.ref b, .int (Int32.ofNat o), .int (Int32.ofNat len)] 6)) (T6.setTop (mkF m 58 #[.val (.ref b), .val (.int (Int32.ofNat o)), .val (.int (Int32.ofNat len)), .val (.ref s.heap.size), .val (.int (Int32.ofNat len)), .unset] [.ref s.heap.size])) := c7.trans (by
    refine XS.istore X6.here hexec rfl (hb hbytes d12) rfl rfl ?_
    refine XS.iload X6.here hexec rfl (hb hbytes d14) rfl ?_
    refine XS.iloadN X6.here hexec rfl (hb hbytes d16) rfl ?_
    refine XS.icmpYes X6.here hexec rfl (pc0 := 17) rfl (hb hbytes d17) rfl (ii_eq_t rfl) (by decide) rfl ?_
    refine XS.aloadN X6.here hexec rfl (hb hbytes d57) rfl rfl ?_
    exact Steps.refl _)
  have X8 := X6.wide (L' := []) (cells' := 1) (slots' := len) (fun x hx hlt => by
    simp only [List.nil_append, copyLocs, List.mem_map, List.mem_range] at hx
    obtain ⟨i, -, rfl⟩ := hx
    exact absurd hlt (Nat.lt_irrefl _)) (Nat.le_refl _) (by omega)
  exact ⟨T6, some (.ref s.heap.size), _, _, _, X8, rfl, rfl, rfl, (fun h => by cases h), ⟨⟨rfl, B6, ba3.like (X3.warmed.alike.symm.trans X6.warmed.alike) p6.1 f6.1 f6.2.1 f6.2.2.1, f6.2.1.trans bv3, by rw [X6.warmed.alike.findClass, f6.1]; exact bf3, by rw [f6.2.2.1, bs3]; simp, fun j hj => by rw [f6.2.2.2 j, if_pos (by omega)]; rfl, kp3.put p6 (Nat.le_refl _)⟩, by rw [p6.2.2, bh3, hh0]; simp⟩, fun fs hl => c8.trans (X8.areturnOut hexec rfl hret rfl (hb hbytes d58) hl)⟩
end Cmp3
namespace CodL
def yN : MethodName := ⟨"java/lang/StringUTF16", "coderFromArrayLen", "([BI)B"⟩
abbrev yB : ByteArray := jdk_52_method_15_code
theorem d0 : decode yB 0 = .ok (.iload_n 1, 1) := by decide +kernel
theorem d1 : decode yB 1 = .ok (.aload_n 0, 1) := by decide +kernel
theorem d2 : decode yB 2 = .ok (.arraylength, 1) := by decide +kernel
theorem d3 : decode yB 3 = .ok (.isub, 1) := by decide +kernel
theorem d4 : decode yB 4 = .ok (.bipush 31, 2) := by decide +kernel
theorem d6 : decode yB 6 = .ok (.iushr, 1) := by decide +kernel
theorem d7 : decode yB 7 = .ok (.i2b, 1) := by decide +kernel
theorem d8 : decode yB 8 = .ok (.ireturn, 1) := by decide +kernel
def site : List Cond := []
def tab : Cond := tabOf yN yB 2 (some .byte) site
def P (d : Addr) (B : Cell) (args : Array Value) (s : State) : Prop := args = #[.ref d, .int (Int32.ofNat B.slots.size)] ∧ Arr .byte d B s
def E (r : Option Value) (s u : State) : Prop := XT.PureE (some (.int 0)) r s u
/-- an array as long as the number of chars: LATIN1 -/
theorem law (l : Launch) (d : Addr) (B : Cell) : Law l yN 2 2 0 0 yB 2 (some .byte) site (P d B) E [] 0 0 := by
  refine Law.of_walk (plainFor_of_name (by decide +kernel)) (by decide +kernel) (by decide +kernel) (by decide) (fun _ _ h => by rw [h.1]; rfl) (fun _ U U' hal hh h => ⟨h.1, h.2.mv hal hh⟩) (fun r U U' V V' h1 hal h2 h => XT.PureE.mv r U U' V V' h1 hal h2 h) ?_
  intro p e s m args below meth c s₁ X0 hexec hbytes hml hret hlk hnm hown hh0 W hP
  obtain ⟨rfl, hB⟩ := hP
  have hB0 := hB.mv X0.warmed.alike hh0
  have c1 : Steps p.tables e below (s₁.setTop (entryFrame m #[.ref d, .int (Int32.ofNat B.slots.size)] 2)) (s₁.setTop (mkF m 0 #[.val (.ref d), .val (.int (Int32.ofNat B.slots.size))] [])) := entry rfl
  have c2 : Steps p.tables e below (s₁.setTop (entryFrame m #[.ref d, .int (Int32.ofNat B.slots.size)] 2)) (s₁.setTop (mkF m 2 #[.val (.ref d), .val (.int (Int32.ofNat B.slots.size))] [.ref d, .int (Int32.ofNat B.slots.size)])) := c1.trans (by
    refine XS.iloadN X0.here hexec rfl (hb hbytes d0) rfl ?_
    refine XS.aloadN X0.here hexec rfl (hb hbytes d1) rfl rfl ?_
    exact Steps.refl _)
  have c3 : Steps p.tables e below (s₁.setTop (entryFrame m #[.ref d, .int (Int32.ofNat B.slots.size)] 2)) (s₁.setTop (mkF m 8 #[.val (.ref d), .val (.int (Int32.ofNat B.slots.size))] [.int (lo8 (ushr (Int32.ofNat B.slots.size - Int32.ofNat B.slots.size) 31))])) := c2.trans (by
    refine X0.alen hexec hB0 rfl rfl (hb hbytes d2) ?_
    refine XS.isub X0.here hexec rfl (hb hbytes d3) rfl ?_
    refine bipushV X0.here hexec rfl 31 (hb hbytes d4) (by decide) ?_
    refine iushr X0.here hexec rfl (hb hbytes d6) rfl ?_
    refine i2b X0.here hexec rfl (hb hbytes d7) rfl ?_
    exact Steps.refl _)
  have e0 : lo8 (ushr (Int32.ofNat B.slots.size - Int32.ofNat B.slots.size) 31) = 0 := by rw [Int32.sub_self]; decide
  rw [e0] at c3
  exact ⟨s₁, some (.int 0), _, _, _, X0, rfl, rfl, rfl, (fun h => by cases h), ⟨rfl, hh0⟩, fun fs hl => c3.trans (X0.ireturnOut hexec hret rfl (Or.inr (Or.inr (Or.inl rfl))) (hb hbytes d8) hl)⟩
end CodL
/-- the String at a is Latin-1 over a new byte[] (the heap's one new cell): the low bytes of the len chars of A from o on; every cell but a is kept -/
def Got (a : Addr) (D : Cell) (fV fC : Field) (A : Cell) (o len : Nat) (r : Option Value) (s u : State) : Prop := r = none ∧ ∃ D' V : Cell, Blank "java/lang/String" a D' u ∧ Same D D' [fV.slot, fC.slot] ∧ D'.slots[fV.slot]? = some (.ref s.heap.size) ∧ D'.slots[fC.slot]? = some (.int 0) ∧ Arr .byte s.heap.size V u ∧ V.vm = .none ∧ u.vm.findClass "[B" = some V.cls ∧ V.slots.size = len ∧ (∀ j, j < len → V.slots[j]? = some (.int (lo8 (cv A (o + j))))) ∧ (∀ (y : Addr) (c : Cell), y ≠ a → s.heap[y]? = some c → u.heap[y]? = some c) ∧ u.heap.size = s.heap.size + 1
theorem Got.mv {a : Addr} {D A : Cell} {fV fC : Field} {o len : Nat} : ∀ r (U U' V V' : State), U'.heap = U.heap → V.vm.Alike V'.vm → V'.heap = V.heap → Got a D fV fC A o len r U V → Got a D fV fC A o len r U' V' :=
  fun r U U' V V' h1 hal h2 ⟨e0, D', X, a1, a2, a3, a4, a5, a6, a7, a8, a9, a10, a11⟩ => ⟨e0, D', X, a1.mv hal h2, a2, by rw [h1]; exact a3, a4, by rw [h1]; exact a5.mv hal h2, a6, by rw [hal.findClass]; exact a7, a8, a9, by rw [h1, h2]; exact a10, by rw [h1, h2]; exact a11⟩
namespace New4
def yN : MethodName := ⟨"java/lang/String", "<init>", "([CIILjava/lang/Void;)V"⟩
abbrev yB : ByteArray := jdk_42_method_149_code
theorem d0 : decode yB 0 = .ok (.aload_n 0, 1) := by decide +kernel
theorem d1 : decode yB 1 = .ok (.invokespecial 1, 3) := by decide +kernel
theorem d4 : decode yB 4 = .ok (.iload_n 3, 1) := by decide +kernel
theorem d5 : decode yB 5 = .ok (.ifCond (.ne) 22, 3) := by decide +kernel
theorem d27 : decode yB 27 = .ok (.getstatic 38, 3) := by decide +kernel
theorem d30 : decode yB 30 = .ok (.ifCond (.eq) 28, 3) := by decide +kernel
theorem d33 : decode yB 33 = .ok (.aload_n 1, 1) := by decide +kernel
theorem d34 : decode yB 34 = .ok (.iload_n 2, 1) := by decide +kernel
theorem d35 : decode yB 35 = .ok (.iload_n 3, 1) := by decide +kernel
theorem d36 : decode yB 36 = .ok (.invokestatic 177, 3) := by decide +kernel
theorem d39 : decode yB 39 = .ok (.astore 5, 2) := by decide +kernel
theorem d41 : decode yB 41 = .ok (.aload_n 0, 1) := by decide +kernel
theorem d42 : decode yB 42 = .ok (.aload 5, 2) := by decide +kernel
theorem d44 : decode yB 44 = .ok (.iload_n 3, 1) := by decide +kernel
theorem d45 : decode yB 45 = .ok (.invokestatic 47, 3) := by decide +kernel
theorem d48 : decode yB 48 = .ok (.putfield 15, 3) := by decide +kernel
theorem d51 : decode yB 51 = .ok (.aload_n 0, 1) := by decide +kernel
theorem d52 : decode yB 52 = .ok (.aload 5, 2) := by decide +kernel
theorem d54 : decode yB 54 = .ok (.putfield 9, 3) := by decide +kernel
theorem d57 : decode yB 57 = .ok (.return_, 1) := by decide +kernel
def site : List Cond := [.fieldLink "java/lang/String" 38 "java/lang/String" "COMPACT_STRINGS" "Z", Cmp3.tab, CodL.tab, .laysFinal "java/lang/String" "java/lang/String" "value" "[B", .fieldLink "java/lang/String" 9 "java/lang/String" "value" "[B", .laysFinal "java/lang/String" "java/lang/String" "coder" "B", .fieldLink "java/lang/String" 15 "java/lang/String" "coder" "B"] ++ objW "java/lang/String" 1 ++ staticW "java/lang/String" 177 Cmp3.yN ++ staticW "java/lang/String" 47 CodL.yN
def tab : Cond := tabOf yN yB 6 none site
def P (a : Addr) (D : Cell) (fV fC : Field) (b : Addr) (A : Cell) (z : Int32) (o len : Nat) (args : Array Value) (s : State) : Prop := args = #[.ref a, .ref b, .int (Int32.ofNat o), .int (Int32.ofNat len), .null] ∧ Blank "java/lang/String" a D s ∧ Found "java/lang/String" "value" "[B" fV s ∧ Found "java/lang/String" "coder" "B" fC s ∧ Ch b A s ∧ StaticIs s "java/lang/String" "COMPACT_STRINGS" "Z" (.int z) ∧ ¬ z = 0 ∧ 0 < len ∧ o + len ≤ A.slots.size ∧ len ≤ 536870912 ∧ ∀ i, i < len → ¬ 255 < cv A (o + i)
def E (a : Addr) (D : Cell) (fV fC : Field) (A : Cell) (o len : Nat) (r : Option Value) (s u : State) : Prop := Got a D fV fC A o len r s u
/-- len > 0, no char of the range above 255: a Latin-1 String of their low bytes -/
theorem law (l : Launch) (a : Addr) (D : Cell) (fV fC : Field) (b : Addr) (A : Cell) (z : Int32) (o len : Nat) : Law l yN 5 4 2 35 yB 6 none site (P a D fV fC b A z o len) (E a D fV fC A o len) [⟨a, fC.slot⟩, ⟨a, fV.slot⟩] 1 len := by
  refine Law.of_walk (plainFor_of_name (by decide +kernel)) (by decide +kernel) (by decide +kernel) (by decide) (fun _ _ h => by rw [h.1]; rfl) (fun _ U U' hal hh h => ⟨h.1, h.2.1.mv hal hh, h.2.2.1.al hal, h.2.2.2.1.al hal, h.2.2.2.2.1.mv hal hh, h.2.2.2.2.2.1.there hal hh, h.2.2.2.2.2.2⟩) (fun r U U' V V' h1 hal h2 h => Got.mv r U U' V V' h1 hal h2 h) ?_
  intro p e s m args below meth c s₁ X0 hexec hbytes hml hret hlk hnm hown hh0 W hP
  obtain ⟨rfl, hB, f1, f2, hA, s1, hz, l0, l1, l2, hp⟩ := hP
  have a31 := hA.1.2.2.2
  have c1 : Steps p.tables e below (s₁.setTop (entryFrame m #[.ref a, .ref b, .int (Int32.ofNat o), .int (Int32.ofNat len), .null] 6)) (s₁.setTop (mkF m 0 #[.val (.ref a), .val (.ref b), .val (.int (Int32.ofNat o)), .val (.int (Int32.ofNat len)), .val .null, .unset] [])) := entry rfl
  have c2 : Steps p.tables e below (s₁.setTop (entryFrame m #[.ref a, .ref b, .int (Int32.ofNat o), .int (Int32.ofNat len), .null] 6)) (s₁.setTop (mkF m 1 #[.val (.ref a), .val (.ref b), .val (.int (Int32.ofNat o)), .val (.int (Int32.ofNat len)), .val .null, .unset] [.ref a])) := c1.trans (by
    refine XS.aloadN X0.here hexec rfl (hb hbytes d0) rfl rfl ?_
    exact Steps.refl _)
  obtain ⟨T3, X3, q3, st3⟩ := X0.oinit hexec hown (wks W (objW "java/lang/String" 1)) (g := (mkF m 1 #[.val (.ref a), .val (.ref b), .val (.int (Int32.ofNat o)), .val (.int (Int32.ofNat len)), .val .null, .unset] [.ref a])) rfl (by rw [hml]; rfl) (rest := []) rfl (hb hbytes d1) (W := 0) (by show 2 * 0 + 0 ≤ _; decide) (Nat.le_of_ble_eq_true rfl) (Nat.le_of_ble_eq_true rfl)
  have hh3 := q3.trans hh0
  have c4 : Steps p.tables e below (s₁.setTop (entryFrame m #[.ref a, .ref b, .int (Int32.ofNat o), .int (Int32.ofNat len), .null] 6)) (T3.setTop (mkF m 27 #[.val (.ref a), .val (.ref b), .val (.int (Int32.ofNat o)), .val (.int (Int32.ofNat len)), .val .null, .unset] [])) := (c2.trans (st3 _ (Steps.refl _))).trans (by
    refine XS.iloadN X3.here hexec rfl (hb hbytes d4) rfl ?_
    refine XS.ifYes X3.here hexec rfl (pc0 := 5) rfl (hb hbytes d5) rfl (i0_ne_t (nz32 (by omega) l0)) (by decide) rfl ?_
    exact Steps.refl _)
  obtain ⟨T5, X5, q5, st5⟩ := X3.sget hexec hown (wk W (.fieldLink "java/lang/String" 38 "java/lang/String" "COMPACT_STRINGS" "Z")) s1 (fun _ _ h => by rw [hh3]; exact h) (g := (mkF m 27 #[.val (.ref a), .val (.ref b), .val (.int (Int32.ofNat o)), .val (.int (Int32.ofNat len)), .val .null, .unset] [])) rfl (hb hbytes d27)
  have hh5 := q5.trans hh3
  have c6 : Steps p.tables e below (s₁.setTop (entryFrame m #[.ref a, .ref b, .int (Int32.ofNat o), .int (Int32.ofNat len), .null] 6)) (T5.setTop (mkF m 30 #[.val (.ref a), .val (.ref b), .val (.int (Int32.ofNat o)), .val (.int (Int32.ofNat len)), .val .null, .unset] [.int z])) := c4.trans (st5 _ (Steps.refl _))
  have c7 : Steps p.tables e below (s₁.setTop (entryFrame m #[.ref a, .ref b, .int (Int32.ofNat o), .int (Int32.ofNat len), .null] 6)) (T5.setTop (mkF m 36 #[.val (.ref a), .val (.ref b), .val (.int (Int32.ofNat o)), .val (.int (Int32.ofNat len)), .val .null, .unset] [.int (Int32.ofNat len), .int (Int32.ofNat o), .ref b])) := c6.trans (by
    refine XS.ifNo X5.here hexec rfl (hb hbytes d30) rfl (i0_eq_f hz) ?_
    refine XS.aloadN X5.here hexec rfl (hb hbytes d33) rfl rfl ?_
    refine XS.iloadN X5.here hexec rfl (hb hbytes d34) rfl ?_
    refine XS.iloadN X5.here hexec rfl (hb hbytes d35) rfl ?_
    exact Steps.refl _)
  obtain ⟨v8, T8, X8, E8, g8⟩ := X5.callS hexec (Cmp3.law l b A o len) hown (wks W (staticW "java/lang/String" 177 Cmp3.yN)) (wk W Cmp3.tab) (W := 0) (Nat.le_of_ble_eq_true rfl) (Nat.le_of_ble_eq_true rfl) (Nat.le_refl _) (by show 0 + len ≤ len; omega) (g := (mkF m 36 #[.val (.ref a), .val (.ref b), .val (.int (Int32.ofNat o)), .val (.int (Int32.ofNat len)), .val .null, .unset] [.int (Int32.ofNat len), .int (Int32.ofNat o), .ref b])) rfl (by rw [hml]; rfl) c7 (argsL := [.ref b, .int (Int32.ofNat o), .int (Int32.ofNat len)]) (rest := []) rfl rfl (by show 2 * 0 + 0 ≤ _; decide) (hb hbytes d36) (⟨rfl, hA.mv X5.warmed.alike hh5, l1, l2, hp⟩)
  obtain ⟨e8, z8⟩ := E8
  obtain ⟨rfl, N, n1, n2, n3, n4, n5, n6⟩ := NewArr.mv _ T5 s _ _ hh5.symm (Vm.Alike.refl _) rfl e8
  rw [hh5] at z8
  have hB1 := hB.keep X8.warmed.alike (n6 _ _ hB.1)
  have hne : s.heap.size ≠ a := (Nat.ne_of_lt (Array.getElem?_eq_some_iff.mp hB.1).1).symm
  have c9 : Steps p.tables e below (s₁.setTop (entryFrame m #[.ref a, .ref b, .int (Int32.ofNat o), .int (Int32.ofNat len), .null] 6)) (T8.setTop (mkF m 39 #[.val (.ref a), .val (.ref b), .val (.int (Int32.ofNat o)), .val (.int (Int32.ofNat len)), .val .null, .unset] [.ref s.heap.size])) := g8
  have c10 : Steps p.tables e below (s₁.setTop (entryFrame m #[.ref a, .ref b, .int (Int32.ofNat o), .int (Int32.ofNat len), .null] 6)) (T8.setTop (mkF m 45 #[.val (.ref a), .val (.ref b), .val (.int (Int32.ofNat o)), .val (.int (Int32.ofNat len)), .val .null, .val (.ref s.heap.size)] [.int (Int32.ofNat N.slots.size), .ref s.heap.size, .ref a])) := by
    have hc : Steps p.tables e below (s₁.setTop (entryFrame m #[.ref a, .ref b, .int (Int32.ofNat o), .int (Int32.ofNat len), .null] 6)) (T8.setTop (mkF m 45 #[.val (.ref a), .val (.ref b), .val (.int (Int32.ofNat o)), .val (.int (Int32.ofNat len)), .val .null, .val (.ref s.heap.size)] [.int (Int32.ofNat len), .ref s.heap.size, .ref a])) := c9.trans (by
      refine XS.astore X8.here hexec rfl (hb hbytes d39) rfl rfl rfl ?_
      refine XS.aloadN X8.here hexec rfl (hb hbytes d41) rfl rfl ?_
      refine XS.aload X8.here hexec rfl (hb hbytes d42) rfl rfl ?_
      refine XS.iloadN X8.here hexec rfl (hb hbytes d44) rfl ?_
      exact Steps.refl _)
    rw [n4]; exact hc
  obtain ⟨v11, T11, X11, E11, g11⟩ := X8.callS hexec (CodL.law l s.heap.size N) hown (wks W (staticW "java/lang/String" 47 CodL.yN)) (wk W CodL.tab) (W := 1) (Nat.le_of_ble_eq_true rfl) (Nat.le_of_ble_eq_true rfl) (Nat.le_refl _) (by show 0 + len + 0 ≤ len; omega) (g := (mkF m 45 #[.val (.ref a), .val (.ref b), .val (.int (Int32.ofNat o)), .val (.int (Int32.ofNat len)), .val .null, .val (.ref s.heap.size)] [.int (Int32.ofNat N.slots.size), .ref s.heap.size, .ref a])) rfl (by rw [hml]; rfl) c10 (argsL := [.ref s.heap.size, .int (Int32.ofNat N.slots.size)]) (rest := [.ref a]) rfl rfl (by show 2 * 0 + (1 + 0) ≤ _; decide) (hb hbytes d45) (⟨rfl, n1⟩)
  obtain ⟨rfl, q11⟩ := E11
  have hB11 := hB1.mv (X8.warmed.alike.symm.trans X11.warmed.alike) q11
  have c12 : Steps p.tables e below (s₁.setTop (entryFrame m #[.ref a, .ref b, .int (Int32.ofNat o), .int (Int32.ofNat len), .null] 6)) (T11.setTop (mkF m 48 #[.val (.ref a), .val (.ref b), .val (.int (Int32.ofNat o)), .val (.int (Int32.ofNat len)), .val .null, .val (.ref s.heap.size)] [.int 0, .ref a])) := g11
  obtain ⟨T13, X13, p13, bl13, sl13, st13⟩ := X11.finit hexec hown (wk W (.fieldLink "java/lang/String" 15 "java/lang/String" "coder" "B")) (Or.inr ⟨_, (wk W (.laysFinal "java/lang/String" "java/lang/String" "coder" "B"))⟩) (Or.inl ⟨rfl, hnm⟩) f2 (Or.inl rfl) hB11 (t := .byte) (by decide +kernel) rfl (g := (mkF m 48 #[.val (.ref a), .val (.ref b), .val (.int (Int32.ofNat o)), .val (.int (Int32.ofNat len)), .val .null, .val (.ref s.heap.size)] [.int 0, .ref a])) rfl (rest := []) rfl (hb hbytes d48)
  have c14 : Steps p.tables e below (s₁.setTop (entryFrame m #[.ref a, .ref b, .int (Int32.ofNat o), .int (Int32.ofNat len), .null] 6)) (T13.setTop (mkF m 54 #[.val (.ref a), .val (.ref b), .val (.int (Int32.ofNat o)), .val (.int (Int32.ofNat len)), .val .null, .val (.ref s.heap.size)] [.ref s.heap.size, .ref a])) := (c12.trans (st13 _ (Steps.refl _))).trans (by
    refine XS.aloadN X13.here hexec rfl (hb hbytes d51) rfl rfl ?_
    refine XS.aload X13.here hexec rfl (hb hbytes d52) rfl rfl ?_
    exact Steps.refl _)
  obtain ⟨T15, X15, p15, bl15, sl15, st15⟩ := X13.finit hexec hown (wk W (.fieldLink "java/lang/String" 9 "java/lang/String" "value" "[B")) (Or.inr ⟨_, (wk W (.laysFinal "java/lang/String" "java/lang/String" "value" "[B"))⟩) (Or.inl ⟨rfl, hnm⟩) f1 (Or.inl rfl) bl13 (t := (.array .byte)) (by decide +kernel) rfl (g := (mkF m 54 #[.val (.ref a), .val (.ref b), .val (.int (Int32.ofNat o)), .val (.int (Int32.ofNat len)), .val .null, .val (.ref s.heap.size)] [.ref s.heap.size, .ref a])) rfl (rest := []) rfl (hb hbytes d54)
  have c16 : Steps p.tables e below (s₁.setTop (entryFrame m #[.ref a, .ref b, .int (Int32.ofNat o), .int (Int32.ofNat len), .null] 6)) (T15.setTop (mkF m 57 #[.val (.ref a), .val (.ref b), .val (.int (Int32.ofNat o)), .val (.int (Int32.ofNat len)), .val .null, .val (.ref s.heap.size)] [])) := c14.trans (st15 _ (Steps.refl _))
  have ap := apart (Or.inr ⟨_, (wk W (.laysFinal "java/lang/String" "java/lang/String" "value" "[B"))⟩) (Or.inr ⟨_, (wk W (.laysFinal "java/lang/String" "java/lang/String" "coder" "B"))⟩) f1 f2 (t₁ := .array .byte) (t₂ := .byte) (by decide +kernel) (by decide +kernel) (by decide)
  have al := X8.warmed.alike.symm.trans X15.warmed.alike
  have n7 : T11.heap[s.heap.size]? = some N := by rw [q11]; exact n1.1
  exact ⟨T15, none, _, _, _, X15, by simp, rfl, by omega, (fun _ => rfl), ⟨rfl, _, N, bl15, ((Same.refl D _).set _ (by simp)).set _ (by simp), sl15, (Cell.slots_setSlot_ne _ ap).trans sl13, n1.keep al (p15.other hne (p13.other hne n7)), n2, by rw [al.findClass]; exact n3, n4, n5, fun y c h1 h2 => p15.other h1 (p13.other h1 (by rw [q11]; exact n6 y c h2)), by rw [p15.2.2, p13.2.2, q11]; exact z8⟩, fun fs hl => c16.trans (X15.returnOut hexec hret (hb hbytes d57) hl)⟩
end New4
namespace New1
def yN : MethodName := ⟨"java/lang/String", "<init>", "([C)V"⟩
abbrev yB : ByteArray := jdk_42_method_3_code
theorem d0 : decode yB 0 = .ok (.aload_n 0, 1) := by decide +kernel
theorem d1 : decode yB 1 = .ok (.aload_n 1, 1) := by decide +kernel
theorem d2 : decode yB 2 = .ok (.iconst 0, 1) := by decide +kernel
theorem d3 : decode yB 3 = .ok (.aload_n 1, 1) := by decide +kernel
theorem d4 : decode yB 4 = .ok (.arraylength, 1) := by decide +kernel
theorem d5 : decode yB 5 = .ok (.aconst_null, 1) := by decide +kernel
theorem d6 : decode yB 6 = .ok (.invokespecial 27, 3) := by decide +kernel
theorem d9 : decode yB 9 = .ok (.return_, 1) := by decide +kernel
def site : List Cond := [New4.tab] ++ initW "java/lang/String" 27 New4.yN
def tab : Cond := tabOf yN yB 2 none site
def P (a : Addr) (D : Cell) (fV fC : Field) (b : Addr) (A : Cell) (z : Int32) (args : Array Value) (s : State) : Prop := args = #[.ref a, .ref b] ∧ Blank "java/lang/String" a D s ∧ Found "java/lang/String" "value" "[B" fV s ∧ Found "java/lang/String" "coder" "B" fC s ∧ Ch b A s ∧ StaticIs s "java/lang/String" "COMPACT_STRINGS" "Z" (.int z) ∧ ¬ z = 0 ∧ 0 < A.slots.size ∧ A.slots.size ≤ 536870912 ∧ ∀ i, i < A.slots.size → ¬ 255 < cv A i
def E (a : Addr) (D : Cell) (fV fC : Field) (A : Cell) (r : Option Value) (s u : State) : Prop := Got a D fV fC A 0 A.slots.size r s u
/-- new String(chars), not empty, no char above 255: a Latin-1 String of their low bytes -/
theorem law (l : Launch) (a : Addr) (D : Cell) (fV fC : Field) (b : Addr) (A : Cell) (z : Int32) : Law l yN 2 1 3 52 yB 2 none site (P a D fV fC b A z) (E a D fV fC A) [⟨a, fC.slot⟩, ⟨a, fV.slot⟩] 1 A.slots.size := by
  refine Law.of_walk (plainFor_of_name (by decide +kernel)) (by decide +kernel) (by decide +kernel) (by decide) (fun _ _ h => by rw [h.1]; rfl) (fun _ U U' hal hh h => ⟨h.1, h.2.1.mv hal hh, h.2.2.1.al hal, h.2.2.2.1.al hal, h.2.2.2.2.1.mv hal hh, h.2.2.2.2.2.1.there hal hh, h.2.2.2.2.2.2⟩) (fun r U U' V V' h1 hal h2 h => Got.mv r U U' V V' h1 hal h2 h) ?_
  intro p e s m args below meth c s₁ X0 hexec hbytes hml hret hlk hnm hown hh0 W hP
  obtain ⟨rfl, hB, f1, f2, hA, s1, hz, l0, l2, hp⟩ := hP
  have c1 : Steps p.tables e below (s₁.setTop (entryFrame m #[.ref a, .ref b] 2)) (s₁.setTop (mkF m 0 #[.val (.ref a), .val (.ref b)] [])) := entry rfl
  have c2 : Steps p.tables e below (s₁.setTop (entryFrame m #[.ref a, .ref b] 2)) (s₁.setTop (mkF m 6 #[.val (.ref a), .val (.ref b)] [.null, .int (Int32.ofNat A.slots.size), .int 0, .ref b, .ref a])) := c1.trans (by
    refine XS.aloadN X0.here hexec rfl (hb hbytes d0) rfl rfl ?_
    refine XS.aloadN X0.here hexec rfl (hb hbytes d1) rfl rfl ?_
    refine iconstV X0.here hexec rfl 0 (hb hbytes d2) (by decide) ?_
    refine XS.aloadN X0.here hexec rfl (hb hbytes d3) rfl rfl ?_
    refine X0.alen hexec (hA.1.mv X0.warmed.alike hh0) rfl rfl (hb hbytes d4) ?_
    refine XS.aconstNull X0.here hexec rfl (hb hbytes d5) ?_
    exact Steps.refl _)
  obtain ⟨v3, T3, X3, E3, g3⟩ := X0.callN hexec (New4.law l a D fV fC b A z 0 A.slots.size) rfl hown (wks W (initW "java/lang/String" 27 New4.yN)) (W New4.tab (by simp only [site, List.mem_cons, List.mem_append, true_or, or_true])) (W := 0) (Nat.le_of_ble_eq_true rfl) (Nat.le_of_ble_eq_true rfl) (Nat.le_refl _) (by show 0 + A.slots.size ≤ A.slots.size; omega) (g := (mkF m 6 #[.val (.ref a), .val (.ref b)] [.null, .int (Int32.ofNat A.slots.size), .int (Int32.ofNat 0), .ref b, .ref a])) rfl (by rw [hml]; rfl) c2 (argsL := [.ref b, .int (Int32.ofNat 0), .int (Int32.ofNat A.slots.size), .null]) (rest := []) rfl rfl (by show 2 * 0 + 0 ≤ _; decide) (hb hbytes d6) (⟨rfl, hB.mv X0.warmed.alike hh0, f1.al X0.warmed.alike, f2.al X0.warmed.alike, hA.mv X0.warmed.alike hh0, s1.there X0.warmed.alike hh0, hz, l0, by omega, l2, fun i hi => by rw [Nat.zero_add]; exact hp i hi⟩)
  have e0 := Got.mv _ s₁ s _ _ hh0.symm (Vm.Alike.refl _) rfl E3
  obtain rfl := e0.1
  have c4 : Steps p.tables e below (s₁.setTop (entryFrame m #[.ref a, .ref b] 2)) (T3.setTop (mkF m 9 #[.val (.ref a), .val (.ref b)] [])) := g3
  exact ⟨T3, none, _, _, _, X3, by simp, rfl, by omega, (fun _ => rfl), e0, fun fs hl => c4.trans (X3.returnOut hexec hret (hb hbytes d9) hl)⟩
theorem pays {l : Launch} {R : Room} {p : Program} {e : Env} {below : List Frame} {s : State} {sargs : Array Value} {len W : Nat} (a : Addr) (D : Cell) (fV fC : Field) (b : Addr) (A : Cell) (z : Int32) (htab : tab.before sargs s = true) (hfr : 4 ≤ R.frames) (hlo : W + 65 ≤ R.locals) :
    Back l R p e below s sargs yN len W (fun A₁ a₁ => A₁.cells + 1 ≤ R.cells ∧ A₁.slots + A.slots.size ≤ R.slots ∧ P a D fV fC b A z a₁ A₁.U) (fun A₁ _ v₁ B₁ => E a D fV fC A v₁ A₁.U B₁.U ∧ B₁.locs = A₁.locs ++ [⟨a, fC.slot⟩, ⟨a, fV.slot⟩] ∧ B₁.cells = A₁.cells + 1 ∧ B₁.slots = A₁.slots + A.slots.size) :=
  (law l a D fV fC b A z).pays htab hfr (by omega)
end New1
end StrChars
namespace StrChars.Road
open Jvm Sem ClassFile Op Lib Jvm.Stand Jvm.Free Jvm.Free.XT
open Jvm.Lib.Cold (StaticIs)
abbrev ST : String := "java/lang/String"
/-- every table word that New1's law asks, flat -/
abbrev words : List Jvm.Cond := [.code New1.yN New1.yB 2 none, .initialized ST, .methodLink ST 27 New4.yN, .instanceMethod New4.yN,
  .code New4.yN New4.yB 6 none, .fieldLink ST 38 ST "COMPACT_STRINGS" "Z", .laysFinal ST ST "value" "[B", .fieldLink ST 9 ST "value" "[B", .laysFinal ST ST "coder" "B", .fieldLink ST 15 ST "coder" "B",
  .methodLink ST 1 Lib.objectInit, .instanceMethod Lib.objectInit, .code Lib.objectInit ⟨#[0xb1]⟩ 1 none, .methodLink ST 177 Cmp3.yN, .static Cmp3.yN, .methodLink ST 47 CodL.yN, .static CodL.yN,
  .code Cmp3.yN Cmp3.yB 6 (some (.array .byte)), .initialized U16, .arrayClass .byte, .methodLink U16 115 Cmp5.yN, .static Cmp5.yN, .code Cmp5.yN Cmp5.yB 7 (some .int), .code CodL.yN CodL.yB 2 (some .byte)]
theorem tab_of {a : Array Value} {s : State} (h : ∀ w ∈ words, w.before a s = true) : New1.tab.before a s = true := by
  have h5 : Cmp5.tab.before a s = true := unparts (wk h (.code Cmp5.yN Cmp5.yB 7 (some .int))) (wks h (.initialized Cmp5.yN.cls :: Cmp5.site))
  have hc : CodL.tab.before a s = true := unparts (wk h (.code CodL.yN CodL.yB 2 (some .byte))) (wks h (.initialized CodL.yN.cls :: CodL.site))
  have q5 : ∀ w ∈ Cmp5.tab :: words, w.before a s = true := fun w hw => (List.mem_cons.mp hw).elim (fun e => e ▸ h5) (h w)
  have h3 : Cmp3.tab.before a s = true := unparts (wk q5 (.code Cmp3.yN Cmp3.yB 6 (some (.array .byte)))) (wks q5 (.initialized Cmp3.yN.cls :: Cmp3.site))
  have q3 : ∀ w ∈ Cmp3.tab :: CodL.tab :: words, w.before a s = true := fun w hw => (List.mem_cons.mp hw).elim (fun e => e ▸ h3) fun hw => (List.mem_cons.mp hw).elim (fun e => e ▸ hc) (h w)
  have h4 : New4.tab.before a s = true := unparts (wk q3 (.code New4.yN New4.yB 6 none)) (wks q3 (.initialized New4.yN.cls :: New4.site))
  have q4 : ∀ w ∈ New4.tab :: words, w.before a s = true := fun w hw => (List.mem_cons.mp hw).elim (fun e => e ▸ h4) (h w)
  exact unparts (wk q4 (.code New1.yN New1.yB 2 none)) (wks q4 (.initialized New1.yN.cls :: New1.site))
/-- the words ride from the start Z to the walk's own state -/
theorem moved {Z s : State} {a0 args : Array Value} (hZ : Z.Warmed39 s.vm) (hw : ∀ d ∈ words, d.before a0 Z = true) : ∀ d ∈ words, d.before args s = true := fun d hd => by
  have q := hw d hd
  have t : ∀ d ∈ words, d = .arrayClass .byte ∨ (d.onTables && d.keepsFace) = true := by decide +kernel
  rcases t d hd with rfl | t
  · exact RoadKit.mvA hZ q
  · exact RoadKit.mv hZ q t
/-- WHAT COMES BACK, over the tables of the start Z: h the heap at the call, h' behind it -/
def Q (Z : State) (x : Addr) (A : Cell) (h : Heap) (v : Option Value) (h' : Heap) (L : List Loc) : Prop := v = none ∧ (∀ y ∈ L, y.base = x) ∧ RoadKit.Keep h h' [x] ∧ h'.size = h.size + 1 ∧ RoadKit.Exa Z h' x ST ∧ RoadKit.Fld Z h' x ST "value" "[B" (.ref h.size) ∧ RoadKit.Fld Z h' x ST "coder" "B" (.int 0) ∧
  (∃ V : Cell, RoadKit.Arr Z h' h.size V .byte ∧ V.vm = .none ∧ Z.vm.findClass "[B" = some V.cls ∧ V.slots.size = A.slots.size ∧ ∀ j, j < A.slots.size → V.slots[j]? = some (.int (lo8 (cv A j)))) ∧
  ∀ (O n d : String) (w : Value), RoadKit.Fld Z h x O n d w → RoadKit.slotOf Z O n d ≠ RoadKit.slotOf Z ST "value" "[B" → RoadKit.slotOf Z O n d ≠ RoadKit.slotOf Z ST "coder" "B" → RoadKit.Fld Z h' x O n d w
/-- **new String(chars) AT A CALL, IN THE ROAD'S FORM**: for specialBack behind newO: x the fresh String, b the char[] with the cell A -/
theorem back {p : Program} {l : Launch} {e : Env} {R : Room} {s : State} {args : Array Value} {below : List Frame} {len W : Nat} {Z : State} {a0 : Array Value} {h : Heap} (hZ : Z.Warmed39 s.vm) (hw : ∀ d ∈ words, d.before a0 Z = true) {kI : Nat} (wi : (Jvm.Cond.instantiable ST kI).before a0 Z = true)
    {x b : Addr} {A : Cell} {z : Int32} {v0 c0 : Value} (E : RoadKit.Exa Z h x ST) (V : RoadKit.Fld Z h x ST "value" "[B" v0) (C : RoadKit.Fld Z h x ST "coder" "B" c0) (K : RoadKit.Arr Z h b A .char) (hty : Typed .char A) (S : RoadKit.Sta Z h ST "COMPACT_STRINGS" "Z" (.int z)) (hz : ¬ z = 0)
    (l0 : 0 < A.slots.size) (l2 : A.slots.size ≤ 536870912) (hp : ∀ i, i < A.slots.size → ¬ 255 < cv A i) (hfr : 4 ≤ R.frames) (hlo : W + 65 ≤ R.locals) :
    Back l R p e below s args New1.yN len W (fun P a => a = #[.ref x, .ref b] ∧ P.U.heap = h ∧ P.cells + 1 ≤ R.cells ∧ P.slots + A.slots.size ≤ R.slots)
      (fun P _ v B => ∃ L, Q Z x A h v B.U.heap L ∧ B.locs = P.locs ++ L ∧ B.cells = P.cells + 1 ∧ B.slots = P.slots + A.slots.size) := by
  intro m meth c P g ig mk a X hg hsize hdg hW hn hp'
  obtain ⟨rfl, rfl, r1, r2⟩ := hp'
  have al : Z.vm.Alike P.U.vm := hZ.alike.trans X.warmed.alike
  obtain ⟨D, cfV, kV, iV, fV, hD, gV, stV, knV, obV, asV, slV⟩ := id V
  obtain ⟨D', cfC, kC, iC, fC, hD', gC, stC, -, -, asC, slC⟩ := id C
  cases hD.symm.trans hD'
  obtain ⟨D2, kD, e1, e2, e3, e4, e5⟩ := id E
  cases hD.symm.trans e1
  obtain ⟨c2, k2, i1, i2, i3, -⟩ := Cond.instantiable_spec wi
  cases e2.symm.trans i1
  cases e3.symm.trans i2
  obtain ⟨kU, u1, u2⟩ := al.2.2 _ _ e3
  have hB : Blank ST x D P.U := ⟨hD, ⟨knV, fun q hq => by rw [hq] at obV; cases obV⟩, by rw [al.findClass]; exact e2, kU, u1, by rw [u2]; exact i3, by rw [u2]; exact e5 i3⟩
  have F1 : Found ST "value" "[B" fV P.U := ⟨SBG.found_only al ⟨cfV, kV, iV, gV⟩, stV⟩
  have F2 : Found ST "coder" "B" fC P.U := ⟨SBG.found_only al ⟨cfC, kC, iC, gC⟩, stC⟩
  have hA : Ch b A P.U := ⟨⟨K.1, State.isArrayOf_alike al K.2.1, K.2.2, by omega⟩, hty⟩
  have hS : StaticIs P.U ST "COMPACT_STRINGS" "Z" (.int z) := by
    obtain ⟨cfS, iS, kS, fS, st, cS, t1, t2, t3, t4, t5, t6, t7⟩ := S
    exact StaticIs.there (s := { Z with heap := P.U.heap }) ⟨cfS, iS, kS, fS, st, cS, t1, t2, t3, t4, t5, (fun q => by rw [q] at t6; cases t6), t7⟩ al rfl
  obtain ⟨v, B, X', ⟨⟨hv, E', V', q1, q2, q3, q4, q5, q6, q7, q8, q9, q10, q11⟩, hl, hc, hs⟩, st⟩ := New1.pays x D fV fC b A z (tab_of (moved hZ hw)) hfr hlo m meth c P g ig mk _ X hg hsize hdg hW hn ⟨r1, r2, rfl, hB, F1, F2, hA, hS, hz, l0, l2, hp⟩
  have al' : Z.vm.Alike B.U.vm := hZ.alike.trans X'.warmed.alike
  have hsz : E'.slots.size = D.slots.size := by
    obtain ⟨-, -, -, kB, w1, w2, w3⟩ := q1
    obtain ⟨kB', y1, y2⟩ := al'.2.2 _ _ e3
    rw [q2.2.1] at w1
    cases w1.symm.trans y1
    rw [w3, e5 i3, y2]
  refine ⟨v, B, X', ⟨_, ⟨hv, ?_, ⟨by omega, fun y cy hy hn' => q10 y cy (by simpa using hn') hy, fun y cy hy => ?_⟩, q11, ⟨E', _, q1.1, by rw [q2.2.1]; exact e2, by rw [q2.2.1]; exact e3, by rw [q2.1]; exact obV, fun _ => by rw [hsz]; exact e5 i3⟩,
    ⟨E', cfV, kV, iV, fV, q1.1, gV, stV, by rw [q2.1]; exact knV, by rw [q2.1]; exact obV, by rw [q2.2.1]; exact asV, q3⟩, ⟨E', cfC, kC, iC, fC, q1.1, gC, stC, by rw [q2.1]; exact knV, by rw [q2.1]; exact obV, by rw [q2.2.1]; exact asC, q4⟩,
    ⟨V', ⟨q5.1, State.isArrayOf_alike al'.symm q5.2.1, q5.2.2.1⟩, q6, by rw [← al'.findClass]; exact q7, q8, fun j hj => by have := q9 j hj; rwa [Nat.zero_add] at this⟩, fun O n d w F n1 n2 => ?_⟩, hl, hc, hs⟩, st⟩
  · intro y hy
    simp only [List.mem_cons, List.not_mem_nil, or_false] at hy
    rcases hy with rfl | rfl <;> rfl
  · by_cases q : y = x
    · subst q
      cases hD.symm.trans hy
      exact ⟨E', q1.1, q2.2.1, q2.1, hsz⟩
    · exact ⟨cy, q10 y cy q hy, rfl, rfl, rfl⟩
  · obtain ⟨D3, cf, k, i, f, g1, g2, g3, g4, g5, g6, g7⟩ := F
    cases hD.symm.trans g1
    simp only [RoadKit.slotOf, g2, gV, gC, Option.map_some, Option.getD_some] at n1 n2
    exact ⟨E', cf, k, i, f, q1.1, g2, g3, by rw [q2.1]; exact g4, by rw [q2.1]; exact g5, by rw [q2.2.1]; exact g6, by rw [q2.2.2 f.slot (by simp [n1, n2])]; exact g7⟩
end StrChars.Road
namespace StrChars.Road
open Jvm Sem ClassFile Op Lib Jvm.Stand Jvm.Free Jvm.Free.XT
/-- WHAT COMES BACK, the byte[] as a list of values -/
def QA (Z : State) (x : Addr) (zn : Int32) (cs : List Int32) (h : Heap) (v : Option Value) (h' : Heap) (L : List Loc) : Prop := v = none ∧ (∀ y ∈ L, y.base = x) ∧ RoadKit.Keep h h' [x] ∧ h'.size = h.size + 1 ∧ RoadKit.Exa Z h' x ST ∧ RoadKit.Fld Z h' x ST "value" "[B" (.ref h.size) ∧ RoadKit.Fld Z h' x ST "coder" "B" (.int 0) ∧
  (∃ kb, Z.vm.findClass "[B" = some kb ∧ RoadKit.Arv Z h' h.size kb .byte zn (cs.map fun c => .int (lo8 c)) (.int 0)) ∧
  ∀ (O n d : String) (w : Value), RoadKit.Fld Z h x O n d w → RoadKit.slotOf Z O n d ≠ RoadKit.slotOf Z ST "value" "[B" → RoadKit.slotOf Z O n d ≠ RoadKit.slotOf Z ST "coder" "B" → RoadKit.Fld Z h' x O n d w
/-- **new String(chars) AT A CALL, THE ARRAYS AS LISTS**: the char[] at b holds cs, not empty, no char above 255 -/
theorem backArv {p : Program} {l : Launch} {e : Env} {R : Room} {s : State} {args : Array Value} {below : List Frame} {len W : Nat} {Z : State} {a0 : Array Value} {h : Heap} (hZ : Z.Warmed39 s.vm) (hw : ∀ d ∈ words, d.before a0 Z = true) {kI : Nat} (wi : (Jvm.Cond.instantiable ST kI).before a0 Z = true)
    {x b : Addr} {k : ClassId} {zn z : Int32} {cs : List Int32} {dv v0 c0 : Value} (E : RoadKit.Exa Z h x ST) (V : RoadKit.Fld Z h x ST "value" "[B" v0) (C : RoadKit.Fld Z h x ST "coder" "B" c0) (K : RoadKit.Arv Z h b k .char zn (cs.map Value.int) dv) (S : RoadKit.Sta Z h ST "COMPACT_STRINGS" "Z" (.int z)) (hz : ¬ z = 0)
    (hlen : zn.toNatClampNeg = cs.length) (h0 : 0 < cs.length) (hbig : cs.length ≤ 536870912) (hall : ∀ c ∈ cs, ¬ 255 < c) (hfr : 4 ≤ R.frames) (hlo : W + 65 ≤ R.locals) :
    Back l R p e below s args New1.yN len W (fun P a => a = #[.ref x, .ref b] ∧ P.U.heap = h ∧ P.cells + 1 ≤ R.cells ∧ P.slots + cs.length ≤ R.slots)
      (fun P _ v B => ∃ L, QA Z x zn cs h v B.U.heap L ∧ B.locs = P.locs ++ L ∧ B.cells = P.cells + 1 ∧ B.slots = P.slots + cs.length) := by
  obtain ⟨A, K1, K2, K3, K4, K5, K6⟩ := K
  have e : A.slots.size = cs.length := K3.trans hlen
  have hat : ∀ (i : Nat) (hi : i < cs.length), A.slots[i]? = some (.int cs[i]) := fun i hi => by rw [K5 i (by omega)]; simp [List.getD_eq_getElem?_getD, hi]
  have hcv : ∀ (i : Nat) (hi : i < cs.length), cv A i = cs[i] := fun i hi => by unfold cv; rw [hat i hi]
  have hty : Typed .char A := fun i v hv => by
    have hi : i < A.slots.size := (Array.getElem?_eq_some_iff.mp hv).1
    have q := K5 i hi
    rw [hv] at q
    rw [Option.some.inj q]
    exact K6 i hi
  refine Back.mono (back hZ hw wi E V C K1 hty S hz (by omega) (by omega) (fun i hi => by rw [hcv i (by omega)]; exact hall _ (List.getElem_mem _)) hfr hlo) (fun P a hp => ⟨hp.1, hp.2.1, hp.2.2.1, by rw [e]; exact hp.2.2.2⟩) (fun P a v B hp hq => ?_)
  obtain ⟨L, ⟨q1, q2, q3, q4, q5, q6, q7, ⟨V', v1, v2, v3, v4, v5⟩, q9⟩, hl, hc, hs⟩ := hq
  refine ⟨L, ⟨q1, q2, q3, q4, q5, q6, q7, ⟨V'.cls, v3, V', v1, rfl, by rw [v4, e, hlen], K4, fun i hi => ?_, fun i hi => ?_⟩, q9⟩, hl, hc, by rw [hs, e]⟩
  · have hi' : i < cs.length := by omega
    rw [v5 i (by omega), hcv i hi']; simp [List.getD_eq_getElem?_getD, hi']
  · have hi' : i < cs.length := by omega
    simp only [List.getD_eq_getElem?_getD, List.getElem?_map, List.getElem?_eq_getElem hi', Option.map_some, Option.getD_some]
    exact fits_lo8 _
end StrChars.Road
namespace StrChars.Road
open Jvm Sem ClassFile Op Lib Jvm.Stand Jvm.Free Jvm.Free.XT
/-- WHAT COMES BACK, in the writer's own shape -/
def QV (Z : State) (x : Addr) (N : Int32) (bs : List Int32) (h : Heap) (n0 : Nat) (v : Option Value) (h' : Heap) (L : List Loc) : Prop := v = none ∧ RoadKit.Fr n0 L ∧ RoadKit.Keep h h' [x] ∧ RoadKit.Exa Z h' x ST ∧ RoadKit.Fld Z h' x ST "coder" "B" (.int 0) ∧
  ∃ (t : Addr) (kb : ClassId), n0 ≤ t ∧ h.size ≤ t ∧ ¬ t = x ∧ RoadKit.Fld Z h' x ST "value" "[B" (.ref t) ∧ RoadKit.Arv Z h' t kb .byte N (bs.map Value.int) (.int 0)
/-- **new String(chars) AT A CALL, FOR THE WRITER**: a char[] of n known ints, each 0 to 255 -/
theorem backV {p : Program} {l : Launch} {e : Env} {R : Room} {s : State} {args : Array Value} {below : List Frame} {len W : Nat} {Z : State} {a0 : Array Value} {h : Heap} (hZ : Z.Warmed39 s.vm) (hw : ∀ d ∈ words, d.before a0 Z = true) {kI : Nat} (wi : (Jvm.Cond.instantiable ST kI).before a0 Z = true)
    {x b : Addr} {kC : ClassId} {cs bs : List Int32} {d v0 c0 : Value} {z N : Int32} {n n0 : Nat} (hx0 : n0 ≤ x) (hh0 : n0 ≤ h.size) (E : RoadKit.Exa Z h x ST) (V : RoadKit.Fld Z h x ST "value" "[B" v0) (C : RoadKit.Fld Z h x ST "coder" "B" c0) (K : RoadKit.Arv Z h b kC .char N (cs.map Value.int) d) (S : RoadKit.Sta Z h ST "COMPACT_STRINGS" "Z" (.int z)) (hz : ¬ z = 0)
    (hn : cs.length = n) (hN : N = Int32.ofNat n) (l0 : 0 < n) (l2 : n ≤ 4000) (hp : ∀ c ∈ cs, ¬ c < 0 ∧ ¬ (255 : Int32) < c) (hb : bs = cs.map (fun c => c.toInt8.toInt32)) (hfr : 4 ≤ R.frames) (hlo : W + 65 ≤ R.locals) :
    Back l R p e below s args (⟨"java/lang/String", "<init>", "([C)V"⟩ : MethodName) len W (fun P a => a = #[.ref x, .ref b] ∧ P.U.heap = h ∧ P.cells + 1 ≤ R.cells ∧ P.slots + n ≤ R.slots)
      (fun P _ v B => ∃ L, QV Z x N bs h n0 v B.U.heap L ∧ B.locs = P.locs ++ L ∧ B.cells = P.cells + 1 ∧ B.slots = P.slots + n) := by
  subst hn hN hb
  refine Back.mono (backArv hZ hw wi E V C K S hz (n32 (by omega)) l0 (by omega) (fun c hc => (hp c hc).2) hfr hlo) (fun P a hp => hp) (fun P a v B hp hq => ?_)
  obtain ⟨L, ⟨q1, q2, q3, q4, q5, q6, q7, ⟨kb, v1, v2⟩, q9⟩, hl, hc, hs⟩ := hq
  exact ⟨L, ⟨q1, fun y hy => by rw [q2 y hy]; exact hx0, q3, q5, q7, h.size, kb, hh0, Nat.le_refl _, Nat.ne_of_gt E.lt, q6, by rw [List.map_map]; exact v2⟩, hl, hc, hs⟩
end StrChars.Road
end Jvm.Pilot.@@N@@
namespace Jvm.Pilot.@@N@@
open Jvm Jvm.ClassFile Sem Op Lib Jvm.Free Jvm.Stand Jvm.LawKit Jvm.RoadKit Bundle Jvm.Pilot.@@N@@.Jvm.D

section OwnEnds
variable {p : Program} {l : Launch} {e : Env} {R : Room} {s : State} {m : MethodId} {args : Array Value} {below : List Frame} {meth : Method} {c : Code} {T : State} {locs : List Loc} {cells slots : Nat}
/-- from here the body comes to its end, returns, and leaves what Q says -/
def Ends (p : Program) (e : Env) (below : List Frame) (s T : State) (g : JFrame) (kc ks : Nat) (Q : Option Value → Heap → List Loc → Prop) : Prop :=
  ∃ s₂ o, Steps p.tables e below (T.setTop g) s₂ ∧ s₂.status = .running ∧ Ended s₂ below o ∧ ∃ v L, o = .returned v ∧ Q v s₂.heap L ∧ FrameEnd s o s₂ L kc ks
theorem Ends.go {T' : State} {g g' : JFrame} {kc ks : Nat} {Q : Option Value → Heap → List Loc → Prop} (h : ∀ target, Steps p.tables e below (T'.setTop g') target → Steps p.tables e below (T.setTop g) target) (k : Ends p e below s T' g' kc ks Q) : Ends p e below s T g kc ks Q := by
  obtain ⟨s₂, o, h1, h2⟩ := k
  exact ⟨s₂, o, h _ h1, h2⟩
theorem Ends.ret (X : Stand p l e R s m args below meth c T locs cells slots) (hx : p.tables.exec = Jvm.exec) (hlocks : meth.locks = false) {pc : Nat} {Ls : Array Slot} {w : Value} {t : FieldType} {i : Instr} {rest : List Value} (hret : meth.sig.returnType = some t) (hn : narrow t w = w)
    (hi : (i = .ireturn ∧ (t = .int ∨ t = .boolean ∨ t = .byte ∨ t = .char ∨ t = .short) ∧ ∃ z, w = .int z) ∨ (i = .lreturn ∧ t = .long ∧ ∃ z, w = .long z) ∨ (i = .dreturn ∧ t = .double ∧ ∃ z, w = .double z) ∨ (i = .freturn ∧ t = .float ∧ ∃ z, w = .float z) ∨ (i = .areturn ∧ t.isReference = true ∧ w.isRef = true))
    (hd : decode c.code pc = .ok (i, 1)) {kc ks : Nat} {Q : Option Value → Heap → List Loc → Prop} (hc : cells ≤ kc) (hs : slots ≤ ks) (hq : Q (some w) T.heap locs) : Ends p e below s T (mkF m pc Ls (w :: rest)) kc ks Q := by
  obtain ⟨fs, hr, hrun, hended, hW, hsame⟩ := X.leave (v := some w) (fun h => by rw [hret] at h; cases h) hlocks
  exact ⟨_, _, retOut X hx hret hn hi hd hr, hrun, hended, _, _, rfl, hq, ⟨_, rfl⟩, hW, hsame.mono hc hs⟩
theorem Ends.retZ (X : Stand p l e R s m args below meth c T locs cells slots) (hx : p.tables.exec = Jvm.exec) (hlocks : meth.locks = false) {pc : Nat} {Ls : Array Slot} {z : Int32} {t : FieldType} {rest : List Value} (hret : meth.sig.returnType = some t) (ht : t = .boolean ∨ t = .byte ∨ t = .char ∨ t = .short)
    (hd : decode c.code pc = .ok (.ireturn, 1)) {kc ks : Nat} {Q : Option Value → Heap → List Loc → Prop} (hc : cells ≤ kc) (hs : slots ≤ ks) (hq : Q (some (.int (nar t z))) T.heap locs) : Ends p e below s T (mkF m pc Ls (.int z :: rest)) kc ks Q := by
  obtain ⟨fs, hr, hrun, hended, hW, hsame⟩ := X.leave (v := some (.int (nar t z))) (fun h => by rw [hret] at h; cases h) hlocks
  exact ⟨_, _, retN X hx hret ht hd hr, hrun, hended, _, _, rfl, hq, ⟨_, rfl⟩, hW, hsame.mono hc hs⟩
theorem Ends.retV (X : Stand p l e R s m args below meth c T locs cells slots) (hx : p.tables.exec = Jvm.exec) (hlocks : meth.locks = false) {pc : Nat} {Ls : Array Slot} (hret : meth.sig.returnType = none)
    (hd : decode c.code pc = .ok (.return_, 1)) {kc ks : Nat} {Q : Option Value → Heap → List Loc → Prop} (hc : cells ≤ kc) (hs : slots ≤ ks) (hq : Q none T.heap locs) : Ends p e below s T (mkF m pc Ls []) kc ks Q := by
  obtain ⟨fs, hr, hrun, hended, hW, hsame⟩ := X.leave (v := none) (fun _ => rfl) hlocks
  exact ⟨_, _, X.returnOut hx hret hd hr, hrun, hended, _, _, rfl, hq, ⟨_, rfl⟩, hW, hsame.mono hc hs⟩
end OwnEnds
abbrev Meets1 (l : Launch) (y : MethodName) (bytes : ByteArray) (ml : Nat) (rt : Option FieldType) (ws : List Jvm.Cond) (rm : Room) (av : Array Value) (Z : State) (h0 : Heap) (Q : Option Value → Heap → List Loc → Prop) : Prop :=
  MetFree l y (head1 (Jvm.Cond.code y bytes ml rt :: ws) rm) (fun a U => a = av ∧ Z.Warmed39 U.vm ∧ U.heap = h0) (fun _ _ _ _ _ => True) (fun _ U o U' => ∃ v L, o = .returned v ∧ Q v U'.heap L ∧ FrameEnd U o U' L rm.cells rm.slots)
theorem own_backOf {p : Program} {l : Launch} {e : Env} {R : Room} {s : State} {args : Array Value} {below : List Frame} {Z : State} {a0 : Array Value} {h : Heap} {y : MethodName} {bytes : ByteArray} {maxL : Nat} {ret : Option FieldType} {rm : Room} {len W : Nat} {as' : Array Value} {Q : Option Value → Heap → List Loc → Prop}
    (hM : Meets1 l y bytes maxL ret [] rm as' Z h Q) (hZ : Z.Warmed39 s.vm) (wc : (Jvm.Cond.code y bytes maxL ret).before a0 Z = true) (wz : (Jvm.Cond.initialized y.cls).before a0 Z = true) (hf : rm.frames + 1 ≤ R.frames) (hl : W + (maxL + 11) + rm.locals ≤ R.locals) :
    Back l R p e below s args y len W (fun A a => a = as' ∧ A.U.heap = h ∧ A.cells + rm.cells ≤ R.cells ∧ A.slots + rm.slots ≤ R.slots)
      (fun A _ v B => ∃ L, Q v B.U.heap L ∧ B.locs = A.locs ++ L ∧ B.cells = A.cells + rm.cells ∧ B.slots = A.slots + rm.slots) := backOf (Q := Q) hM hZ wc wz hf hl
theorem own_old_le {Z : State} {n0 : Nat} {h : Heap} (O : Old Z n0 h) : n0 ≤ h.size := O.1 ▸ O.2.1
theorem own_eqI {args : Array Value} {s : State} {t : Term} {k : Int32} (h : (Jvm.Cond.eq t (.int k)).value args s none s [] = some true) : t.eval args s none [] s = some (.int k) := by
  cases ht : t.eval args s none [] s with
  | none => simp [Cond.value, ht] at h
  | some x => cases x <;> simp_all [Cond.value, Term.eval]
theorem own_nar {r : Int32} (h : ¬ r < 0 ∧ ¬ (255 : Int32) < r) : ¬ nar .char r < 0 ∧ ¬ (255 : Int32) < nar .char r := by
  have a1 : ¬ r.toInt < 0 := fun q => h.1 (Int32.lt_iff_toInt_lt.mpr q)
  have a2 : ¬ 255 < r.toInt := fun q => h.2 (Int32.lt_iff_toInt_lt.mpr q)
  have a3 := c_i2c r
  have e : nar .char r = r := Int32.toInt_inj.mp (by show r.toUInt32.toUInt16.toUInt32.toInt32.toInt = r.toInt; omega)
  rw [e]; exact h
theorem own_letter (p0 : Int32) : ¬ nar .char (((97 : Int32) + ((p0 &&& (2147483647 : Int32)) % (26 : Int32))).toUInt32.toUInt16.toUInt32.toInt32) < 0 ∧ ¬ (255 : Int32) < nar .char (((97 : Int32) + ((p0 &&& (2147483647 : Int32)) % (26 : Int32))).toUInt32.toUInt16.toUInt32.toInt32) := by
  apply own_nar
  have h1 := c_and p0 2147483647 (by decide)
  have h2 := (c_irem (p0 &&& 2147483647) 26 26 (by decide)).1 h1.1
  have h3 := c_iadd 97 ((p0 &&& (2147483647 : Int32)) % (26 : Int32))
  have h4 := rng32 ((97 : Int32) + ((p0 &&& (2147483647 : Int32)) % (26 : Int32)))
  have h5 := c_i2c ((97 : Int32) + ((p0 &&& (2147483647 : Int32)) % (26 : Int32)))
  have h6 : (97 : Int32).toInt = 97 := by decide
  rw [h6] at h3
  generalize ((97 : Int32) + ((p0 &&& (2147483647 : Int32)) % (26 : Int32))) = w at *
  generalize w.toUInt32.toUInt16.toUInt32.toInt32 = u at *
  constructor
  · intro q
    have q' : u.toInt < 0 := Int32.lt_iff_toInt_lt.mp q
    omega
  · intro q
    have q' : 255 < u.toInt := Int32.lt_iff_toInt_lt.mp q
    omega
theorem d1_0 : decode method_3_code 0 = .ok (.bipush 97, 2) := by decide +kernel
theorem d1_2 : decode method_3_code 2 = .ok (.iload_n 0, 1) := by decide +kernel
theorem d1_3 : decode method_3_code 3 = .ok (.ldc 27, 2) := by decide +kernel
theorem d1_5 : decode method_3_code 5 = .ok (.iand, 1) := by decide +kernel
theorem d1_6 : decode method_3_code 6 = .ok (.bipush 26, 2) := by decide +kernel
theorem d1_8 : decode method_3_code 8 = .ok (.irem, 1) := by decide +kernel
theorem d1_9 : decode method_3_code 9 = .ok (.iadd, 1) := by decide +kernel
theorem d1_10 : decode method_3_code 10 = .ok (.i2c, 1) := by decide +kernel
theorem d1_11 : decode method_3_code 11 = .ok (.ireturn, 1) := by decide +kernel
theorem pn1 : plainName "com/example/authority/authority/UriReferenceIsUriPinLaw" = true := by first | (simp [plainName, overriddenIn]; done) | decide +kernel
theorem ef1 (m : MethodId) (p0 : Int32) : entryFrame m #[(.int p0)] 1 = mkF m 0 #[.val (.int p0)] [] := by first | (simp [entryFrame, mkF, argsToLocals, Value.category]; done) | rfl
set_option maxRecDepth 65536 in
set_option maxHeartbeats 40000000 in
theorem rmL (l : Launch) (Z : State) (a0 : Array Value) (hw : ∀ d ∈ tables_1, d.before a0 Z = true) (ws : List Jvm.Cond) (n0 : Nat) (h0 : Heap) (O0 : Old Z n0 h0) (p0 : Int32)  :
    Meets1 l (⟨"com/example/authority/authority/UriReferenceIsUriPinLaw", "letter", "(I)C"⟩ : MethodName) method_3_code 1 (some .char) ws ({ frames := 0, cells := 0, slots := 0, locals := 0 } : Room) #[(.int p0)] Z h0 (fun v h L => ∃ r : Int32, v = some (.int r) ∧ Fr n0 L ∧ h = h0 ∧ ¬ r < 0 ∧ ¬ (255 : Int32) < r) := by
  refine MetFree.of_bodySF (plainFor_of_name pn1) hisR ?_
  intro p e s m args below meth c s₁ Bd hml0 hP hK
  obtain ⟨rfl, hZ, hh⟩ := hP
  have hx := Bd.exec
  have hby := Bd.bytes
  have hml : c.maxLocals = 1 := hml0
  have hown : s.vm.findClass "com/example/authority/authority/UriReferenceIsUriPinLaw" = some m.cls := findClass_of_methodNamed Bd.named
  have hnm := (name_of_methodNamed Bd.named Bd.method).1
  have X0 : Stand p l e ({ frames := 0, cells := 0, slots := 0, locals := 0 } : Room) s m #[(.int p0)] below meth c s₁ [] 0 0 := Stand.of_body Bd
  have e0 : s₁.heap = h0 := by rw [← hh, Bd.state]; rfl
  have N0 := Fr.nil n0
  have Z0 := own_old_le O0
  show Ends p e below s s₁ (entryFrame m #[(.int p0)] 1) ({ frames := 0, cells := 0, slots := 0, locals := 0 } : Room).cells ({ frames := 0, cells := 0, slots := 0, locals := 0 } : Room).slots (fun v h L => ∃ r : Int32, v = some (.int r) ∧ Fr n0 L ∧ h = h0 ∧ ¬ r < 0 ∧ ¬ (255 : Int32) < r)
  refine Ends.go (fun _ k => castTop (ef1 m p0) k) ?_
  have K0 := Keep.refl h0 []
  show Ends p e below s s₁ (mkF m 0 #[.val (.int p0)] []) _ _ _
  refine Ends.go (fun _ k => XS.bipush X0.here hx rfl (hb hby d1_0) k) ?_
  show Ends p e below s s₁ (mkF m 2 #[.val (.int p0)] [(.int (97 : Int32))]) _ _ _
  refine Ends.go (fun _ k => XS.iloadN X0.here hx rfl (hb hby d1_2) rfl k) ?_
  show Ends p e below s s₁ (mkF m 3 #[.val (.int p0)] [(.int p0), (.int (97 : Int32))]) _ _ _
  refine Ends.go (X0.ldcInt hx hown (mvT hZ (hw _ (List.mem_of_getElem? (i := 4) rfl))) (g := (mkF m 3 #[.val (.int p0)] [(.int p0), (.int (97 : Int32))])) rfl (hb hby d1_3)) ?_
  show Ends p e below s s₁ (mkF m 5 #[.val (.int p0)] [(.int (2147483647 : Int32)), (.int p0), (.int (97 : Int32))]) _ _ _
  refine Ends.go (fun _ k => XS.iand X0.here hx rfl (hb hby d1_5) rfl k) ?_
  show Ends p e below s s₁ (mkF m 6 #[.val (.int p0)] [(.int (p0 &&& (2147483647 : Int32))), (.int (97 : Int32))]) _ _ _
  refine Ends.go (fun _ k => XS.bipush X0.here hx rfl (hb hby d1_6) k) ?_
  show Ends p e below s s₁ (mkF m 8 #[.val (.int p0)] [(.int (26 : Int32)), (.int (p0 &&& (2147483647 : Int32))), (.int (97 : Int32))]) _ _ _
  refine Ends.go (fun _ k => iremM X0 hx rfl (hb hby d1_8) rfl (by decide) k) ?_
  show Ends p e below s s₁ (mkF m 9 #[.val (.int p0)] [(.int ((p0 &&& (2147483647 : Int32)) % (26 : Int32))), (.int (97 : Int32))]) _ _ _
  refine Ends.go (fun _ k => XS.iadd X0.here hx rfl (hb hby d1_9) rfl k) ?_
  show Ends p e below s s₁ (mkF m 10 #[.val (.int p0)] [(.int ((97 : Int32) + ((p0 &&& (2147483647 : Int32)) % (26 : Int32))))]) _ _ _
  refine Ends.go (fun _ k => XS.i2c X0.here hx rfl (hb hby d1_10) rfl k) ?_
  show Ends p e below s s₁ (mkF m 11 #[.val (.int p0)] [(.int (((97 : Int32) + ((p0 &&& (2147483647 : Int32)) % (26 : Int32))).toUInt32.toUInt16.toUInt32.toInt32))]) _ _ _
  refine Ends.retZ X0 hx Bd.notSynchronized (t := .char) Bd.returns (by simp) (hb hby d1_11) (by decide) (by decide) ?_
  exact ⟨_, rfl, N0, e0, own_letter p0⟩
theorem d8_0 : decode prog_7_method_1_code 0 = .ok (.aload_n 0, 1) := by decide +kernel
theorem d8_1 : decode prog_7_method_1_code 1 = .ok (.invokespecial 1, 3) := by decide +kernel
theorem d8_4 : decode prog_7_method_1_code 4 = .ok (.aload_n 0, 1) := by decide +kernel
theorem d8_5 : decode prog_7_method_1_code 5 = .ok (.aload_n 1, 1) := by decide +kernel
theorem d8_6 : decode prog_7_method_1_code 6 = .ok (.putfield 7, 3) := by decide +kernel
theorem d8_9 : decode prog_7_method_1_code 9 = .ok (.aload_n 0, 1) := by decide +kernel
theorem d8_10 : decode prog_7_method_1_code 10 = .ok (.iload_n 2, 1) := by decide +kernel
theorem d8_11 : decode prog_7_method_1_code 11 = .ok (.putfield 13, 3) := by decide +kernel
theorem d8_14 : decode prog_7_method_1_code 14 = .ok (.aload_n 0, 1) := by decide +kernel
theorem d8_15 : decode prog_7_method_1_code 15 = .ok (.iload_n 3, 1) := by decide +kernel
theorem d8_16 : decode prog_7_method_1_code 16 = .ok (.putfield 17, 3) := by decide +kernel
theorem d8_19 : decode prog_7_method_1_code 19 = .ok (.aload_n 0, 1) := by decide +kernel
theorem d8_20 : decode prog_7_method_1_code 20 = .ok (.iload 4, 2) := by decide +kernel
theorem d8_22 : decode prog_7_method_1_code 22 = .ok (.putfield 20, 3) := by decide +kernel
theorem d8_25 : decode prog_7_method_1_code 25 = .ok (.aload_n 0, 1) := by decide +kernel
theorem d8_26 : decode prog_7_method_1_code 26 = .ok (.iload 5, 2) := by decide +kernel
theorem d8_28 : decode prog_7_method_1_code 28 = .ok (.putfield 23, 3) := by decide +kernel
theorem d8_31 : decode prog_7_method_1_code 31 = .ok (.aload_n 0, 1) := by decide +kernel
theorem d8_32 : decode prog_7_method_1_code 32 = .ok (.iload 6, 2) := by decide +kernel
theorem d8_34 : decode prog_7_method_1_code 34 = .ok (.putfield 26, 3) := by decide +kernel
theorem d8_37 : decode prog_7_method_1_code 37 = .ok (.aload_n 0, 1) := by decide +kernel
theorem d8_38 : decode prog_7_method_1_code 38 = .ok (.iload 7, 2) := by decide +kernel
theorem d8_40 : decode prog_7_method_1_code 40 = .ok (.putfield 29, 3) := by decide +kernel
theorem d8_43 : decode prog_7_method_1_code 43 = .ok (.return_, 1) := by decide +kernel
theorem pn8 : plainName "com/example/authority/authority/UriReference" = true := by first | (simp [plainName, overriddenIn]; done) | decide +kernel
theorem ef8 (m : MethodId) (o0 : Addr) (o1 : Addr) (p2 : Int32) (p3 : Int32) (p4 : Int32) (p5 : Int32) (p6 : Int32) (p7 : Int32) : entryFrame m #[(.ref o0), (.ref o1), (.int p2), (.int p3), (.int p4), (.int p5), (.int p6), (.int p7)] 8 = mkF m 0 #[.val (.ref o0), .val (.ref o1), .val (.int p2), .val (.int p3), .val (.int p4), .val (.int p5), .val (.int p6), .val (.int p7)] [] := by first | (simp [entryFrame, mkF, argsToLocals, Value.category]; done) | rfl
set_option maxRecDepth 65536 in
set_option maxHeartbeats 40000000 in
theorem rmI (l : Launch) (Z : State) (a0 : Array Value) (hw : ∀ d ∈ tables_1, d.before a0 Z = true) (ws : List Jvm.Cond) (n0 : Nat) (h0 : Heap) (O0 : Old Z n0 h0) (o0 : Addr) (o1 : Addr) (p2 : Int32) (p3 : Int32) (p4 : Int32) (p5 : Int32) (p6 : Int32) (p7 : Int32) (g_o0 : n0 ≤ o0) (Ex0 : Exa Z h0 o0 "com/example/authority/authority/UriReference") (F0_mText : Fld Z h0 o0 "com/example/authority/authority/UriReference" "mText" "Ljava/lang/String;" .null) (F0_mSchemeEnd : Fld Z h0 o0 "com/example/authority/authority/UriReference" "mSchemeEnd" "I" (.int (0 : Int32))) (F0_mHostStart : Fld Z h0 o0 "com/example/authority/authority/UriReference" "mHostStart" "I" (.int (0 : Int32))) (F0_mHostEnd : Fld Z h0 o0 "com/example/authority/authority/UriReference" "mHostEnd" "I" (.int (0 : Int32))) (F0_mPathStart : Fld Z h0 o0 "com/example/authority/authority/UriReference" "mPathStart" "I" (.int (0 : Int32))) (F0_mPathEnd : Fld Z h0 o0 "com/example/authority/authority/UriReference" "mPathEnd" "I" (.int (0 : Int32))) (F0_mQueryEnd : Fld Z h0 o0 "com/example/authority/authority/UriReference" "mQueryEnd" "I" (.int (0 : Int32))) :
    Meets1 l (⟨"com/example/authority/authority/UriReference", "<init>", "(Ljava/lang/String;IIIIII)V"⟩ : MethodName) prog_7_method_1_code 8 none ws ({ frames := 1, cells := 0, slots := 0, locals := 12 } : Room) #[(.ref o0), (.ref o1), (.int p2), (.int p3), (.int p4), (.int p5), (.int p6), (.int p7)] Z h0 (fun v h L => v = none ∧ Fr n0 L ∧ Keep h0 h [o0] ∧ Exa Z h o0 "com/example/authority/authority/UriReference" ∧ Fld Z h o0 "com/example/authority/authority/UriReference" "mText" "Ljava/lang/String;" (.ref o1) ∧ Fld Z h o0 "com/example/authority/authority/UriReference" "mSchemeEnd" "I" (.int p2) ∧ Fld Z h o0 "com/example/authority/authority/UriReference" "mHostStart" "I" (.int p3) ∧ Fld Z h o0 "com/example/authority/authority/UriReference" "mHostEnd" "I" (.int p4) ∧ Fld Z h o0 "com/example/authority/authority/UriReference" "mPathStart" "I" (.int p5) ∧ Fld Z h o0 "com/example/authority/authority/UriReference" "mPathEnd" "I" (.int p6) ∧ Fld Z h o0 "com/example/authority/authority/UriReference" "mQueryEnd" "I" (.int p7)) := by
  refine MetFree.of_bodySF (plainFor_of_name pn8) hisR ?_
  intro p e s m args below meth c s₁ Bd hml0 hP hK
  obtain ⟨rfl, hZ, hh⟩ := hP
  have hx := Bd.exec
  have hby := Bd.bytes
  have hml : c.maxLocals = 8 := hml0
  have hown : s.vm.findClass "com/example/authority/authority/UriReference" = some m.cls := findClass_of_methodNamed Bd.named
  have hnm := (name_of_methodNamed Bd.named Bd.method).1
  have X0 : Stand p l e ({ frames := 1, cells := 0, slots := 0, locals := 12 } : Room) s m #[(.ref o0), (.ref o1), (.int p2), (.int p3), (.int p4), (.int p5), (.int p6), (.int p7)] below meth c s₁ [] 0 0 := Stand.of_body Bd
  have e0 : s₁.heap = h0 := by rw [← hh, Bd.state]; rfl
  have N0 := Fr.nil n0
  have Z0 := own_old_le O0
  show Ends p e below s s₁ (entryFrame m #[(.ref o0), (.ref o1), (.int p2), (.int p3), (.int p4), (.int p5), (.int p6), (.int p7)] 8) ({ frames := 1, cells := 0, slots := 0, locals := 12 } : Room).cells ({ frames := 1, cells := 0, slots := 0, locals := 12 } : Room).slots (fun v h L => v = none ∧ Fr n0 L ∧ Keep h0 h [o0] ∧ Exa Z h o0 "com/example/authority/authority/UriReference" ∧ Fld Z h o0 "com/example/authority/authority/UriReference" "mText" "Ljava/lang/String;" (.ref o1) ∧ Fld Z h o0 "com/example/authority/authority/UriReference" "mSchemeEnd" "I" (.int p2) ∧ Fld Z h o0 "com/example/authority/authority/UriReference" "mHostStart" "I" (.int p3) ∧ Fld Z h o0 "com/example/authority/authority/UriReference" "mHostEnd" "I" (.int p4) ∧ Fld Z h o0 "com/example/authority/authority/UriReference" "mPathStart" "I" (.int p5) ∧ Fld Z h o0 "com/example/authority/authority/UriReference" "mPathEnd" "I" (.int p6) ∧ Fld Z h o0 "com/example/authority/authority/UriReference" "mQueryEnd" "I" (.int p7))
  refine Ends.go (fun _ k => castTop (ef8 m o0 o1 p2 p3 p4 p5 p6 p7) k) ?_
  have K0 := Keep.refl h0 [o0]
  show Ends p e below s s₁ (mkF m 0 #[.val (.ref o0), .val (.ref o1), .val (.int p2), .val (.int p3), .val (.int p4), .val (.int p5), .val (.int p6), .val (.int p7)] []) _ _ _
  refine Ends.go (fun _ k => XS.aloadN X0.here hx rfl (hb hby d8_0) rfl rfl k) ?_
  show Ends p e below s s₁ (mkF m 1 #[.val (.ref o0), .val (.ref o1), .val (.int p2), .val (.int p3), .val (.int p4), .val (.int p5), .val (.int p6), .val (.int p7)] [(.ref o0)]) _ _ _
  obtain ⟨T1, X1, e1, st1⟩ := initO X0 hx hZ hown (hw _ (List.mem_of_getElem? (i := 41) rfl)) (hw _ (List.mem_of_getElem? (i := 20) rfl)) (hw _ (List.mem_of_getElem? (i := 21) rfl)) e0 (g := (mkF m 1 #[.val (.ref o0), .val (.ref o1), .val (.int p2), .val (.int p3), .val (.int p4), .val (.int p5), .val (.int p6), .val (.int p7)] [(.ref o0)])) rfl (by rw [hml]; rfl) rfl (hb hby d8_1) (by decide) (W := 0) (by show 2 * 0 + _ ≤ _; exact Nat.le_of_eq rfl) (by decide)
  refine Ends.go st1 ?_
  show Ends p e below s T1 (mkF m 4 #[.val (.ref o0), .val (.ref o1), .val (.int p2), .val (.int p3), .val (.int p4), .val (.int p5), .val (.int p6), .val (.int p7)] []) _ _ _
  refine Ends.go (fun _ k => XS.aloadN X1.here hx rfl (hb hby d8_4) rfl rfl k) ?_
  show Ends p e below s T1 (mkF m 5 #[.val (.ref o0), .val (.ref o1), .val (.int p2), .val (.int p3), .val (.int p4), .val (.int p5), .val (.int p6), .val (.int p7)] [(.ref o0)]) _ _ _
  refine Ends.go (fun _ k => XS.aloadN X1.here hx rfl (hb hby d8_5) rfl rfl k) ?_
  show Ends p e below s T1 (mkF m 6 #[.val (.ref o0), .val (.ref o1), .val (.int p2), .val (.int p3), .val (.int p4), .val (.int p5), .val (.int p6), .val (.int p7)] [(.ref o1), (.ref o0)]) _ _ _
  obtain ⟨T2, h2, X2, e2, W2, st2⟩ := putF X1 hx hZ hown (host := "") (Or.inl (hw _ (List.mem_of_getElem? (i := 42) rfl))) Via.refl e1 F0_mText Ex0 (Or.inr ⟨(hw _ (List.mem_of_getElem? (i := 43) rfl)), rfl, hnm⟩) (hw _ (List.mem_of_getElem? (i := 7) rfl)) (ty := (.object "java/lang/String")) (by decide) rfl rfl (g := (mkF m 6 #[.val (.ref o0), .val (.ref o1), .val (.int p2), .val (.int p3), .val (.int p4), .val (.int p5), .val (.int p6), .val (.int p7)] [(.ref o1), (.ref o0)])) rfl rfl (hb hby d8_6)
  refine Ends.go st2 ?_
  have Fw2 := F0_mText.same W2
  have K2 := K0.wr W2 (Or.inl (List.mem_of_getElem? (i := 0) rfl))
  have O2 := O0.wr W2 g_o0
  have N2 := Fr.snoc X2 N0 g_o0
  show Ends p e below s T2 (mkF m 9 #[.val (.ref o0), .val (.ref o1), .val (.int p2), .val (.int p3), .val (.int p4), .val (.int p5), .val (.int p6), .val (.int p7)] []) _ _ _
  refine Ends.go (fun _ k => XS.aloadN X2.here hx rfl (hb hby d8_9) rfl rfl k) ?_
  show Ends p e below s T2 (mkF m 10 #[.val (.ref o0), .val (.ref o1), .val (.int p2), .val (.int p3), .val (.int p4), .val (.int p5), .val (.int p6), .val (.int p7)] [(.ref o0)]) _ _ _
  refine Ends.go (fun _ k => XS.iloadN X2.here hx rfl (hb hby d8_10) rfl k) ?_
  show Ends p e below s T2 (mkF m 11 #[.val (.ref o0), .val (.ref o1), .val (.int p2), .val (.int p3), .val (.int p4), .val (.int p5), .val (.int p6), .val (.int p7)] [(.int p2), (.ref o0)]) _ _ _
  obtain ⟨T3, h3, X3, e3, W3, st3⟩ := putF X2 hx hZ hown (host := "") (Or.inl (hw _ (List.mem_of_getElem? (i := 44) rfl))) Via.refl e2 (F0_mSchemeEnd.other W2 (Or.inr (slot_ne (Or.inr (hw _ (List.mem_of_getElem? (i := 45) rfl))) (Or.inr (hw _ (List.mem_of_getElem? (i := 43) rfl))) (by decide) (t := .int) (t' := (.object "java/lang/String")) (by decide) (by decide)))) (Ex0.wr W2) (Or.inr ⟨(hw _ (List.mem_of_getElem? (i := 45) rfl)), rfl, hnm⟩) (hw _ (List.mem_of_getElem? (i := 7) rfl)) (ty := .int) (by decide) rfl rfl (g := (mkF m 11 #[.val (.ref o0), .val (.ref o1), .val (.int p2), .val (.int p3), .val (.int p4), .val (.int p5), .val (.int p6), .val (.int p7)] [(.int p2), (.ref o0)])) rfl rfl (hb hby d8_11)
  refine Ends.go st3 ?_
  have Fw3 := (F0_mSchemeEnd.other W2 (Or.inr (slot_ne (Or.inr (hw _ (List.mem_of_getElem? (i := 45) rfl))) (Or.inr (hw _ (List.mem_of_getElem? (i := 43) rfl))) (by decide) (t := .int) (t' := (.object "java/lang/String")) (by decide) (by decide)))).same W3
  have K3 := K2.wr W3 (Or.inl (List.mem_of_getElem? (i := 0) rfl))
  have O3 := O2.wr W3 g_o0
  have N3 := Fr.snoc X3 N2 g_o0
  show Ends p e below s T3 (mkF m 14 #[.val (.ref o0), .val (.ref o1), .val (.int p2), .val (.int p3), .val (.int p4), .val (.int p5), .val (.int p6), .val (.int p7)] []) _ _ _
  refine Ends.go (fun _ k => XS.aloadN X3.here hx rfl (hb hby d8_14) rfl rfl k) ?_
  show Ends p e below s T3 (mkF m 15 #[.val (.ref o0), .val (.ref o1), .val (.int p2), .val (.int p3), .val (.int p4), .val (.int p5), .val (.int p6), .val (.int p7)] [(.ref o0)]) _ _ _
  refine Ends.go (fun _ k => XS.iloadN X3.here hx rfl (hb hby d8_15) rfl k) ?_
  show Ends p e below s T3 (mkF m 16 #[.val (.ref o0), .val (.ref o1), .val (.int p2), .val (.int p3), .val (.int p4), .val (.int p5), .val (.int p6), .val (.int p7)] [(.int p3), (.ref o0)]) _ _ _
  obtain ⟨T4, h4, X4, e4, W4, st4⟩ := putF X3 hx hZ hown (host := "") (Or.inl (hw _ (List.mem_of_getElem? (i := 46) rfl))) Via.refl e3 ((F0_mHostStart.other W2 (Or.inr (slot_ne (Or.inr (hw _ (List.mem_of_getElem? (i := 47) rfl))) (Or.inr (hw _ (List.mem_of_getElem? (i := 43) rfl))) (by decide) (t := .int) (t' := (.object "java/lang/String")) (by decide) (by decide)))).other W3 (Or.inr (slot_ne (Or.inr (hw _ (List.mem_of_getElem? (i := 47) rfl))) (Or.inr (hw _ (List.mem_of_getElem? (i := 45) rfl))) (by decide) (t := .int) (t' := .int) (by decide) (by decide)))) ((Ex0.wr W2).wr W3) (Or.inr ⟨(hw _ (List.mem_of_getElem? (i := 47) rfl)), rfl, hnm⟩) (hw _ (List.mem_of_getElem? (i := 7) rfl)) (ty := .int) (by decide) rfl rfl (g := (mkF m 16 #[.val (.ref o0), .val (.ref o1), .val (.int p2), .val (.int p3), .val (.int p4), .val (.int p5), .val (.int p6), .val (.int p7)] [(.int p3), (.ref o0)])) rfl rfl (hb hby d8_16)
  refine Ends.go st4 ?_
  have Fw4 := ((F0_mHostStart.other W2 (Or.inr (slot_ne (Or.inr (hw _ (List.mem_of_getElem? (i := 47) rfl))) (Or.inr (hw _ (List.mem_of_getElem? (i := 43) rfl))) (by decide) (t := .int) (t' := (.object "java/lang/String")) (by decide) (by decide)))).other W3 (Or.inr (slot_ne (Or.inr (hw _ (List.mem_of_getElem? (i := 47) rfl))) (Or.inr (hw _ (List.mem_of_getElem? (i := 45) rfl))) (by decide) (t := .int) (t' := .int) (by decide) (by decide)))).same W4
  have K4 := K3.wr W4 (Or.inl (List.mem_of_getElem? (i := 0) rfl))
  have O4 := O3.wr W4 g_o0
  have N4 := Fr.snoc X4 N3 g_o0
  show Ends p e below s T4 (mkF m 19 #[.val (.ref o0), .val (.ref o1), .val (.int p2), .val (.int p3), .val (.int p4), .val (.int p5), .val (.int p6), .val (.int p7)] []) _ _ _
  refine Ends.go (fun _ k => XS.aloadN X4.here hx rfl (hb hby d8_19) rfl rfl k) ?_
  show Ends p e below s T4 (mkF m 20 #[.val (.ref o0), .val (.ref o1), .val (.int p2), .val (.int p3), .val (.int p4), .val (.int p5), .val (.int p6), .val (.int p7)] [(.ref o0)]) _ _ _
  refine Ends.go (fun _ k => XS.iload X4.here hx rfl (hb hby d8_20) rfl k) ?_
  show Ends p e below s T4 (mkF m 22 #[.val (.ref o0), .val (.ref o1), .val (.int p2), .val (.int p3), .val (.int p4), .val (.int p5), .val (.int p6), .val (.int p7)] [(.int p4), (.ref o0)]) _ _ _
  obtain ⟨T5, h5, X5, e5, W5, st5⟩ := putF X4 hx hZ hown (host := "") (Or.inl (hw _ (List.mem_of_getElem? (i := 48) rfl))) Via.refl e4 (((F0_mHostEnd.other W2 (Or.inr (slot_ne (Or.inr (hw _ (List.mem_of_getElem? (i := 49) rfl))) (Or.inr (hw _ (List.mem_of_getElem? (i := 43) rfl))) (by decide) (t := .int) (t' := (.object "java/lang/String")) (by decide) (by decide)))).other W3 (Or.inr (slot_ne (Or.inr (hw _ (List.mem_of_getElem? (i := 49) rfl))) (Or.inr (hw _ (List.mem_of_getElem? (i := 45) rfl))) (by decide) (t := .int) (t' := .int) (by decide) (by decide)))).other W4 (Or.inr (slot_ne (Or.inr (hw _ (List.mem_of_getElem? (i := 49) rfl))) (Or.inr (hw _ (List.mem_of_getElem? (i := 47) rfl))) (by decide) (t := .int) (t' := .int) (by decide) (by decide)))) (((Ex0.wr W2).wr W3).wr W4) (Or.inr ⟨(hw _ (List.mem_of_getElem? (i := 49) rfl)), rfl, hnm⟩) (hw _ (List.mem_of_getElem? (i := 7) rfl)) (ty := .int) (by decide) rfl rfl (g := (mkF m 22 #[.val (.ref o0), .val (.ref o1), .val (.int p2), .val (.int p3), .val (.int p4), .val (.int p5), .val (.int p6), .val (.int p7)] [(.int p4), (.ref o0)])) rfl rfl (hb hby d8_22)
  refine Ends.go st5 ?_
  have Fw5 := (((F0_mHostEnd.other W2 (Or.inr (slot_ne (Or.inr (hw _ (List.mem_of_getElem? (i := 49) rfl))) (Or.inr (hw _ (List.mem_of_getElem? (i := 43) rfl))) (by decide) (t := .int) (t' := (.object "java/lang/String")) (by decide) (by decide)))).other W3 (Or.inr (slot_ne (Or.inr (hw _ (List.mem_of_getElem? (i := 49) rfl))) (Or.inr (hw _ (List.mem_of_getElem? (i := 45) rfl))) (by decide) (t := .int) (t' := .int) (by decide) (by decide)))).other W4 (Or.inr (slot_ne (Or.inr (hw _ (List.mem_of_getElem? (i := 49) rfl))) (Or.inr (hw _ (List.mem_of_getElem? (i := 47) rfl))) (by decide) (t := .int) (t' := .int) (by decide) (by decide)))).same W5
  have K5 := K4.wr W5 (Or.inl (List.mem_of_getElem? (i := 0) rfl))
  have O5 := O4.wr W5 g_o0
  have N5 := Fr.snoc X5 N4 g_o0
  show Ends p e below s T5 (mkF m 25 #[.val (.ref o0), .val (.ref o1), .val (.int p2), .val (.int p3), .val (.int p4), .val (.int p5), .val (.int p6), .val (.int p7)] []) _ _ _
  refine Ends.go (fun _ k => XS.aloadN X5.here hx rfl (hb hby d8_25) rfl rfl k) ?_
  show Ends p e below s T5 (mkF m 26 #[.val (.ref o0), .val (.ref o1), .val (.int p2), .val (.int p3), .val (.int p4), .val (.int p5), .val (.int p6), .val (.int p7)] [(.ref o0)]) _ _ _
  refine Ends.go (fun _ k => XS.iload X5.here hx rfl (hb hby d8_26) rfl k) ?_
  show Ends p e below s T5 (mkF m 28 #[.val (.ref o0), .val (.ref o1), .val (.int p2), .val (.int p3), .val (.int p4), .val (.int p5), .val (.int p6), .val (.int p7)] [(.int p5), (.ref o0)]) _ _ _
  obtain ⟨T6, h6, X6, e6, W6, st6⟩ := putF X5 hx hZ hown (host := "") (Or.inl (hw _ (List.mem_of_getElem? (i := 50) rfl))) Via.refl e5 ((((F0_mPathStart.other W2 (Or.inr (slot_ne (Or.inr (hw _ (List.mem_of_getElem? (i := 51) rfl))) (Or.inr (hw _ (List.mem_of_getElem? (i := 43) rfl))) (by decide) (t := .int) (t' := (.object "java/lang/String")) (by decide) (by decide)))).other W3 (Or.inr (slot_ne (Or.inr (hw _ (List.mem_of_getElem? (i := 51) rfl))) (Or.inr (hw _ (List.mem_of_getElem? (i := 45) rfl))) (by decide) (t := .int) (t' := .int) (by decide) (by decide)))).other W4 (Or.inr (slot_ne (Or.inr (hw _ (List.mem_of_getElem? (i := 51) rfl))) (Or.inr (hw _ (List.mem_of_getElem? (i := 47) rfl))) (by decide) (t := .int) (t' := .int) (by decide) (by decide)))).other W5 (Or.inr (slot_ne (Or.inr (hw _ (List.mem_of_getElem? (i := 51) rfl))) (Or.inr (hw _ (List.mem_of_getElem? (i := 49) rfl))) (by decide) (t := .int) (t' := .int) (by decide) (by decide)))) ((((Ex0.wr W2).wr W3).wr W4).wr W5) (Or.inr ⟨(hw _ (List.mem_of_getElem? (i := 51) rfl)), rfl, hnm⟩) (hw _ (List.mem_of_getElem? (i := 7) rfl)) (ty := .int) (by decide) rfl rfl (g := (mkF m 28 #[.val (.ref o0), .val (.ref o1), .val (.int p2), .val (.int p3), .val (.int p4), .val (.int p5), .val (.int p6), .val (.int p7)] [(.int p5), (.ref o0)])) rfl rfl (hb hby d8_28)
  refine Ends.go st6 ?_
  have Fw6 := ((((F0_mPathStart.other W2 (Or.inr (slot_ne (Or.inr (hw _ (List.mem_of_getElem? (i := 51) rfl))) (Or.inr (hw _ (List.mem_of_getElem? (i := 43) rfl))) (by decide) (t := .int) (t' := (.object "java/lang/String")) (by decide) (by decide)))).other W3 (Or.inr (slot_ne (Or.inr (hw _ (List.mem_of_getElem? (i := 51) rfl))) (Or.inr (hw _ (List.mem_of_getElem? (i := 45) rfl))) (by decide) (t := .int) (t' := .int) (by decide) (by decide)))).other W4 (Or.inr (slot_ne (Or.inr (hw _ (List.mem_of_getElem? (i := 51) rfl))) (Or.inr (hw _ (List.mem_of_getElem? (i := 47) rfl))) (by decide) (t := .int) (t' := .int) (by decide) (by decide)))).other W5 (Or.inr (slot_ne (Or.inr (hw _ (List.mem_of_getElem? (i := 51) rfl))) (Or.inr (hw _ (List.mem_of_getElem? (i := 49) rfl))) (by decide) (t := .int) (t' := .int) (by decide) (by decide)))).same W6
  have K6 := K5.wr W6 (Or.inl (List.mem_of_getElem? (i := 0) rfl))
  have O6 := O5.wr W6 g_o0
  have N6 := Fr.snoc X6 N5 g_o0
  show Ends p e below s T6 (mkF m 31 #[.val (.ref o0), .val (.ref o1), .val (.int p2), .val (.int p3), .val (.int p4), .val (.int p5), .val (.int p6), .val (.int p7)] []) _ _ _
  refine Ends.go (fun _ k => XS.aloadN X6.here hx rfl (hb hby d8_31) rfl rfl k) ?_
  show Ends p e below s T6 (mkF m 32 #[.val (.ref o0), .val (.ref o1), .val (.int p2), .val (.int p3), .val (.int p4), .val (.int p5), .val (.int p6), .val (.int p7)] [(.ref o0)]) _ _ _
  refine Ends.go (fun _ k => XS.iload X6.here hx rfl (hb hby d8_32) rfl k) ?_
  show Ends p e below s T6 (mkF m 34 #[.val (.ref o0), .val (.ref o1), .val (.int p2), .val (.int p3), .val (.int p4), .val (.int p5), .val (.int p6), .val (.int p7)] [(.int p6), (.ref o0)]) _ _ _
  obtain ⟨T7, h7, X7, e7, W7, st7⟩ := putF X6 hx hZ hown (host := "") (Or.inl (hw _ (List.mem_of_getElem? (i := 52) rfl))) Via.refl e6 (((((F0_mPathEnd.other W2 (Or.inr (slot_ne (Or.inr (hw _ (List.mem_of_getElem? (i := 53) rfl))) (Or.inr (hw _ (List.mem_of_getElem? (i := 43) rfl))) (by decide) (t := .int) (t' := (.object "java/lang/String")) (by decide) (by decide)))).other W3 (Or.inr (slot_ne (Or.inr (hw _ (List.mem_of_getElem? (i := 53) rfl))) (Or.inr (hw _ (List.mem_of_getElem? (i := 45) rfl))) (by decide) (t := .int) (t' := .int) (by decide) (by decide)))).other W4 (Or.inr (slot_ne (Or.inr (hw _ (List.mem_of_getElem? (i := 53) rfl))) (Or.inr (hw _ (List.mem_of_getElem? (i := 47) rfl))) (by decide) (t := .int) (t' := .int) (by decide) (by decide)))).other W5 (Or.inr (slot_ne (Or.inr (hw _ (List.mem_of_getElem? (i := 53) rfl))) (Or.inr (hw _ (List.mem_of_getElem? (i := 49) rfl))) (by decide) (t := .int) (t' := .int) (by decide) (by decide)))).other W6 (Or.inr (slot_ne (Or.inr (hw _ (List.mem_of_getElem? (i := 53) rfl))) (Or.inr (hw _ (List.mem_of_getElem? (i := 51) rfl))) (by decide) (t := .int) (t' := .int) (by decide) (by decide)))) (((((Ex0.wr W2).wr W3).wr W4).wr W5).wr W6) (Or.inr ⟨(hw _ (List.mem_of_getElem? (i := 53) rfl)), rfl, hnm⟩) (hw _ (List.mem_of_getElem? (i := 7) rfl)) (ty := .int) (by decide) rfl rfl (g := (mkF m 34 #[.val (.ref o0), .val (.ref o1), .val (.int p2), .val (.int p3), .val (.int p4), .val (.int p5), .val (.int p6), .val (.int p7)] [(.int p6), (.ref o0)])) rfl rfl (hb hby d8_34)
  refine Ends.go st7 ?_
  have Fw7 := (((((F0_mPathEnd.other W2 (Or.inr (slot_ne (Or.inr (hw _ (List.mem_of_getElem? (i := 53) rfl))) (Or.inr (hw _ (List.mem_of_getElem? (i := 43) rfl))) (by decide) (t := .int) (t' := (.object "java/lang/String")) (by decide) (by decide)))).other W3 (Or.inr (slot_ne (Or.inr (hw _ (List.mem_of_getElem? (i := 53) rfl))) (Or.inr (hw _ (List.mem_of_getElem? (i := 45) rfl))) (by decide) (t := .int) (t' := .int) (by decide) (by decide)))).other W4 (Or.inr (slot_ne (Or.inr (hw _ (List.mem_of_getElem? (i := 53) rfl))) (Or.inr (hw _ (List.mem_of_getElem? (i := 47) rfl))) (by decide) (t := .int) (t' := .int) (by decide) (by decide)))).other W5 (Or.inr (slot_ne (Or.inr (hw _ (List.mem_of_getElem? (i := 53) rfl))) (Or.inr (hw _ (List.mem_of_getElem? (i := 49) rfl))) (by decide) (t := .int) (t' := .int) (by decide) (by decide)))).other W6 (Or.inr (slot_ne (Or.inr (hw _ (List.mem_of_getElem? (i := 53) rfl))) (Or.inr (hw _ (List.mem_of_getElem? (i := 51) rfl))) (by decide) (t := .int) (t' := .int) (by decide) (by decide)))).same W7
  have K7 := K6.wr W7 (Or.inl (List.mem_of_getElem? (i := 0) rfl))
  have O7 := O6.wr W7 g_o0
  have N7 := Fr.snoc X7 N6 g_o0
  show Ends p e below s T7 (mkF m 37 #[.val (.ref o0), .val (.ref o1), .val (.int p2), .val (.int p3), .val (.int p4), .val (.int p5), .val (.int p6), .val (.int p7)] []) _ _ _
  refine Ends.go (fun _ k => XS.aloadN X7.here hx rfl (hb hby d8_37) rfl rfl k) ?_
  show Ends p e below s T7 (mkF m 38 #[.val (.ref o0), .val (.ref o1), .val (.int p2), .val (.int p3), .val (.int p4), .val (.int p5), .val (.int p6), .val (.int p7)] [(.ref o0)]) _ _ _
  refine Ends.go (fun _ k => XS.iload X7.here hx rfl (hb hby d8_38) rfl k) ?_
  show Ends p e below s T7 (mkF m 40 #[.val (.ref o0), .val (.ref o1), .val (.int p2), .val (.int p3), .val (.int p4), .val (.int p5), .val (.int p6), .val (.int p7)] [(.int p7), (.ref o0)]) _ _ _
  obtain ⟨T8, h8, X8, e8, W8, st8⟩ := putF X7 hx hZ hown (host := "") (Or.inl (hw _ (List.mem_of_getElem? (i := 54) rfl))) Via.refl e7 ((((((F0_mQueryEnd.other W2 (Or.inr (slot_ne (Or.inr (hw _ (List.mem_of_getElem? (i := 55) rfl))) (Or.inr (hw _ (List.mem_of_getElem? (i := 43) rfl))) (by decide) (t := .int) (t' := (.object "java/lang/String")) (by decide) (by decide)))).other W3 (Or.inr (slot_ne (Or.inr (hw _ (List.mem_of_getElem? (i := 55) rfl))) (Or.inr (hw _ (List.mem_of_getElem? (i := 45) rfl))) (by decide) (t := .int) (t' := .int) (by decide) (by decide)))).other W4 (Or.inr (slot_ne (Or.inr (hw _ (List.mem_of_getElem? (i := 55) rfl))) (Or.inr (hw _ (List.mem_of_getElem? (i := 47) rfl))) (by decide) (t := .int) (t' := .int) (by decide) (by decide)))).other W5 (Or.inr (slot_ne (Or.inr (hw _ (List.mem_of_getElem? (i := 55) rfl))) (Or.inr (hw _ (List.mem_of_getElem? (i := 49) rfl))) (by decide) (t := .int) (t' := .int) (by decide) (by decide)))).other W6 (Or.inr (slot_ne (Or.inr (hw _ (List.mem_of_getElem? (i := 55) rfl))) (Or.inr (hw _ (List.mem_of_getElem? (i := 51) rfl))) (by decide) (t := .int) (t' := .int) (by decide) (by decide)))).other W7 (Or.inr (slot_ne (Or.inr (hw _ (List.mem_of_getElem? (i := 55) rfl))) (Or.inr (hw _ (List.mem_of_getElem? (i := 53) rfl))) (by decide) (t := .int) (t' := .int) (by decide) (by decide)))) ((((((Ex0.wr W2).wr W3).wr W4).wr W5).wr W6).wr W7) (Or.inr ⟨(hw _ (List.mem_of_getElem? (i := 55) rfl)), rfl, hnm⟩) (hw _ (List.mem_of_getElem? (i := 7) rfl)) (ty := .int) (by decide) rfl rfl (g := (mkF m 40 #[.val (.ref o0), .val (.ref o1), .val (.int p2), .val (.int p3), .val (.int p4), .val (.int p5), .val (.int p6), .val (.int p7)] [(.int p7), (.ref o0)])) rfl rfl (hb hby d8_40)
  refine Ends.go st8 ?_
  have Fw8 := ((((((F0_mQueryEnd.other W2 (Or.inr (slot_ne (Or.inr (hw _ (List.mem_of_getElem? (i := 55) rfl))) (Or.inr (hw _ (List.mem_of_getElem? (i := 43) rfl))) (by decide) (t := .int) (t' := (.object "java/lang/String")) (by decide) (by decide)))).other W3 (Or.inr (slot_ne (Or.inr (hw _ (List.mem_of_getElem? (i := 55) rfl))) (Or.inr (hw _ (List.mem_of_getElem? (i := 45) rfl))) (by decide) (t := .int) (t' := .int) (by decide) (by decide)))).other W4 (Or.inr (slot_ne (Or.inr (hw _ (List.mem_of_getElem? (i := 55) rfl))) (Or.inr (hw _ (List.mem_of_getElem? (i := 47) rfl))) (by decide) (t := .int) (t' := .int) (by decide) (by decide)))).other W5 (Or.inr (slot_ne (Or.inr (hw _ (List.mem_of_getElem? (i := 55) rfl))) (Or.inr (hw _ (List.mem_of_getElem? (i := 49) rfl))) (by decide) (t := .int) (t' := .int) (by decide) (by decide)))).other W6 (Or.inr (slot_ne (Or.inr (hw _ (List.mem_of_getElem? (i := 55) rfl))) (Or.inr (hw _ (List.mem_of_getElem? (i := 51) rfl))) (by decide) (t := .int) (t' := .int) (by decide) (by decide)))).other W7 (Or.inr (slot_ne (Or.inr (hw _ (List.mem_of_getElem? (i := 55) rfl))) (Or.inr (hw _ (List.mem_of_getElem? (i := 53) rfl))) (by decide) (t := .int) (t' := .int) (by decide) (by decide)))).same W8
  have K8 := K7.wr W8 (Or.inl (List.mem_of_getElem? (i := 0) rfl))
  have O8 := O7.wr W8 g_o0
  have N8 := Fr.snoc X8 N7 g_o0
  show Ends p e below s T8 (mkF m 43 #[.val (.ref o0), .val (.ref o1), .val (.int p2), .val (.int p3), .val (.int p4), .val (.int p5), .val (.int p6), .val (.int p7)] []) _ _ _
  refine Ends.retV X8 hx Bd.notSynchronized Bd.returns (hb hby d8_43) (by decide) (by decide) ?_
  rw [e8]
  exact ⟨rfl, N8, K8, (((((((Ex0.wr W2).wr W3).wr W4).wr W5).wr W6).wr W7).wr W8), ((((((Fw2.other W3 (Or.inr (slot_ne (Or.inr (hw _ (List.mem_of_getElem? (i := 43) rfl))) (Or.inr (hw _ (List.mem_of_getElem? (i := 45) rfl))) (by decide) (t := (.object "java/lang/String")) (t' := .int) (by decide) (by decide)))).other W4 (Or.inr (slot_ne (Or.inr (hw _ (List.mem_of_getElem? (i := 43) rfl))) (Or.inr (hw _ (List.mem_of_getElem? (i := 47) rfl))) (by decide) (t := (.object "java/lang/String")) (t' := .int) (by decide) (by decide)))).other W5 (Or.inr (slot_ne (Or.inr (hw _ (List.mem_of_getElem? (i := 43) rfl))) (Or.inr (hw _ (List.mem_of_getElem? (i := 49) rfl))) (by decide) (t := (.object "java/lang/String")) (t' := .int) (by decide) (by decide)))).other W6 (Or.inr (slot_ne (Or.inr (hw _ (List.mem_of_getElem? (i := 43) rfl))) (Or.inr (hw _ (List.mem_of_getElem? (i := 51) rfl))) (by decide) (t := (.object "java/lang/String")) (t' := .int) (by decide) (by decide)))).other W7 (Or.inr (slot_ne (Or.inr (hw _ (List.mem_of_getElem? (i := 43) rfl))) (Or.inr (hw _ (List.mem_of_getElem? (i := 53) rfl))) (by decide) (t := (.object "java/lang/String")) (t' := .int) (by decide) (by decide)))).other W8 (Or.inr (slot_ne (Or.inr (hw _ (List.mem_of_getElem? (i := 43) rfl))) (Or.inr (hw _ (List.mem_of_getElem? (i := 55) rfl))) (by decide) (t := (.object "java/lang/String")) (t' := .int) (by decide) (by decide)))), (((((Fw3.other W4 (Or.inr (slot_ne (Or.inr (hw _ (List.mem_of_getElem? (i := 45) rfl))) (Or.inr (hw _ (List.mem_of_getElem? (i := 47) rfl))) (by decide) (t := .int) (t' := .int) (by decide) (by decide)))).other W5 (Or.inr (slot_ne (Or.inr (hw _ (List.mem_of_getElem? (i := 45) rfl))) (Or.inr (hw _ (List.mem_of_getElem? (i := 49) rfl))) (by decide) (t := .int) (t' := .int) (by decide) (by decide)))).other W6 (Or.inr (slot_ne (Or.inr (hw _ (List.mem_of_getElem? (i := 45) rfl))) (Or.inr (hw _ (List.mem_of_getElem? (i := 51) rfl))) (by decide) (t := .int) (t' := .int) (by decide) (by decide)))).other W7 (Or.inr (slot_ne (Or.inr (hw _ (List.mem_of_getElem? (i := 45) rfl))) (Or.inr (hw _ (List.mem_of_getElem? (i := 53) rfl))) (by decide) (t := .int) (t' := .int) (by decide) (by decide)))).other W8 (Or.inr (slot_ne (Or.inr (hw _ (List.mem_of_getElem? (i := 45) rfl))) (Or.inr (hw _ (List.mem_of_getElem? (i := 55) rfl))) (by decide) (t := .int) (t' := .int) (by decide) (by decide)))), ((((Fw4.other W5 (Or.inr (slot_ne (Or.inr (hw _ (List.mem_of_getElem? (i := 47) rfl))) (Or.inr (hw _ (List.mem_of_getElem? (i := 49) rfl))) (by decide) (t := .int) (t' := .int) (by decide) (by decide)))).other W6 (Or.inr (slot_ne (Or.inr (hw _ (List.mem_of_getElem? (i := 47) rfl))) (Or.inr (hw _ (List.mem_of_getElem? (i := 51) rfl))) (by decide) (t := .int) (t' := .int) (by decide) (by decide)))).other W7 (Or.inr (slot_ne (Or.inr (hw _ (List.mem_of_getElem? (i := 47) rfl))) (Or.inr (hw _ (List.mem_of_getElem? (i := 53) rfl))) (by decide) (t := .int) (t' := .int) (by decide) (by decide)))).other W8 (Or.inr (slot_ne (Or.inr (hw _ (List.mem_of_getElem? (i := 47) rfl))) (Or.inr (hw _ (List.mem_of_getElem? (i := 55) rfl))) (by decide) (t := .int) (t' := .int) (by decide) (by decide)))), (((Fw5.other W6 (Or.inr (slot_ne (Or.inr (hw _ (List.mem_of_getElem? (i := 49) rfl))) (Or.inr (hw _ (List.mem_of_getElem? (i := 51) rfl))) (by decide) (t := .int) (t' := .int) (by decide) (by decide)))).other W7 (Or.inr (slot_ne (Or.inr (hw _ (List.mem_of_getElem? (i := 49) rfl))) (Or.inr (hw _ (List.mem_of_getElem? (i := 53) rfl))) (by decide) (t := .int) (t' := .int) (by decide) (by decide)))).other W8 (Or.inr (slot_ne (Or.inr (hw _ (List.mem_of_getElem? (i := 49) rfl))) (Or.inr (hw _ (List.mem_of_getElem? (i := 55) rfl))) (by decide) (t := .int) (t' := .int) (by decide) (by decide)))), ((Fw6.other W7 (Or.inr (slot_ne (Or.inr (hw _ (List.mem_of_getElem? (i := 51) rfl))) (Or.inr (hw _ (List.mem_of_getElem? (i := 53) rfl))) (by decide) (t := .int) (t' := .int) (by decide) (by decide)))).other W8 (Or.inr (slot_ne (Or.inr (hw _ (List.mem_of_getElem? (i := 51) rfl))) (Or.inr (hw _ (List.mem_of_getElem? (i := 55) rfl))) (by decide) (t := .int) (t' := .int) (by decide) (by decide)))), (Fw7.other W8 (Or.inr (slot_ne (Or.inr (hw _ (List.mem_of_getElem? (i := 53) rfl))) (Or.inr (hw _ (List.mem_of_getElem? (i := 55) rfl))) (by decide) (t := .int) (t' := .int) (by decide) (by decide)))), Fw8⟩
theorem d9_0 : decode prog_7_method_12_code 0 = .ok (.aload_n 0, 1) := by decide +kernel
theorem d9_1 : decode prog_7_method_12_code 1 = .ok (.getfield 13, 3) := by decide +kernel
theorem d9_4 : decode prog_7_method_12_code 4 = .ok (.ifCond .lt 7, 3) := by decide +kernel
theorem d9_7 : decode prog_7_method_12_code 7 = .ok (.iconst 1, 1) := by decide +kernel
theorem d9_8 : decode prog_7_method_12_code 8 = .ok (.goto 4, 3) := by decide +kernel
theorem d9_11 : decode prog_7_method_12_code 11 = .ok (.iconst 0, 1) := by decide +kernel
theorem d9_12 : decode prog_7_method_12_code 12 = .ok (.ireturn, 1) := by decide +kernel
theorem pn9 : plainName "com/example/authority/authority/UriReference" = true := by first | (simp [plainName, overriddenIn]; done) | decide +kernel
theorem ef9 (m : MethodId) (o0 : Addr) : entryFrame m #[(.ref o0)] 1 = mkF m 0 #[.val (.ref o0)] [] := by first | (simp [entryFrame, mkF, argsToLocals, Value.category]; done) | rfl
set_option maxRecDepth 65536 in
set_option maxHeartbeats 40000000 in
theorem rmQ (l : Launch) (Z : State) (a0 : Array Value) (hw : ∀ d ∈ tables_1, d.before a0 Z = true) (ws : List Jvm.Cond) (n0 : Nat) (h0 : Heap) (O0 : Old Z n0 h0) (o0 : Addr) (sv : Int32) (F0 : Fld Z h0 o0 "com/example/authority/authority/UriReference" "mSchemeEnd" "I" (.int sv)) (r : Int32) (hr : r = if sv < 0 then 0 else 1) :
    Meets1 l (⟨"com/example/authority/authority/UriReference", "isUri", "()Z"⟩ : MethodName) prog_7_method_12_code 1 (some .boolean) ws ({ frames := 0, cells := 0, slots := 0, locals := 0 } : Room) #[(.ref o0)] Z h0 (fun v h L => v = some (.int r) ∧ Fr n0 L ∧ h = h0) := by
  refine MetFree.of_bodySF (plainFor_of_name pn9) hisR ?_
  intro p e s m args below meth c s₁ Bd hml0 hP hK
  obtain ⟨rfl, hZ, hh⟩ := hP
  have hx := Bd.exec
  have hby := Bd.bytes
  have hml : c.maxLocals = 1 := hml0
  have hown : s.vm.findClass "com/example/authority/authority/UriReference" = some m.cls := findClass_of_methodNamed Bd.named
  have hnm := (name_of_methodNamed Bd.named Bd.method).1
  have X0 : Stand p l e ({ frames := 0, cells := 0, slots := 0, locals := 0 } : Room) s m #[(.ref o0)] below meth c s₁ [] 0 0 := Stand.of_body Bd
  have e0 : s₁.heap = h0 := by rw [← hh, Bd.state]; rfl
  have N0 := Fr.nil n0
  have Z0 := own_old_le O0
  show Ends p e below s s₁ (entryFrame m #[(.ref o0)] 1) ({ frames := 0, cells := 0, slots := 0, locals := 0 } : Room).cells ({ frames := 0, cells := 0, slots := 0, locals := 0 } : Room).slots (fun v h L => v = some (.int r) ∧ Fr n0 L ∧ h = h0)
  refine Ends.go (fun _ k => castTop (ef9 m o0) k) ?_
  have K0 := Keep.refl h0 []
  show Ends p e below s s₁ (mkF m 0 #[.val (.ref o0)] []) _ _ _
  refine Ends.go (fun _ k => XS.aloadN X0.here hx rfl (hb hby d9_0) rfl rfl k) ?_
  show Ends p e below s s₁ (mkF m 1 #[.val (.ref o0)] [(.ref o0)]) _ _ _
  obtain ⟨T1, X1, e1, st1⟩ := getF X0 hx hZ hown (host := "") (Or.inl (hw _ (List.mem_of_getElem? (i := 44) rfl))) Via.refl e0 F0 (g := (mkF m 1 #[.val (.ref o0)] [(.ref o0)])) rfl rfl (hb hby d9_1)
  refine Ends.go st1 ?_
  show Ends p e below s T1 (mkF m 4 #[.val (.ref o0)] [(.int sv)]) _ _ _
  by_cases hc4_2 : sv < (0 : Int32)
  · refine Ends.go (fun _ k => XS.ifYes X1.here hx rfl (pc0 := 4) (pc' := 11) rfl (hb hby d9_4) rfl ((if0 _ _).trans (tlt hc4_2).1) (by decide) (by decide) k) ?_
    show Ends p e below s T1 (mkF m 11 #[.val (.ref o0)] []) _ _ _
    refine Ends.go (fun _ k => XS.iconst X1.here hx rfl (hb hby d9_11) k) ?_
    show Ends p e below s T1 (mkF m 12 #[.val (.ref o0)] [(.int (0 : Int32))]) _ _ _
    refine Ends.retZ X1 hx Bd.notSynchronized (t := .boolean) Bd.returns (by simp) (hb hby d9_12) (by decide) (by decide) ?_
    refine ⟨?_, N0, e1⟩
    show (some (.int (0 : Int32)) : Option Value) = _
    rw [hr]; simp [hc4_2]
  · refine Ends.go (fun _ k => XS.ifNo X1.here hx rfl (hb hby d9_4) rfl ((if0 _ _).trans (flt hc4_2).1) k) ?_
    show Ends p e below s T1 (mkF m 7 #[.val (.ref o0)] []) _ _ _
    refine Ends.go (fun _ k => XS.iconst X1.here hx rfl (hb hby d9_7) k) ?_
    show Ends p e below s T1 (mkF m 8 #[.val (.ref o0)] [(.int (1 : Int32))]) _ _ _
    refine Ends.go (fun _ k => XS.goto X1.here hx rfl (pc0 := 8) (pc' := 12) rfl (hb hby d9_8) (by decide) (by decide) k) ?_
    show Ends p e below s T1 (mkF m 12 #[.val (.ref o0)] [(.int (1 : Int32))]) _ _ _
    refine Ends.retZ X1 hx Bd.notSynchronized (t := .boolean) Bd.returns (by simp) (hb hby d9_12) (by decide) (by decide) ?_
    refine ⟨?_, N0, e1⟩
    show (some (.int (1 : Int32)) : Option Value) = _
    rw [hr]; simp [hc4_2]
theorem pn0 : plainName "com/example/authority/authority/UriReferenceIsUriPinLaw" = true := by first | (simp [plainName, overriddenIn]; done) | decide +kernel
theorem pd0_0 : parseMethodDescriptor "(I)C" = some ⟨[.int], some .char⟩ := by decide +kernel
theorem pd0_1 : parseMethodDescriptor "([C)V" = some ⟨[(.array .char)], none⟩ := by decide +kernel
theorem pd0_2 : parseMethodDescriptor "(Ljava/lang/String;IIIIII)V" = some ⟨[(.object "java/lang/String"), .int, .int, .int, .int, .int, .int], none⟩ := by decide +kernel
theorem pd0_3 : parseMethodDescriptor "()Z" = some ⟨[], some .boolean⟩ := by decide +kernel
theorem ef0 (m : MethodId) (p0 : Int32) (p1 : Int32) (p2 : Int32) (p3 : Int32) : entryFrame m #[(.int p0), (.int p1), (.int p2), (.int p3)] maxLocals = mkF m 0 #[.val (.int p0), .val (.int p1), .val (.int p2), .val (.int p3), .unset, .unset, .unset, .unset, .unset, .unset, .unset, .unset, .unset, .unset, .unset, .unset, .unset, .unset, .unset, .unset] [] := by first | (simp [entryFrame, mkF, argsToLocals, Value.category, maxLocals]; done) | rfl
set_option maxRecDepth 65536 in
set_option maxHeartbeats 40000000 in
theorem rm0 (l : Launch) (Z : State) (a0 : Array Value) (hw : ∀ d ∈ tables_1, d.before a0 Z = true) (ws : List Jvm.Cond) (n0 : Nat) (h0 : Heap) (O0 : Old Z n0 h0) (p0 : Int32) (p1 : Int32) (p2 : Int32) (p3 : Int32) (G1 : Int32) (O2 : Sta Z Z.heap "java/lang/String" "COMPACT_STRINGS" "Z" (.int G1)) (P5 : ¬ G1 = (0 : Int32)) :
    Meets1 l x code maxLocals ret ws room_1 #[(.int p0), (.int p1), (.int p2), (.int p3)] Z h0 (fun v h L => v = some (.int (1 : Int32)) ∧ Fr n0 L) := by
  refine MetFree.of_bodySF (plainFor_of_name pn0) hisR ?_
  intro p e s m args below meth c s₁ Bd hml0 hP hK
  obtain ⟨rfl, hZ, hh⟩ := hP
  have hx := Bd.exec
  have hby := Bd.bytes
  have hml : c.maxLocals = 20 := hml0
  have hown : s.vm.findClass "com/example/authority/authority/UriReferenceIsUriPinLaw" = some m.cls := findClass_of_methodNamed Bd.named
  have hnm := (name_of_methodNamed Bd.named Bd.method).1
  have X0 : Stand p l e room_1 s m #[(.int p0), (.int p1), (.int p2), (.int p3)] below meth c s₁ [] 0 0 := Stand.of_body Bd
  have e0 : s₁.heap = h0 := by rw [← hh, Bd.state]; rfl
  have N0 := Fr.nil n0
  have Z0 := own_old_le O0
  show Ends p e below s s₁ (entryFrame m #[(.int p0), (.int p1), (.int p2), (.int p3)] maxLocals) room_1.cells room_1.slots (fun v h L => v = some (.int (1 : Int32)) ∧ Fr n0 L)
  refine Ends.go (fun _ k => castTop (ef0 m p0 p1 p2 p3) k) ?_
  have K0 := Keep.refl h0 []
  have hws : ∀ d ∈ StrChars.Road.words, d.before a0 Z = true := fun d hd => hw d ((by decide +kernel : ∀ d ∈ StrChars.Road.words, d ∈ tables_1) d hd)
  have J53 : ∀ s4 s5 s6 s7 : Int32, (s4 = 0 ∨ s4 = 1) → Ends p e below s s₁ (mkF m 53 #[.val (.int p0), .val (.int p1), .val (.int p2), .val (.int p3), .val (.int s4), .val (.int s5), .val (.int s6), .val (.int s7), .unset, .unset, .unset, .unset, .unset, .unset, .unset, .unset, .unset, .unset, .unset, .unset] []) room_1.cells room_1.slots (fun v h L => v = some (.int (1 : Int32)) ∧ Fr n0 L) := by
    intro s4 s5 s6 s7 h4
    show Ends p e below s s₁ (mkF m 53 #[.val (.int p0), .val (.int p1), .val (.int p2), .val (.int p3), .val (.int s4), .val (.int s5), .val (.int s6), .val (.int s7), .unset, .unset, .unset, .unset, .unset, .unset, .unset, .unset, .unset, .unset, .unset, .unset] []) _ _ _
    refine Ends.go (fun _ k => XS.iloadN X0.here hx rfl (hb hby at_53) rfl k) ?_
    show Ends p e below s s₁ (mkF m 54 #[.val (.int p0), .val (.int p1), .val (.int p2), .val (.int p3), .val (.int s4), .val (.int s5), .val (.int s6), .val (.int s7), .unset, .unset, .unset, .unset, .unset, .unset, .unset, .unset, .unset, .unset, .unset, .unset] [(.int p1)]) _ _ _
    obtain ⟨_, _, ⟨T1, L1, k1, n1⟩, -, X1, ⟨Lc1, hQ1, l1, y1, z1⟩, st1⟩ := Jvm.LawKit.callS X0 hx (y := (⟨"com/example/authority/authority/UriReferenceIsUriPinLaw", "letter", "(I)C"⟩ : MethodName)) hown (mvT hZ (hw _ (List.mem_of_getElem? (i := 0) rfl))) (mvT hZ (hw _ (List.mem_of_getElem? (i := 1) rfl))) (mvT hZ (hw _ (List.mem_of_getElem? (i := 2) rfl))) (mvT hZ (hw _ (List.mem_of_getElem? (i := 3) rfl))) (by decide) (own_backOf (W := 0) (rmL l Z a0 hw [] n0 h0 O0 p1) hZ (hw _ (List.mem_of_getElem? (i := 3) rfl)) (hw _ (List.mem_of_getElem? (i := 2) rfl)) (by decide) (by decide)) (g := (mkF m 54 #[.val (.int p0), .val (.int p1), .val (.int p2), .val (.int p3), .val (.int s4), .val (.int s5), .val (.int s6), .val (.int s7), .unset, .unset, .unset, .unset, .unset, .unset, .unset, .unset, .unset, .unset, .unset, .unset] [(.int p1)])) rfl (by rw [hml]; rfl) (argsL := [(.int p1)]) (rest := []) (lenOf pd0_0 rfl) rfl (by show 2 * 0 + _ ≤ _; exact Nat.le_of_eq rfl) (hb hby at_54) (fun _ _ => ⟨rfl, e0, (by decide : 0 + 0 ≤ _), (by decide : 0 + 0 ≤ _)⟩)
    dsimp only [Pt.U, Pt.locs, Pt.cells, Pt.slots] at X1 l1 y1 z1 st1 hQ1
    subst l1 y1 z1
    obtain ⟨r1, rfl, N1q, e1q, hr1⟩ := hQ1
    have N1 := Fr.app N0 N1q
    refine Ends.go st1 ?_
    show Ends p e below s T1 (mkF m 57 #[.val (.int p0), .val (.int p1), .val (.int p2), .val (.int p3), .val (.int s4), .val (.int s5), .val (.int s6), .val (.int s7), .unset, .unset, .unset, .unset, .unset, .unset, .unset, .unset, .unset, .unset, .unset, .unset] [(.int r1)]) _ _ _
    refine Ends.go (fun _ k => XS.istore X1.here hx rfl (hb hby at_57) rfl (l' := #[.val (.int p0), .val (.int p1), .val (.int p2), .val (.int p3), .val (.int s4), .val (.int s5), .val (.int s6), .val (.int s7), .val (.int r1), .unset, .unset, .unset, .unset, .unset, .unset, .unset, .unset, .unset, .unset, .unset]) rfl k) ?_
    show Ends p e below s T1 (mkF m 59 #[.val (.int p0), .val (.int p1), .val (.int p2), .val (.int p3), .val (.int s4), .val (.int s5), .val (.int s6), .val (.int s7), .val (.int r1), .unset, .unset, .unset, .unset, .unset, .unset, .unset, .unset, .unset, .unset, .unset] []) _ _ _
    refine Ends.go (fun _ k => XS.iloadN X1.here hx rfl (hb hby at_59) rfl k) ?_
    show Ends p e below s T1 (mkF m 60 #[.val (.int p0), .val (.int p1), .val (.int p2), .val (.int p3), .val (.int s4), .val (.int s5), .val (.int s6), .val (.int s7), .val (.int r1), .unset, .unset, .unset, .unset, .unset, .unset, .unset, .unset, .unset, .unset, .unset] [(.int p2)]) _ _ _
    obtain ⟨_, _, ⟨T2, L2, k2, n2⟩, -, X2, ⟨Lc2, hQ2, l2, y2, z2⟩, st2⟩ := Jvm.LawKit.callS X1 hx (y := (⟨"com/example/authority/authority/UriReferenceIsUriPinLaw", "letter", "(I)C"⟩ : MethodName)) hown (mvT hZ (hw _ (List.mem_of_getElem? (i := 0) rfl))) (mvT hZ (hw _ (List.mem_of_getElem? (i := 1) rfl))) (mvT hZ (hw _ (List.mem_of_getElem? (i := 2) rfl))) (mvT hZ (hw _ (List.mem_of_getElem? (i := 3) rfl))) (by decide) (own_backOf (W := 0) (rmL l Z a0 hw [] n0 h0 O0 p2) hZ (hw _ (List.mem_of_getElem? (i := 3) rfl)) (hw _ (List.mem_of_getElem? (i := 2) rfl)) (by decide) (by decide)) (g := (mkF m 60 #[.val (.int p0), .val (.int p1), .val (.int p2), .val (.int p3), .val (.int s4), .val (.int s5), .val (.int s6), .val (.int s7), .val (.int r1), .unset, .unset, .unset, .unset, .unset, .unset, .unset, .unset, .unset, .unset, .unset] [(.int p2)])) rfl (by rw [hml]; rfl) (argsL := [(.int p2)]) (rest := []) (lenOf pd0_0 rfl) rfl (by show 2 * 0 + _ ≤ _; exact Nat.le_of_eq rfl) (hb hby at_60) (fun _ _ => ⟨rfl, e1q, (by decide : 0 + 0 ≤ _), (by decide : 0 + 0 ≤ _)⟩)
    dsimp only [Pt.U, Pt.locs, Pt.cells, Pt.slots] at X2 l2 y2 z2 st2 hQ2
    subst l2 y2 z2
    obtain ⟨r2, rfl, N2q, e2q, hr2⟩ := hQ2
    have N2 := Fr.app N1 N2q
    refine Ends.go st2 ?_
    show Ends p e below s T2 (mkF m 63 #[.val (.int p0), .val (.int p1), .val (.int p2), .val (.int p3), .val (.int s4), .val (.int s5), .val (.int s6), .val (.int s7), .val (.int r1), .unset, .unset, .unset, .unset, .unset, .unset, .unset, .unset, .unset, .unset, .unset] [(.int r2)]) _ _ _
    refine Ends.go (fun _ k => XS.istore X2.here hx rfl (hb hby at_63) rfl (l' := #[.val (.int p0), .val (.int p1), .val (.int p2), .val (.int p3), .val (.int s4), .val (.int s5), .val (.int s6), .val (.int s7), .val (.int r1), .val (.int r2), .unset, .unset, .unset, .unset, .unset, .unset, .unset, .unset, .unset, .unset]) rfl k) ?_
    show Ends p e below s T2 (mkF m 65 #[.val (.int p0), .val (.int p1), .val (.int p2), .val (.int p3), .val (.int s4), .val (.int s5), .val (.int s6), .val (.int s7), .val (.int r1), .val (.int r2), .unset, .unset, .unset, .unset, .unset, .unset, .unset, .unset, .unset, .unset] []) _ _ _
    refine Ends.go (fun _ k => XS.iloadN X2.here hx rfl (hb hby at_65) rfl k) ?_
    show Ends p e below s T2 (mkF m 66 #[.val (.int p0), .val (.int p1), .val (.int p2), .val (.int p3), .val (.int s4), .val (.int s5), .val (.int s6), .val (.int s7), .val (.int r1), .val (.int r2), .unset, .unset, .unset, .unset, .unset, .unset, .unset, .unset, .unset, .unset] [(.int p3)]) _ _ _
    obtain ⟨_, _, ⟨T3, L3, k3, n3⟩, -, X3, ⟨Lc3, hQ3, l3, y3, z3⟩, st3⟩ := Jvm.LawKit.callS X2 hx (y := (⟨"com/example/authority/authority/UriReferenceIsUriPinLaw", "letter", "(I)C"⟩ : MethodName)) hown (mvT hZ (hw _ (List.mem_of_getElem? (i := 0) rfl))) (mvT hZ (hw _ (List.mem_of_getElem? (i := 1) rfl))) (mvT hZ (hw _ (List.mem_of_getElem? (i := 2) rfl))) (mvT hZ (hw _ (List.mem_of_getElem? (i := 3) rfl))) (by decide) (own_backOf (W := 0) (rmL l Z a0 hw [] n0 h0 O0 p3) hZ (hw _ (List.mem_of_getElem? (i := 3) rfl)) (hw _ (List.mem_of_getElem? (i := 2) rfl)) (by decide) (by decide)) (g := (mkF m 66 #[.val (.int p0), .val (.int p1), .val (.int p2), .val (.int p3), .val (.int s4), .val (.int s5), .val (.int s6), .val (.int s7), .val (.int r1), .val (.int r2), .unset, .unset, .unset, .unset, .unset, .unset, .unset, .unset, .unset, .unset] [(.int p3)])) rfl (by rw [hml]; rfl) (argsL := [(.int p3)]) (rest := []) (lenOf pd0_0 rfl) rfl (by show 2 * 0 + _ ≤ _; exact Nat.le_of_eq rfl) (hb hby at_66) (fun _ _ => ⟨rfl, e2q, (by decide : 0 + 0 ≤ _), (by decide : 0 + 0 ≤ _)⟩)
    dsimp only [Pt.U, Pt.locs, Pt.cells, Pt.slots] at X3 l3 y3 z3 st3 hQ3
    subst l3 y3 z3
    obtain ⟨r3, rfl, N3q, e3q, hr3⟩ := hQ3
    have N3 := Fr.app N2 N3q
    refine Ends.go st3 ?_
    show Ends p e below s T3 (mkF m 69 #[.val (.int p0), .val (.int p1), .val (.int p2), .val (.int p3), .val (.int s4), .val (.int s5), .val (.int s6), .val (.int s7), .val (.int r1), .val (.int r2), .unset, .unset, .unset, .unset, .unset, .unset, .unset, .unset, .unset, .unset] [(.int r3)]) _ _ _
    refine Ends.go (fun _ k => XS.istore X3.here hx rfl (hb hby at_69) rfl (l' := #[.val (.int p0), .val (.int p1), .val (.int p2), .val (.int p3), .val (.int s4), .val (.int s5), .val (.int s6), .val (.int s7), .val (.int r1), .val (.int r2), .val (.int r3), .unset, .unset, .unset, .unset, .unset, .unset, .unset, .unset, .unset]) rfl k) ?_
    show Ends p e below s T3 (mkF m 71 #[.val (.int p0), .val (.int p1), .val (.int p2), .val (.int p3), .val (.int s4), .val (.int s5), .val (.int s6), .val (.int s7), .val (.int r1), .val (.int r2), .val (.int r3), .unset, .unset, .unset, .unset, .unset, .unset, .unset, .unset, .unset] []) _ _ _
    refine Ends.go (fun _ k => XS.iload X3.here hx rfl (hb hby at_71) rfl k) ?_
    show Ends p e below s T3 (mkF m 73 #[.val (.int p0), .val (.int p1), .val (.int p2), .val (.int p3), .val (.int s4), .val (.int s5), .val (.int s6), .val (.int s7), .val (.int r1), .val (.int r2), .val (.int r3), .unset, .unset, .unset, .unset, .unset, .unset, .unset, .unset, .unset] [(.int s6)]) _ _ _
    by_cases hc73_4 : s6 = (0 : Int32)
    · refine Ends.go (fun _ k => XS.ifYes X3.here hx rfl (pc0 := 73) (pc' := 81) rfl (hb hby at_73) rfl ((if0 _ _).trans (teq hc73_4).1) (by decide) (by decide) k) ?_
      show Ends p e below s T3 (mkF m 81 #[.val (.int p0), .val (.int p1), .val (.int p2), .val (.int p3), .val (.int s4), .val (.int s5), .val (.int s6), .val (.int s7), .val (.int r1), .val (.int r2), .val (.int r3), .unset, .unset, .unset, .unset, .unset, .unset, .unset, .unset, .unset] []) _ _ _
      refine Ends.go (fun _ k => XS.bipush X3.here hx rfl (hb hby at_81) k) ?_
      show Ends p e below s T3 (mkF m 83 #[.val (.int p0), .val (.int p1), .val (.int p2), .val (.int p3), .val (.int s4), .val (.int s5), .val (.int s6), .val (.int s7), .val (.int r1), .val (.int r2), .val (.int r3), .unset, .unset, .unset, .unset, .unset, .unset, .unset, .unset, .unset] [(.int (35 : Int32))]) _ _ _
      refine Ends.go (fun _ k => XS.istore X3.here hx rfl (hb hby at_83) rfl (l' := #[.val (.int p0), .val (.int p1), .val (.int p2), .val (.int p3), .val (.int s4), .val (.int s5), .val (.int s6), .val (.int s7), .val (.int r1), .val (.int r2), .val (.int r3), .val (.int (35 : Int32)), .unset, .unset, .unset, .unset, .unset, .unset, .unset, .unset]) rfl k) ?_
      show Ends p e below s T3 (mkF m 85 #[.val (.int p0), .val (.int p1), .val (.int p2), .val (.int p3), .val (.int s4), .val (.int s5), .val (.int s6), .val (.int s7), .val (.int r1), .val (.int r2), .val (.int r3), .val (.int (35 : Int32)), .unset, .unset, .unset, .unset, .unset, .unset, .unset, .unset] []) _ _ _
      refine Ends.go (fun _ k => XS.bipush X3.here hx rfl (hb hby at_85) k) ?_
      show Ends p e below s T3 (mkF m 87 #[.val (.int p0), .val (.int p1), .val (.int p2), .val (.int p3), .val (.int s4), .val (.int s5), .val (.int s6), .val (.int s7), .val (.int r1), .val (.int r2), .val (.int r3), .val (.int (35 : Int32)), .unset, .unset, .unset, .unset, .unset, .unset, .unset, .unset] [(.int (6 : Int32))]) _ _ _
      obtain ⟨T5, h5, k5, X5, e5, E5, A5, st5⟩ := newP X3 hx hZ (hw _ (List.mem_of_getElem? (i := 5) rfl)) e3q (g := (mkF m 87 #[.val (.int p0), .val (.int p1), .val (.int p2), .val (.int p3), .val (.int s4), .val (.int s5), .val (.int s6), .val (.int s7), .val (.int r1), .val (.int r2), .val (.int r3), .val (.int (35 : Int32)), .unset, .unset, .unset, .unset, .unset, .unset, .unset, .unset] [(.int (6 : Int32))])) rfl (hb hby at_87) rfl (by decide) (cap := 6) (by decide) (by decide) (by decide) (by decide)
      obtain ⟨b5, g5⟩ : ∃ z, z = h0.size := ⟨_, rfl⟩
      rw [← g5] at A5 st5
      refine Ends.go st5 ?_
      have g_b5 : n0 ≤ b5 := Nat.le_trans (own_old_le O0) (Nat.le_of_eq g5.symm)
      have sz_b5 : h0.size ≤ b5 := Nat.le_trans K0.1 (Nat.le_of_eq g5.symm)
      have K5 := K0.ext E5
      have O5 := O0.ext E5
      have V_b5 : Arv Z h5 b5 k5 .char (6 : Int32) [(.int (0 : Int32)), (.int (0 : Int32)), (.int (0 : Int32)), (.int (0 : Int32)), (.int (0 : Int32)), (.int (0 : Int32))] (.int (0 : Int32)) := (Arv.new A5 (by decide)).pad (pad_rep [] (.int (0 : Int32)) 6)
      show Ends p e below s T5 (mkF m 89 #[.val (.int p0), .val (.int p1), .val (.int p2), .val (.int p3), .val (.int s4), .val (.int s5), .val (.int s6), .val (.int s7), .val (.int r1), .val (.int r2), .val (.int r3), .val (.int (35 : Int32)), .unset, .unset, .unset, .unset, .unset, .unset, .unset, .unset] [(.ref b5)]) _ _ _
      refine Ends.go (fun _ k => XS.astore X5.here hx rfl (hb hby at_89) rfl rfl (l' := #[.val (.int p0), .val (.int p1), .val (.int p2), .val (.int p3), .val (.int s4), .val (.int s5), .val (.int s6), .val (.int s7), .val (.int r1), .val (.int r2), .val (.int r3), .val (.int (35 : Int32)), .val (.ref b5), .unset, .unset, .unset, .unset, .unset, .unset, .unset]) rfl k) ?_
      show Ends p e below s T5 (mkF m 91 #[.val (.int p0), .val (.int p1), .val (.int p2), .val (.int p3), .val (.int s4), .val (.int s5), .val (.int s6), .val (.int s7), .val (.int r1), .val (.int r2), .val (.int r3), .val (.int (35 : Int32)), .val (.ref b5), .unset, .unset, .unset, .unset, .unset, .unset, .unset] []) _ _ _
      refine Ends.go (fun _ k => XS.iconst X5.here hx rfl (hb hby at_91) k) ?_
      show Ends p e below s T5 (mkF m 92 #[.val (.int p0), .val (.int p1), .val (.int p2), .val (.int p3), .val (.int s4), .val (.int s5), .val (.int s6), .val (.int s7), .val (.int r1), .val (.int r2), .val (.int r3), .val (.int (35 : Int32)), .val (.ref b5), .unset, .unset, .unset, .unset, .unset, .unset, .unset] [(.int (-1 : Int32))]) _ _ _
      refine Ends.go (fun _ k => XS.istore X5.here hx rfl (hb hby at_92) rfl (l' := #[.val (.int p0), .val (.int p1), .val (.int p2), .val (.int p3), .val (.int s4), .val (.int s5), .val (.int s6), .val (.int s7), .val (.int r1), .val (.int r2), .val (.int r3), .val (.int (35 : Int32)), .val (.ref b5), .val (.int (-1 : Int32)), .unset, .unset, .unset, .unset, .unset, .unset]) rfl k) ?_
      show Ends p e below s T5 (mkF m 94 #[.val (.int p0), .val (.int p1), .val (.int p2), .val (.int p3), .val (.int s4), .val (.int s5), .val (.int s6), .val (.int s7), .val (.int r1), .val (.int r2), .val (.int r3), .val (.int (35 : Int32)), .val (.ref b5), .val (.int (-1 : Int32)), .unset, .unset, .unset, .unset, .unset, .unset] []) _ _ _
      refine Ends.go (fun _ k => XS.iconst X5.here hx rfl (hb hby at_94) k) ?_
      show Ends p e below s T5 (mkF m 95 #[.val (.int p0), .val (.int p1), .val (.int p2), .val (.int p3), .val (.int s4), .val (.int s5), .val (.int s6), .val (.int s7), .val (.int r1), .val (.int r2), .val (.int r3), .val (.int (35 : Int32)), .val (.ref b5), .val (.int (-1 : Int32)), .unset, .unset, .unset, .unset, .unset, .unset] [(.int (-1 : Int32))]) _ _ _
      refine Ends.go (fun _ k => XS.istore X5.here hx rfl (hb hby at_95) rfl (l' := #[.val (.int p0), .val (.int p1), .val (.int p2), .val (.int p3), .val (.int s4), .val (.int s5), .val (.int s6), .val (.int s7), .val (.int r1), .val (.int r2), .val (.int r3), .val (.int (35 : Int32)), .val (.ref b5), .val (.int (-1 : Int32)), .val (.int (-1 : Int32)), .unset, .unset, .unset, .unset, .unset]) rfl k) ?_
      show Ends p e below s T5 (mkF m 97 #[.val (.int p0), .val (.int p1), .val (.int p2), .val (.int p3), .val (.int s4), .val (.int s5), .val (.int s6), .val (.int s7), .val (.int r1), .val (.int r2), .val (.int r3), .val (.int (35 : Int32)), .val (.ref b5), .val (.int (-1 : Int32)), .val (.int (-1 : Int32)), .unset, .unset, .unset, .unset, .unset] []) _ _ _
      refine Ends.go (fun _ k => XS.iconst X5.here hx rfl (hb hby at_97) k) ?_
      show Ends p e below s T5 (mkF m 98 #[.val (.int p0), .val (.int p1), .val (.int p2), .val (.int p3), .val (.int s4), .val (.int s5), .val (.int s6), .val (.int s7), .val (.int r1), .val (.int r2), .val (.int r3), .val (.int (35 : Int32)), .val (.ref b5), .val (.int (-1 : Int32)), .val (.int (-1 : Int32)), .unset, .unset, .unset, .unset, .unset] [(.int (-1 : Int32))]) _ _ _
      refine Ends.go (fun _ k => XS.istore X5.here hx rfl (hb hby at_98) rfl (l' := #[.val (.int p0), .val (.int p1), .val (.int p2), .val (.int p3), .val (.int s4), .val (.int s5), .val (.int s6), .val (.int s7), .val (.int r1), .val (.int r2), .val (.int r3), .val (.int (35 : Int32)), .val (.ref b5), .val (.int (-1 : Int32)), .val (.int (-1 : Int32)), .val (.int (-1 : Int32)), .unset, .unset, .unset, .unset]) rfl k) ?_
      show Ends p e below s T5 (mkF m 100 #[.val (.int p0), .val (.int p1), .val (.int p2), .val (.int p3), .val (.int s4), .val (.int s5), .val (.int s6), .val (.int s7), .val (.int r1), .val (.int r2), .val (.int r3), .val (.int (35 : Int32)), .val (.ref b5), .val (.int (-1 : Int32)), .val (.int (-1 : Int32)), .val (.int (-1 : Int32)), .unset, .unset, .unset, .unset] []) _ _ _
      refine Ends.go (fun _ k => XS.iconst X5.here hx rfl (hb hby at_100) k) ?_
      show Ends p e below s T5 (mkF m 101 #[.val (.int p0), .val (.int p1), .val (.int p2), .val (.int p3), .val (.int s4), .val (.int s5), .val (.int s6), .val (.int s7), .val (.int r1), .val (.int r2), .val (.int r3), .val (.int (35 : Int32)), .val (.ref b5), .val (.int (-1 : Int32)), .val (.int (-1 : Int32)), .val (.int (-1 : Int32)), .unset, .unset, .unset, .unset] [(.int (0 : Int32))]) _ _ _
      refine Ends.go (fun _ k => XS.istore X5.here hx rfl (hb hby at_101) rfl (l' := #[.val (.int p0), .val (.int p1), .val (.int p2), .val (.int p3), .val (.int s4), .val (.int s5), .val (.int s6), .val (.int s7), .val (.int r1), .val (.int r2), .val (.int r3), .val (.int (35 : Int32)), .val (.ref b5), .val (.int (-1 : Int32)), .val (.int (-1 : Int32)), .val (.int (-1 : Int32)), .val (.int (0 : Int32)), .unset, .unset, .unset]) rfl k) ?_
      show Ends p e below s T5 (mkF m 103 #[.val (.int p0), .val (.int p1), .val (.int p2), .val (.int p3), .val (.int s4), .val (.int s5), .val (.int s6), .val (.int s7), .val (.int r1), .val (.int r2), .val (.int r3), .val (.int (35 : Int32)), .val (.ref b5), .val (.int (-1 : Int32)), .val (.int (-1 : Int32)), .val (.int (-1 : Int32)), .val (.int (0 : Int32)), .unset, .unset, .unset] []) _ _ _
      refine Ends.go (fun _ k => XS.iconst X5.here hx rfl (hb hby at_103) k) ?_
      show Ends p e below s T5 (mkF m 104 #[.val (.int p0), .val (.int p1), .val (.int p2), .val (.int p3), .val (.int s4), .val (.int s5), .val (.int s6), .val (.int s7), .val (.int r1), .val (.int r2), .val (.int r3), .val (.int (35 : Int32)), .val (.ref b5), .val (.int (-1 : Int32)), .val (.int (-1 : Int32)), .val (.int (-1 : Int32)), .val (.int (0 : Int32)), .unset, .unset, .unset] [(.int (5 : Int32))]) _ _ _
      refine Ends.go (fun _ k => XS.istore X5.here hx rfl (hb hby at_104) rfl (l' := #[.val (.int p0), .val (.int p1), .val (.int p2), .val (.int p3), .val (.int s4), .val (.int s5), .val (.int s6), .val (.int s7), .val (.int r1), .val (.int r2), .val (.int r3), .val (.int (35 : Int32)), .val (.ref b5), .val (.int (-1 : Int32)), .val (.int (-1 : Int32)), .val (.int (-1 : Int32)), .val (.int (0 : Int32)), .val (.int (5 : Int32)), .unset, .unset]) rfl k) ?_
      show Ends p e below s T5 (mkF m 106 #[.val (.int p0), .val (.int p1), .val (.int p2), .val (.int p3), .val (.int s4), .val (.int s5), .val (.int s6), .val (.int s7), .val (.int r1), .val (.int r2), .val (.int r3), .val (.int (35 : Int32)), .val (.ref b5), .val (.int (-1 : Int32)), .val (.int (-1 : Int32)), .val (.int (-1 : Int32)), .val (.int (0 : Int32)), .val (.int (5 : Int32)), .unset, .unset] []) _ _ _
      refine Ends.go (fun _ k => XS.iload X5.here hx rfl (hb hby at_106) rfl k) ?_
      show Ends p e below s T5 (mkF m 108 #[.val (.int p0), .val (.int p1), .val (.int p2), .val (.int p3), .val (.int s4), .val (.int s5), .val (.int s6), .val (.int s7), .val (.int r1), .val (.int r2), .val (.int r3), .val (.int (35 : Int32)), .val (.ref b5), .val (.int (-1 : Int32)), .val (.int (-1 : Int32)), .val (.int (-1 : Int32)), .val (.int (0 : Int32)), .val (.int (5 : Int32)), .unset, .unset] [(.int s4)]) _ _ _
      by_cases hc108_6 : s4 = (0 : Int32)
      · refine Ends.go (fun _ k => XS.ifYes X5.here hx rfl (pc0 := 108) (pc' := 244) rfl (hb hby at_108) rfl ((if0 _ _).trans (teq hc108_6).1) (by decide) (by decide) k) ?_
        show Ends p e below s T5 (mkF m 244 #[.val (.int p0), .val (.int p1), .val (.int p2), .val (.int p3), .val (.int s4), .val (.int s5), .val (.int s6), .val (.int s7), .val (.int r1), .val (.int r2), .val (.int r3), .val (.int (35 : Int32)), .val (.ref b5), .val (.int (-1 : Int32)), .val (.int (-1 : Int32)), .val (.int (-1 : Int32)), .val (.int (0 : Int32)), .val (.int (5 : Int32)), .unset, .unset] []) _ _ _
        refine Ends.go (fun _ k => XS.iload X5.here hx rfl (hb hby at_244) rfl k) ?_
        show Ends p e below s T5 (mkF m 246 #[.val (.int p0), .val (.int p1), .val (.int p2), .val (.int p3), .val (.int s4), .val (.int s5), .val (.int s6), .val (.int s7), .val (.int r1), .val (.int r2), .val (.int r3), .val (.int (35 : Int32)), .val (.ref b5), .val (.int (-1 : Int32)), .val (.int (-1 : Int32)), .val (.int (-1 : Int32)), .val (.int (0 : Int32)), .val (.int (5 : Int32)), .unset, .unset] [(.int s5)]) _ _ _
        by_cases hc246_7 : s5 = (0 : Int32)
        · refine Ends.go (fun _ k => XS.ifYes X5.here hx rfl (pc0 := 246) (pc' := 291) rfl (hb hby at_246) rfl ((if0 _ _).trans (teq hc246_7).1) (by decide) (by decide) k) ?_
          show Ends p e below s T5 (mkF m 291 #[.val (.int p0), .val (.int p1), .val (.int p2), .val (.int p3), .val (.int s4), .val (.int s5), .val (.int s6), .val (.int s7), .val (.int r1), .val (.int r2), .val (.int r3), .val (.int (35 : Int32)), .val (.ref b5), .val (.int (-1 : Int32)), .val (.int (-1 : Int32)), .val (.int (-1 : Int32)), .val (.int (0 : Int32)), .val (.int (5 : Int32)), .unset, .unset] []) _ _ _
          refine Ends.go (fun _ k => XS.aload X5.here hx rfl (hb hby at_291) rfl rfl k) ?_
          show Ends p e below s T5 (mkF m 293 #[.val (.int p0), .val (.int p1), .val (.int p2), .val (.int p3), .val (.int s4), .val (.int s5), .val (.int s6), .val (.int s7), .val (.int r1), .val (.int r2), .val (.int r3), .val (.int (35 : Int32)), .val (.ref b5), .val (.int (-1 : Int32)), .val (.int (-1 : Int32)), .val (.int (-1 : Int32)), .val (.int (0 : Int32)), .val (.int (5 : Int32)), .unset, .unset] [(.ref b5)]) _ _ _
          refine Ends.go (fun _ k => XS.iconst X5.here hx rfl (hb hby at_293) k) ?_
          show Ends p e below s T5 (mkF m 294 #[.val (.int p0), .val (.int p1), .val (.int p2), .val (.int p3), .val (.int s4), .val (.int s5), .val (.int s6), .val (.int s7), .val (.int r1), .val (.int r2), .val (.int r3), .val (.int (35 : Int32)), .val (.ref b5), .val (.int (-1 : Int32)), .val (.int (-1 : Int32)), .val (.int (-1 : Int32)), .val (.int (0 : Int32)), .val (.int (5 : Int32)), .unset, .unset] [(.int (0 : Int32)), (.ref b5)]) _ _ _
          refine Ends.go (fun _ k => XS.bipush X5.here hx rfl (hb hby at_294) k) ?_
          show Ends p e below s T5 (mkF m 296 #[.val (.int p0), .val (.int p1), .val (.int p2), .val (.int p3), .val (.int s4), .val (.int s5), .val (.int s6), .val (.int s7), .val (.int r1), .val (.int r2), .val (.int r3), .val (.int (35 : Int32)), .val (.ref b5), .val (.int (-1 : Int32)), .val (.int (-1 : Int32)), .val (.int (-1 : Int32)), .val (.int (0 : Int32)), .val (.int (5 : Int32)), .unset, .unset] [(.int (47 : Int32)), (.int (0 : Int32)), (.ref b5)]) _ _ _
          obtain ⟨cl8, Ar8, q8, S8, M8, H8, G8⟩ := id V_b5
          have hin8 := inb_of (j := (0 : Int32)) S8 ⟨by decide, by decide⟩
          obtain ⟨T8, h8, X8, e8, W8, st8⟩ := stC X5 hx hZ e5 Ar8 (j := (0 : Int32)) hin8 (g := (mkF m 296 #[.val (.int p0), .val (.int p1), .val (.int p2), .val (.int p3), .val (.int s4), .val (.int s5), .val (.int s6), .val (.int s7), .val (.int r1), .val (.int r2), .val (.int r3), .val (.int (35 : Int32)), .val (.ref b5), .val (.int (-1 : Int32)), .val (.int (-1 : Int32)), .val (.int (-1 : Int32)), .val (.int (0 : Int32)), .val (.int (5 : Int32)), .unset, .unset] [(.int (47 : Int32)), (.int (0 : Int32)), (.ref b5)])) rfl rfl (hb hby at_296)
          refine Ends.go st8 ?_
          have V8 : Arv Z h8 b5 k5 .char (6 : Int32) [(.int (47 : Int32)), (.int (0 : Int32)), (.int (0 : Int32)), (.int (0 : Int32)), (.int (0 : Int32)), (.int (0 : Int32))] (.int (0 : Int32)) := Arv.set Ar8 q8 S8 M8 H8 G8 rfl W8 0 rfl (Nat.le_of_ble_eq_true rfl)
          have K8 := K5.wr W8 (Or.inr sz_b5)
          have O8 := O5.wr W8 g_b5
          have N8 := Fr.snoc X8 N3 g_b5
          show Ends p e below s T8 (mkF m 297 #[.val (.int p0), .val (.int p1), .val (.int p2), .val (.int p3), .val (.int s4), .val (.int s5), .val (.int s6), .val (.int s7), .val (.int r1), .val (.int r2), .val (.int r3), .val (.int (35 : Int32)), .val (.ref b5), .val (.int (-1 : Int32)), .val (.int (-1 : Int32)), .val (.int (-1 : Int32)), .val (.int (0 : Int32)), .val (.int (5 : Int32)), .unset, .unset] []) _ _ _
          refine Ends.go (fun _ k => XS.aload X8.here hx rfl (hb hby at_297) rfl rfl k) ?_
          show Ends p e below s T8 (mkF m 299 #[.val (.int p0), .val (.int p1), .val (.int p2), .val (.int p3), .val (.int s4), .val (.int s5), .val (.int s6), .val (.int s7), .val (.int r1), .val (.int r2), .val (.int r3), .val (.int (35 : Int32)), .val (.ref b5), .val (.int (-1 : Int32)), .val (.int (-1 : Int32)), .val (.int (-1 : Int32)), .val (.int (0 : Int32)), .val (.int (5 : Int32)), .unset, .unset] [(.ref b5)]) _ _ _
          refine Ends.go (fun _ k => XS.iconst X8.here hx rfl (hb hby at_299) k) ?_
          show Ends p e below s T8 (mkF m 300 #[.val (.int p0), .val (.int p1), .val (.int p2), .val (.int p3), .val (.int s4), .val (.int s5), .val (.int s6), .val (.int s7), .val (.int r1), .val (.int r2), .val (.int r3), .val (.int (35 : Int32)), .val (.ref b5), .val (.int (-1 : Int32)), .val (.int (-1 : Int32)), .val (.int (-1 : Int32)), .val (.int (0 : Int32)), .val (.int (5 : Int32)), .unset, .unset] [(.int (1 : Int32)), (.ref b5)]) _ _ _
          refine Ends.go (fun _ k => XS.iload X8.here hx rfl (hb hby at_300) rfl k) ?_
          show Ends p e below s T8 (mkF m 302 #[.val (.int p0), .val (.int p1), .val (.int p2), .val (.int p3), .val (.int s4), .val (.int s5), .val (.int s6), .val (.int s7), .val (.int r1), .val (.int r2), .val (.int r3), .val (.int (35 : Int32)), .val (.ref b5), .val (.int (-1 : Int32)), .val (.int (-1 : Int32)), .val (.int (-1 : Int32)), .val (.int (0 : Int32)), .val (.int (5 : Int32)), .unset, .unset] [(.int r1), (.int (1 : Int32)), (.ref b5)]) _ _ _
          obtain ⟨cl9, Ar9, q9, S9, M9, H9, G9⟩ := id V8
          have hin9 := inb_of (j := (1 : Int32)) S9 ⟨by decide, by decide⟩
          obtain ⟨T9, h9, X9, e9, W9, st9⟩ := stC X8 hx hZ e8 Ar9 (j := (1 : Int32)) hin9 (g := (mkF m 302 #[.val (.int p0), .val (.int p1), .val (.int p2), .val (.int p3), .val (.int s4), .val (.int s5), .val (.int s6), .val (.int s7), .val (.int r1), .val (.int r2), .val (.int r3), .val (.int (35 : Int32)), .val (.ref b5), .val (.int (-1 : Int32)), .val (.int (-1 : Int32)), .val (.int (-1 : Int32)), .val (.int (0 : Int32)), .val (.int (5 : Int32)), .unset, .unset] [(.int r1), (.int (1 : Int32)), (.ref b5)])) rfl rfl (hb hby at_302)
          refine Ends.go st9 ?_
          have V9 : Arv Z h9 b5 k5 .char (6 : Int32) [(.int (47 : Int32)), (.int (nar .char r1)), (.int (0 : Int32)), (.int (0 : Int32)), (.int (0 : Int32)), (.int (0 : Int32))] (.int (0 : Int32)) := Arv.set Ar9 q9 S9 M9 H9 G9 (fits_nar_char _) W9 1 rfl (Nat.le_of_ble_eq_true rfl)
          have K9 := K8.wr W9 (Or.inr sz_b5)
          have O9 := O8.wr W9 g_b5
          have N9 := Fr.snoc X9 N8 g_b5
          show Ends p e below s T9 (mkF m 303 #[.val (.int p0), .val (.int p1), .val (.int p2), .val (.int p3), .val (.int s4), .val (.int s5), .val (.int s6), .val (.int s7), .val (.int r1), .val (.int r2), .val (.int r3), .val (.int (35 : Int32)), .val (.ref b5), .val (.int (-1 : Int32)), .val (.int (-1 : Int32)), .val (.int (-1 : Int32)), .val (.int (0 : Int32)), .val (.int (5 : Int32)), .unset, .unset] []) _ _ _
          refine Ends.go (fun _ k => XS.aload X9.here hx rfl (hb hby at_303) rfl rfl k) ?_
          show Ends p e below s T9 (mkF m 305 #[.val (.int p0), .val (.int p1), .val (.int p2), .val (.int p3), .val (.int s4), .val (.int s5), .val (.int s6), .val (.int s7), .val (.int r1), .val (.int r2), .val (.int r3), .val (.int (35 : Int32)), .val (.ref b5), .val (.int (-1 : Int32)), .val (.int (-1 : Int32)), .val (.int (-1 : Int32)), .val (.int (0 : Int32)), .val (.int (5 : Int32)), .unset, .unset] [(.ref b5)]) _ _ _
          refine Ends.go (fun _ k => XS.iconst X9.here hx rfl (hb hby at_305) k) ?_
          show Ends p e below s T9 (mkF m 306 #[.val (.int p0), .val (.int p1), .val (.int p2), .val (.int p3), .val (.int s4), .val (.int s5), .val (.int s6), .val (.int s7), .val (.int r1), .val (.int r2), .val (.int r3), .val (.int (35 : Int32)), .val (.ref b5), .val (.int (-1 : Int32)), .val (.int (-1 : Int32)), .val (.int (-1 : Int32)), .val (.int (0 : Int32)), .val (.int (5 : Int32)), .unset, .unset] [(.int (2 : Int32)), (.ref b5)]) _ _ _
          refine Ends.go (fun _ k => XS.iload X9.here hx rfl (hb hby at_306) rfl k) ?_
          show Ends p e below s T9 (mkF m 308 #[.val (.int p0), .val (.int p1), .val (.int p2), .val (.int p3), .val (.int s4), .val (.int s5), .val (.int s6), .val (.int s7), .val (.int r1), .val (.int r2), .val (.int r3), .val (.int (35 : Int32)), .val (.ref b5), .val (.int (-1 : Int32)), .val (.int (-1 : Int32)), .val (.int (-1 : Int32)), .val (.int (0 : Int32)), .val (.int (5 : Int32)), .unset, .unset] [(.int r2), (.int (2 : Int32)), (.ref b5)]) _ _ _
          obtain ⟨cl10, Ar10, q10, S10, M10, H10, G10⟩ := id V9
          have hin10 := inb_of (j := (2 : Int32)) S10 ⟨by decide, by decide⟩
          obtain ⟨T10, h10, X10, e10, W10, st10⟩ := stC X9 hx hZ e9 Ar10 (j := (2 : Int32)) hin10 (g := (mkF m 308 #[.val (.int p0), .val (.int p1), .val (.int p2), .val (.int p3), .val (.int s4), .val (.int s5), .val (.int s6), .val (.int s7), .val (.int r1), .val (.int r2), .val (.int r3), .val (.int (35 : Int32)), .val (.ref b5), .val (.int (-1 : Int32)), .val (.int (-1 : Int32)), .val (.int (-1 : Int32)), .val (.int (0 : Int32)), .val (.int (5 : Int32)), .unset, .unset] [(.int r2), (.int (2 : Int32)), (.ref b5)])) rfl rfl (hb hby at_308)
          refine Ends.go st10 ?_
          have V10 : Arv Z h10 b5 k5 .char (6 : Int32) [(.int (47 : Int32)), (.int (nar .char r1)), (.int (nar .char r2)), (.int (0 : Int32)), (.int (0 : Int32)), (.int (0 : Int32))] (.int (0 : Int32)) := Arv.set Ar10 q10 S10 M10 H10 G10 (fits_nar_char _) W10 2 rfl (Nat.le_of_ble_eq_true rfl)
          have K10 := K9.wr W10 (Or.inr sz_b5)
          have O10 := O9.wr W10 g_b5
          have N10 := Fr.snoc X10 N9 g_b5
          show Ends p e below s T10 (mkF m 309 #[.val (.int p0), .val (.int p1), .val (.int p2), .val (.int p3), .val (.int s4), .val (.int s5), .val (.int s6), .val (.int s7), .val (.int r1), .val (.int r2), .val (.int r3), .val (.int (35 : Int32)), .val (.ref b5), .val (.int (-1 : Int32)), .val (.int (-1 : Int32)), .val (.int (-1 : Int32)), .val (.int (0 : Int32)), .val (.int (5 : Int32)), .unset, .unset] []) _ _ _
          refine Ends.go (fun _ k => XS.aload X10.here hx rfl (hb hby at_309) rfl rfl k) ?_
          show Ends p e below s T10 (mkF m 311 #[.val (.int p0), .val (.int p1), .val (.int p2), .val (.int p3), .val (.int s4), .val (.int s5), .val (.int s6), .val (.int s7), .val (.int r1), .val (.int r2), .val (.int r3), .val (.int (35 : Int32)), .val (.ref b5), .val (.int (-1 : Int32)), .val (.int (-1 : Int32)), .val (.int (-1 : Int32)), .val (.int (0 : Int32)), .val (.int (5 : Int32)), .unset, .unset] [(.ref b5)]) _ _ _
          refine Ends.go (fun _ k => XS.iconst X10.here hx rfl (hb hby at_311) k) ?_
          show Ends p e below s T10 (mkF m 312 #[.val (.int p0), .val (.int p1), .val (.int p2), .val (.int p3), .val (.int s4), .val (.int s5), .val (.int s6), .val (.int s7), .val (.int r1), .val (.int r2), .val (.int r3), .val (.int (35 : Int32)), .val (.ref b5), .val (.int (-1 : Int32)), .val (.int (-1 : Int32)), .val (.int (-1 : Int32)), .val (.int (0 : Int32)), .val (.int (5 : Int32)), .unset, .unset] [(.int (3 : Int32)), (.ref b5)]) _ _ _
          refine Ends.go (fun _ k => XS.bipush X10.here hx rfl (hb hby at_312) k) ?_
          show Ends p e below s T10 (mkF m 314 #[.val (.int p0), .val (.int p1), .val (.int p2), .val (.int p3), .val (.int s4), .val (.int s5), .val (.int s6), .val (.int s7), .val (.int r1), .val (.int r2), .val (.int r3), .val (.int (35 : Int32)), .val (.ref b5), .val (.int (-1 : Int32)), .val (.int (-1 : Int32)), .val (.int (-1 : Int32)), .val (.int (0 : Int32)), .val (.int (5 : Int32)), .unset, .unset] [(.int (47 : Int32)), (.int (3 : Int32)), (.ref b5)]) _ _ _
          obtain ⟨cl11, Ar11, q11, S11, M11, H11, G11⟩ := id V10
          have hin11 := inb_of (j := (3 : Int32)) S11 ⟨by decide, by decide⟩
          obtain ⟨T11, h11, X11, e11, W11, st11⟩ := stC X10 hx hZ e10 Ar11 (j := (3 : Int32)) hin11 (g := (mkF m 314 #[.val (.int p0), .val (.int p1), .val (.int p2), .val (.int p3), .val (.int s4), .val (.int s5), .val (.int s6), .val (.int s7), .val (.int r1), .val (.int r2), .val (.int r3), .val (.int (35 : Int32)), .val (.ref b5), .val (.int (-1 : Int32)), .val (.int (-1 : Int32)), .val (.int (-1 : Int32)), .val (.int (0 : Int32)), .val (.int (5 : Int32)), .unset, .unset] [(.int (47 : Int32)), (.int (3 : Int32)), (.ref b5)])) rfl rfl (hb hby at_314)
          refine Ends.go st11 ?_
          have V11 : Arv Z h11 b5 k5 .char (6 : Int32) [(.int (47 : Int32)), (.int (nar .char r1)), (.int (nar .char r2)), (.int (47 : Int32)), (.int (0 : Int32)), (.int (0 : Int32))] (.int (0 : Int32)) := Arv.set Ar11 q11 S11 M11 H11 G11 rfl W11 3 rfl (Nat.le_of_ble_eq_true rfl)
          have K11 := K10.wr W11 (Or.inr sz_b5)
          have O11 := O10.wr W11 g_b5
          have N11 := Fr.snoc X11 N10 g_b5
          show Ends p e below s T11 (mkF m 315 #[.val (.int p0), .val (.int p1), .val (.int p2), .val (.int p3), .val (.int s4), .val (.int s5), .val (.int s6), .val (.int s7), .val (.int r1), .val (.int r2), .val (.int r3), .val (.int (35 : Int32)), .val (.ref b5), .val (.int (-1 : Int32)), .val (.int (-1 : Int32)), .val (.int (-1 : Int32)), .val (.int (0 : Int32)), .val (.int (5 : Int32)), .unset, .unset] []) _ _ _
          refine Ends.go (fun _ k => XS.aload X11.here hx rfl (hb hby at_315) rfl rfl k) ?_
          show Ends p e below s T11 (mkF m 317 #[.val (.int p0), .val (.int p1), .val (.int p2), .val (.int p3), .val (.int s4), .val (.int s5), .val (.int s6), .val (.int s7), .val (.int r1), .val (.int r2), .val (.int r3), .val (.int (35 : Int32)), .val (.ref b5), .val (.int (-1 : Int32)), .val (.int (-1 : Int32)), .val (.int (-1 : Int32)), .val (.int (0 : Int32)), .val (.int (5 : Int32)), .unset, .unset] [(.ref b5)]) _ _ _
          refine Ends.go (fun _ k => XS.iconst X11.here hx rfl (hb hby at_317) k) ?_
          show Ends p e below s T11 (mkF m 318 #[.val (.int p0), .val (.int p1), .val (.int p2), .val (.int p3), .val (.int s4), .val (.int s5), .val (.int s6), .val (.int s7), .val (.int r1), .val (.int r2), .val (.int r3), .val (.int (35 : Int32)), .val (.ref b5), .val (.int (-1 : Int32)), .val (.int (-1 : Int32)), .val (.int (-1 : Int32)), .val (.int (0 : Int32)), .val (.int (5 : Int32)), .unset, .unset] [(.int (4 : Int32)), (.ref b5)]) _ _ _
          refine Ends.go (fun _ k => XS.iload X11.here hx rfl (hb hby at_318) rfl k) ?_
          show Ends p e below s T11 (mkF m 320 #[.val (.int p0), .val (.int p1), .val (.int p2), .val (.int p3), .val (.int s4), .val (.int s5), .val (.int s6), .val (.int s7), .val (.int r1), .val (.int r2), .val (.int r3), .val (.int (35 : Int32)), .val (.ref b5), .val (.int (-1 : Int32)), .val (.int (-1 : Int32)), .val (.int (-1 : Int32)), .val (.int (0 : Int32)), .val (.int (5 : Int32)), .unset, .unset] [(.int r3), (.int (4 : Int32)), (.ref b5)]) _ _ _
          obtain ⟨cl12, Ar12, q12, S12, M12, H12, G12⟩ := id V11
          have hin12 := inb_of (j := (4 : Int32)) S12 ⟨by decide, by decide⟩
          obtain ⟨T12, h12, X12, e12, W12, st12⟩ := stC X11 hx hZ e11 Ar12 (j := (4 : Int32)) hin12 (g := (mkF m 320 #[.val (.int p0), .val (.int p1), .val (.int p2), .val (.int p3), .val (.int s4), .val (.int s5), .val (.int s6), .val (.int s7), .val (.int r1), .val (.int r2), .val (.int r3), .val (.int (35 : Int32)), .val (.ref b5), .val (.int (-1 : Int32)), .val (.int (-1 : Int32)), .val (.int (-1 : Int32)), .val (.int (0 : Int32)), .val (.int (5 : Int32)), .unset, .unset] [(.int r3), (.int (4 : Int32)), (.ref b5)])) rfl rfl (hb hby at_320)
          refine Ends.go st12 ?_
          have V12 : Arv Z h12 b5 k5 .char (6 : Int32) [(.int (47 : Int32)), (.int (nar .char r1)), (.int (nar .char r2)), (.int (47 : Int32)), (.int (nar .char r3)), (.int (0 : Int32))] (.int (0 : Int32)) := Arv.set Ar12 q12 S12 M12 H12 G12 (fits_nar_char _) W12 4 rfl (Nat.le_of_ble_eq_true rfl)
          have K12 := K11.wr W12 (Or.inr sz_b5)
          have O12 := O11.wr W12 g_b5
          have N12 := Fr.snoc X12 N11 g_b5
          show Ends p e below s T12 (mkF m 321 #[.val (.int p0), .val (.int p1), .val (.int p2), .val (.int p3), .val (.int s4), .val (.int s5), .val (.int s6), .val (.int s7), .val (.int r1), .val (.int r2), .val (.int r3), .val (.int (35 : Int32)), .val (.ref b5), .val (.int (-1 : Int32)), .val (.int (-1 : Int32)), .val (.int (-1 : Int32)), .val (.int (0 : Int32)), .val (.int (5 : Int32)), .unset, .unset] []) _ _ _
          refine Ends.go (fun _ k => XS.iconst X12.here hx rfl (hb hby at_321) k) ?_
          show Ends p e below s T12 (mkF m 322 #[.val (.int p0), .val (.int p1), .val (.int p2), .val (.int p3), .val (.int s4), .val (.int s5), .val (.int s6), .val (.int s7), .val (.int r1), .val (.int r2), .val (.int r3), .val (.int (35 : Int32)), .val (.ref b5), .val (.int (-1 : Int32)), .val (.int (-1 : Int32)), .val (.int (-1 : Int32)), .val (.int (0 : Int32)), .val (.int (5 : Int32)), .unset, .unset] [(.int (0 : Int32))]) _ _ _
          refine Ends.go (fun _ k => XS.istore X12.here hx rfl (hb hby at_322) rfl (l' := #[.val (.int p0), .val (.int p1), .val (.int p2), .val (.int p3), .val (.int s4), .val (.int s5), .val (.int s6), .val (.int s7), .val (.int r1), .val (.int r2), .val (.int r3), .val (.int (35 : Int32)), .val (.ref b5), .val (.int (-1 : Int32)), .val (.int (-1 : Int32)), .val (.int (-1 : Int32)), .val (.int (0 : Int32)), .val (.int (5 : Int32)), .unset, .unset]) rfl k) ?_
          show Ends p e below s T12 (mkF m 324 #[.val (.int p0), .val (.int p1), .val (.int p2), .val (.int p3), .val (.int s4), .val (.int s5), .val (.int s6), .val (.int s7), .val (.int r1), .val (.int r2), .val (.int r3), .val (.int (35 : Int32)), .val (.ref b5), .val (.int (-1 : Int32)), .val (.int (-1 : Int32)), .val (.int (-1 : Int32)), .val (.int (0 : Int32)), .val (.int (5 : Int32)), .unset, .unset] []) _ _ _
          refine Ends.go (fun _ k => XS.aload X12.here hx rfl (hb hby at_324) rfl rfl k) ?_
          show Ends p e below s T12 (mkF m 326 #[.val (.int p0), .val (.int p1), .val (.int p2), .val (.int p3), .val (.int s4), .val (.int s5), .val (.int s6), .val (.int s7), .val (.int r1), .val (.int r2), .val (.int r3), .val (.int (35 : Int32)), .val (.ref b5), .val (.int (-1 : Int32)), .val (.int (-1 : Int32)), .val (.int (-1 : Int32)), .val (.int (0 : Int32)), .val (.int (5 : Int32)), .unset, .unset] [(.ref b5)]) _ _ _
          refine Ends.go (fun _ k => XS.iconst X12.here hx rfl (hb hby at_326) k) ?_
          show Ends p e below s T12 (mkF m 327 #[.val (.int p0), .val (.int p1), .val (.int p2), .val (.int p3), .val (.int s4), .val (.int s5), .val (.int s6), .val (.int s7), .val (.int r1), .val (.int r2), .val (.int r3), .val (.int (35 : Int32)), .val (.ref b5), .val (.int (-1 : Int32)), .val (.int (-1 : Int32)), .val (.int (-1 : Int32)), .val (.int (0 : Int32)), .val (.int (5 : Int32)), .unset, .unset] [(.int (5 : Int32)), (.ref b5)]) _ _ _
          refine Ends.go (fun _ k => XS.iload X12.here hx rfl (hb hby at_327) rfl k) ?_
          show Ends p e below s T12 (mkF m 329 #[.val (.int p0), .val (.int p1), .val (.int p2), .val (.int p3), .val (.int s4), .val (.int s5), .val (.int s6), .val (.int s7), .val (.int r1), .val (.int r2), .val (.int r3), .val (.int (35 : Int32)), .val (.ref b5), .val (.int (-1 : Int32)), .val (.int (-1 : Int32)), .val (.int (-1 : Int32)), .val (.int (0 : Int32)), .val (.int (5 : Int32)), .unset, .unset] [(.int (35 : Int32)), (.int (5 : Int32)), (.ref b5)]) _ _ _
          obtain ⟨cl13, Ar13, q13, S13, M13, H13, G13⟩ := id V12
          have hin13 := inb_of (j := (5 : Int32)) S13 ⟨by decide, by decide⟩
          obtain ⟨T13, h13, X13, e13, W13, st13⟩ := stC X12 hx hZ e12 Ar13 (j := (5 : Int32)) hin13 (g := (mkF m 329 #[.val (.int p0), .val (.int p1), .val (.int p2), .val (.int p3), .val (.int s4), .val (.int s5), .val (.int s6), .val (.int s7), .val (.int r1), .val (.int r2), .val (.int r3), .val (.int (35 : Int32)), .val (.ref b5), .val (.int (-1 : Int32)), .val (.int (-1 : Int32)), .val (.int (-1 : Int32)), .val (.int (0 : Int32)), .val (.int (5 : Int32)), .unset, .unset] [(.int (35 : Int32)), (.int (5 : Int32)), (.ref b5)])) rfl rfl (hb hby at_329)
          refine Ends.go st13 ?_
          have V13 : Arv Z h13 b5 k5 .char (6 : Int32) [(.int (47 : Int32)), (.int (nar .char r1)), (.int (nar .char r2)), (.int (47 : Int32)), (.int (nar .char r3)), (.int (35 : Int32))] (.int (0 : Int32)) := Arv.set Ar13 q13 S13 M13 H13 G13 rfl W13 5 rfl (Nat.le_of_ble_eq_true rfl)
          have K13 := K12.wr W13 (Or.inr sz_b5)
          have O13 := O12.wr W13 g_b5
          have N13 := Fr.snoc X13 N12 g_b5
          show Ends p e below s T13 (mkF m 330 #[.val (.int p0), .val (.int p1), .val (.int p2), .val (.int p3), .val (.int s4), .val (.int s5), .val (.int s6), .val (.int s7), .val (.int r1), .val (.int r2), .val (.int r3), .val (.int (35 : Int32)), .val (.ref b5), .val (.int (-1 : Int32)), .val (.int (-1 : Int32)), .val (.int (-1 : Int32)), .val (.int (0 : Int32)), .val (.int (5 : Int32)), .unset, .unset] []) _ _ _
          refine Ends.go (fun _ k => XS.iload X13.here hx rfl (hb hby at_330) rfl k) ?_
          show Ends p e below s T13 (mkF m 332 #[.val (.int p0), .val (.int p1), .val (.int p2), .val (.int p3), .val (.int s4), .val (.int s5), .val (.int s6), .val (.int s7), .val (.int r1), .val (.int r2), .val (.int r3), .val (.int (35 : Int32)), .val (.ref b5), .val (.int (-1 : Int32)), .val (.int (-1 : Int32)), .val (.int (-1 : Int32)), .val (.int (0 : Int32)), .val (.int (5 : Int32)), .unset, .unset] [(.int s6)]) _ _ _
          refine Ends.go (fun _ k => XS.ifYes X13.here hx rfl (pc0 := 332) (pc' := 340) rfl (hb hby at_332) rfl ((if0 _ _).trans (teq (hc73_4 : s6 = (0 : Int32))).1) (by decide) (by decide) k) ?_
          show Ends p e below s T13 (mkF m 340 #[.val (.int p0), .val (.int p1), .val (.int p2), .val (.int p3), .val (.int s4), .val (.int s5), .val (.int s6), .val (.int s7), .val (.int r1), .val (.int r2), .val (.int r3), .val (.int (35 : Int32)), .val (.ref b5), .val (.int (-1 : Int32)), .val (.int (-1 : Int32)), .val (.int (-1 : Int32)), .val (.int (0 : Int32)), .val (.int (5 : Int32)), .unset, .unset] []) _ _ _
          refine Ends.go (fun _ k => XS.iconst X13.here hx rfl (hb hby at_340) k) ?_
          show Ends p e below s T13 (mkF m 341 #[.val (.int p0), .val (.int p1), .val (.int p2), .val (.int p3), .val (.int s4), .val (.int s5), .val (.int s6), .val (.int s7), .val (.int r1), .val (.int r2), .val (.int r3), .val (.int (35 : Int32)), .val (.ref b5), .val (.int (-1 : Int32)), .val (.int (-1 : Int32)), .val (.int (-1 : Int32)), .val (.int (0 : Int32)), .val (.int (5 : Int32)), .unset, .unset] [(.int (5 : Int32))]) _ _ _
          refine Ends.go (fun _ k => XS.istore X13.here hx rfl (hb hby at_341) rfl (l' := #[.val (.int p0), .val (.int p1), .val (.int p2), .val (.int p3), .val (.int s4), .val (.int s5), .val (.int s6), .val (.int s7), .val (.int r1), .val (.int r2), .val (.int r3), .val (.int (35 : Int32)), .val (.ref b5), .val (.int (-1 : Int32)), .val (.int (-1 : Int32)), .val (.int (-1 : Int32)), .val (.int (0 : Int32)), .val (.int (5 : Int32)), .val (.int (5 : Int32)), .unset]) rfl k) ?_
          show Ends p e below s T13 (mkF m 343 #[.val (.int p0), .val (.int p1), .val (.int p2), .val (.int p3), .val (.int s4), .val (.int s5), .val (.int s6), .val (.int s7), .val (.int r1), .val (.int r2), .val (.int r3), .val (.int (35 : Int32)), .val (.ref b5), .val (.int (-1 : Int32)), .val (.int (-1 : Int32)), .val (.int (-1 : Int32)), .val (.int (0 : Int32)), .val (.int (5 : Int32)), .val (.int (5 : Int32)), .unset] []) _ _ _
          obtain ⟨T14, h14, X14, e14, E14, A14, D14, -, st14⟩ := newO X13 hx hZ hown (hw _ (List.mem_of_getElem? (i := 6) rfl)) (hw _ (List.mem_of_getElem? (i := 7) rfl)) (hw _ (List.mem_of_getElem? (i := 8) rfl)) e13 (g := (mkF m 343 #[.val (.int p0), .val (.int p1), .val (.int p2), .val (.int p3), .val (.int s4), .val (.int s5), .val (.int s6), .val (.int s7), .val (.int r1), .val (.int r2), .val (.int r3), .val (.int (35 : Int32)), .val (.ref b5), .val (.int (-1 : Int32)), .val (.int (-1 : Int32)), .val (.int (-1 : Int32)), .val (.int (0 : Int32)), .val (.int (5 : Int32)), .val (.int (5 : Int32)), .unset] [])) rfl (hb hby at_343) (by decide) (by decide)
          obtain ⟨b14, g14⟩ : ∃ z, z = h13.size := ⟨_, rfl⟩
          rw [← g14] at A14 D14 st14
          refine Ends.go st14 ?_
          have ne_b5_b14 : b5 ≠ b14 := Nat.ne_of_lt (Nat.lt_of_lt_of_le V13.lt (Nat.le_of_eq g14.symm))
          have g_b14 : n0 ≤ b14 := Nat.le_trans (own_old_le O13) (Nat.le_of_eq g14.symm)
          have sz_b14 : h0.size ≤ b14 := Nat.le_trans K13.1 (Nat.le_of_eq g14.symm)
          have K14 := K13.ext E14
          have O14 := O13.ext E14
          have F_mText_b14 : Fld Z h14 b14 "com/example/authority/authority/UriReference" "mText" "Ljava/lang/String;" .null := D14 (Or.inr (hw _ (List.mem_of_getElem? (i := 43) rfl))) (ty := (.object "java/lang/String")) (by decide)
          have F_mSchemeEnd_b14 : Fld Z h14 b14 "com/example/authority/authority/UriReference" "mSchemeEnd" "I" (.int (0 : Int32)) := D14 (Or.inr (hw _ (List.mem_of_getElem? (i := 45) rfl))) (ty := .int) (by decide)
          have F_mHostStart_b14 : Fld Z h14 b14 "com/example/authority/authority/UriReference" "mHostStart" "I" (.int (0 : Int32)) := D14 (Or.inr (hw _ (List.mem_of_getElem? (i := 47) rfl))) (ty := .int) (by decide)
          have F_mHostEnd_b14 : Fld Z h14 b14 "com/example/authority/authority/UriReference" "mHostEnd" "I" (.int (0 : Int32)) := D14 (Or.inr (hw _ (List.mem_of_getElem? (i := 49) rfl))) (ty := .int) (by decide)
          have F_mPathStart_b14 : Fld Z h14 b14 "com/example/authority/authority/UriReference" "mPathStart" "I" (.int (0 : Int32)) := D14 (Or.inr (hw _ (List.mem_of_getElem? (i := 51) rfl))) (ty := .int) (by decide)
          have F_mPathEnd_b14 : Fld Z h14 b14 "com/example/authority/authority/UriReference" "mPathEnd" "I" (.int (0 : Int32)) := D14 (Or.inr (hw _ (List.mem_of_getElem? (i := 53) rfl))) (ty := .int) (by decide)
          have F_mQueryEnd_b14 : Fld Z h14 b14 "com/example/authority/authority/UriReference" "mQueryEnd" "I" (.int (0 : Int32)) := D14 (Or.inr (hw _ (List.mem_of_getElem? (i := 55) rfl))) (ty := .int) (by decide)
          show Ends p e below s T14 (mkF m 346 #[.val (.int p0), .val (.int p1), .val (.int p2), .val (.int p3), .val (.int s4), .val (.int s5), .val (.int s6), .val (.int s7), .val (.int r1), .val (.int r2), .val (.int r3), .val (.int (35 : Int32)), .val (.ref b5), .val (.int (-1 : Int32)), .val (.int (-1 : Int32)), .val (.int (-1 : Int32)), .val (.int (0 : Int32)), .val (.int (5 : Int32)), .val (.int (5 : Int32)), .unset] [(.ref b14)]) _ _ _
          refine Ends.go (fun _ k => XS.dup X14.here hx rfl (hb hby at_346) rfl rfl k) ?_
          show Ends p e below s T14 (mkF m 347 #[.val (.int p0), .val (.int p1), .val (.int p2), .val (.int p3), .val (.int s4), .val (.int s5), .val (.int s6), .val (.int s7), .val (.int r1), .val (.int r2), .val (.int r3), .val (.int (35 : Int32)), .val (.ref b5), .val (.int (-1 : Int32)), .val (.int (-1 : Int32)), .val (.int (-1 : Int32)), .val (.int (0 : Int32)), .val (.int (5 : Int32)), .val (.int (5 : Int32)), .unset] [(.ref b14), (.ref b14)]) _ _ _
          obtain ⟨T15, h15, X15, e15, E15, A15, D15, -, st15⟩ := newO X14 hx hZ hown (hw _ (List.mem_of_getElem? (i := 9) rfl)) (hw _ (List.mem_of_getElem? (i := 10) rfl)) (hw _ (List.mem_of_getElem? (i := 11) rfl)) e14 (g := (mkF m 347 #[.val (.int p0), .val (.int p1), .val (.int p2), .val (.int p3), .val (.int s4), .val (.int s5), .val (.int s6), .val (.int s7), .val (.int r1), .val (.int r2), .val (.int r3), .val (.int (35 : Int32)), .val (.ref b5), .val (.int (-1 : Int32)), .val (.int (-1 : Int32)), .val (.int (-1 : Int32)), .val (.int (0 : Int32)), .val (.int (5 : Int32)), .val (.int (5 : Int32)), .unset] [(.ref b14), (.ref b14)])) rfl (hb hby at_347) (by decide) (by decide)
          obtain ⟨b15, g15⟩ : ∃ z, z = h14.size := ⟨_, rfl⟩
          rw [← g15] at A15 D15 st15
          refine Ends.go st15 ?_
          have ne_b5_b15 : b5 ≠ b15 := Nat.ne_of_lt (Nat.lt_of_lt_of_le (V13.ext E14).lt (Nat.le_of_eq g15.symm))
          have ne_b14_b15 : b14 ≠ b15 := Nat.ne_of_lt (Nat.lt_of_lt_of_le A14.lt (Nat.le_of_eq g15.symm))
          have g_b15 : n0 ≤ b15 := Nat.le_trans (own_old_le O14) (Nat.le_of_eq g15.symm)
          have sz_b15 : h0.size ≤ b15 := Nat.le_trans K14.1 (Nat.le_of_eq g15.symm)
          have K15 := K14.ext E15
          have O15 := O14.ext E15
          have F_coder_b15 : Fld Z h15 b15 "java/lang/String" "coder" "B" (.int (0 : Int32)) := D15 (Or.inr (hw _ (List.mem_of_getElem? (i := 35) rfl))) (ty := .byte) (by decide)
          have F_value_b15 : Fld Z h15 b15 "java/lang/String" "value" "[B" .null := D15 (Or.inr (hw _ (List.mem_of_getElem? (i := 37) rfl))) (ty := (.array .byte)) (by decide)
          show Ends p e below s T15 (mkF m 350 #[.val (.int p0), .val (.int p1), .val (.int p2), .val (.int p3), .val (.int s4), .val (.int s5), .val (.int s6), .val (.int s7), .val (.int r1), .val (.int r2), .val (.int r3), .val (.int (35 : Int32)), .val (.ref b5), .val (.int (-1 : Int32)), .val (.int (-1 : Int32)), .val (.int (-1 : Int32)), .val (.int (0 : Int32)), .val (.int (5 : Int32)), .val (.int (5 : Int32)), .unset] [(.ref b15), (.ref b14), (.ref b14)]) _ _ _
          refine Ends.go (fun _ k => XS.dup X15.here hx rfl (hb hby at_350) rfl rfl k) ?_
          show Ends p e below s T15 (mkF m 351 #[.val (.int p0), .val (.int p1), .val (.int p2), .val (.int p3), .val (.int s4), .val (.int s5), .val (.int s6), .val (.int s7), .val (.int r1), .val (.int r2), .val (.int r3), .val (.int (35 : Int32)), .val (.ref b5), .val (.int (-1 : Int32)), .val (.int (-1 : Int32)), .val (.int (-1 : Int32)), .val (.int (0 : Int32)), .val (.int (5 : Int32)), .val (.int (5 : Int32)), .unset] [(.ref b15), (.ref b15), (.ref b14), (.ref b14)]) _ _ _
          refine Ends.go (fun _ k => XS.aload X15.here hx rfl (hb hby at_351) rfl rfl k) ?_
          show Ends p e below s T15 (mkF m 353 #[.val (.int p0), .val (.int p1), .val (.int p2), .val (.int p3), .val (.int s4), .val (.int s5), .val (.int s6), .val (.int s7), .val (.int r1), .val (.int r2), .val (.int r3), .val (.int (35 : Int32)), .val (.ref b5), .val (.int (-1 : Int32)), .val (.int (-1 : Int32)), .val (.int (-1 : Int32)), .val (.int (0 : Int32)), .val (.int (5 : Int32)), .val (.int (5 : Int32)), .unset] [(.ref b5), (.ref b15), (.ref b15), (.ref b14), (.ref b14)]) _ _ _
          have hp16 : ∀ c ∈ ([(47 : Int32), (nar .char r1), (nar .char r2), (47 : Int32), (nar .char r3), (35 : Int32)] : List Int32), ¬ c < 0 ∧ ¬ (255 : Int32) < c := by
            intro c hc
            simp only [List.mem_cons, List.not_mem_nil, or_false] at hc
            rcases hc with rfl | rfl | rfl | rfl | rfl | rfl
            · exact (by decide)
            · exact own_nar hr1
            · exact own_nar hr2
            · exact (by decide)
            · exact own_nar hr3
            · exact (by decide)
          obtain ⟨_, _, ⟨T16, L16, k16, n16⟩, -, X16, ⟨Lc16, hQ16, l16, y16, z16⟩, st16⟩ := X15.specialBack hx (y := (⟨"java/lang/String", "<init>", "([C)V"⟩ : MethodName)) rfl hown (mvT hZ (hw _ (List.mem_of_getElem? (i := 12) rfl))) (mvT hZ (hw _ (List.mem_of_getElem? (i := 13) rfl))) (mvT hZ (hw _ (List.mem_of_getElem? (i := 14) rfl))) (by decide) (StrChars.Road.backV (W := 3) hZ hws (kI := 4) (hw _ (List.mem_of_getElem? (i := 10) rfl)) (cs := ([(47 : Int32), (nar .char r1), (nar .char r2), (47 : Int32), (nar .char r3), (35 : Int32)] : List Int32)) (bs := ([(47 : Int32), (nar .char r1), (nar .char r2), (47 : Int32), (nar .char r3), (35 : Int32)] : List Int32).map (fun c => c.toInt8.toInt32)) (n := 6) g_b15 (own_old_le O15) A15 F_value_b15 F_coder_b15 ((V13.ext E14).ext E15) (O2.ext O15.2) P5 rfl rfl (by decide) (by decide) hp16 rfl (by decide) (by decide)) (g := (mkF m 353 #[.val (.int p0), .val (.int p1), .val (.int p2), .val (.int p3), .val (.int s4), .val (.int s5), .val (.int s6), .val (.int s7), .val (.int r1), .val (.int r2), .val (.int r3), .val (.int (35 : Int32)), .val (.ref b5), .val (.int (-1 : Int32)), .val (.int (-1 : Int32)), .val (.int (-1 : Int32)), .val (.int (0 : Int32)), .val (.int (5 : Int32)), .val (.int (5 : Int32)), .unset] [(.ref b5), (.ref b15), (.ref b15), (.ref b14), (.ref b14)])) rfl (by rw [hml]; rfl) (Steps.refl _) (a := b15) (argsL := [(.ref b5)]) (rest := [(.ref b15), (.ref b14), (.ref b14)]) (lenOf pd0_1 rfl) rfl (by show 2 * 0 + _ ≤ _; exact Nat.le_of_eq rfl) (hb hby at_353) (fun _ _ => ⟨rfl, e15, (by decide : 3 + 1 ≤ _), (by decide : 17 + 6 ≤ _)⟩)
          dsimp only [Pt.U, Pt.locs, Pt.cells, Pt.slots] at X16 l16 y16 z16 st16 hQ16
          subst l16 y16 z16
          obtain ⟨rfl, N16q, K16c, Eq16, Cq16, t16, kb16, -, ht16, ht16', Vq16, Aq16⟩ := hQ16
          have N16 := Fr.app N13 N16q
          refine Ends.go (fun _ k => st16.trans k) ?_
          have ne_b5_t16 : b5 ≠ t16 := Nat.ne_of_lt (Nat.lt_of_lt_of_le ((V13.ext E14).ext E15).lt ht16)
          have ne_b14_t16 : b14 ≠ t16 := Nat.ne_of_lt (Nat.lt_of_lt_of_le (A14.ext E15).lt ht16)
          have ne_b15_t16 : b15 ≠ t16 := Nat.ne_of_lt (Nat.lt_of_lt_of_le A15.lt ht16)
          have g_t16 : n0 ≤ t16 := Nat.le_trans (own_old_le O15) ht16
          have sz_t16 : h0.size ≤ t16 := Nat.le_trans K15.1 ht16
          obtain ⟨h16, e16⟩ : ∃ z, T16.heap = z := ⟨_, rfl⟩
          rw [e16] at K16c Eq16 Cq16 Vq16 Aq16
          have K16 := K15.trans K16c (allS (Or.inr sz_b15) all0)
          have O16 := O15.keep K16c (allS g_b15 all0)
          show Ends p e below s T16 (mkF m 356 #[.val (.int p0), .val (.int p1), .val (.int p2), .val (.int p3), .val (.int s4), .val (.int s5), .val (.int s6), .val (.int s7), .val (.int r1), .val (.int r2), .val (.int r3), .val (.int (35 : Int32)), .val (.ref b5), .val (.int (-1 : Int32)), .val (.int (-1 : Int32)), .val (.int (-1 : Int32)), .val (.int (0 : Int32)), .val (.int (5 : Int32)), .val (.int (5 : Int32)), .unset] [(.ref b15), (.ref b14), (.ref b14)]) _ _ _
          refine Ends.go (fun _ k => XS.iload X16.here hx rfl (hb hby at_356) rfl k) ?_
          show Ends p e below s T16 (mkF m 358 #[.val (.int p0), .val (.int p1), .val (.int p2), .val (.int p3), .val (.int s4), .val (.int s5), .val (.int s6), .val (.int s7), .val (.int r1), .val (.int r2), .val (.int r3), .val (.int (35 : Int32)), .val (.ref b5), .val (.int (-1 : Int32)), .val (.int (-1 : Int32)), .val (.int (-1 : Int32)), .val (.int (0 : Int32)), .val (.int (5 : Int32)), .val (.int (5 : Int32)), .unset] [(.int (-1 : Int32)), (.ref b15), (.ref b14), (.ref b14)]) _ _ _
          refine Ends.go (fun _ k => XS.iload X16.here hx rfl (hb hby at_358) rfl k) ?_
          show Ends p e below s T16 (mkF m 360 #[.val (.int p0), .val (.int p1), .val (.int p2), .val (.int p3), .val (.int s4), .val (.int s5), .val (.int s6), .val (.int s7), .val (.int r1), .val (.int r2), .val (.int r3), .val (.int (35 : Int32)), .val (.ref b5), .val (.int (-1 : Int32)), .val (.int (-1 : Int32)), .val (.int (-1 : Int32)), .val (.int (0 : Int32)), .val (.int (5 : Int32)), .val (.int (5 : Int32)), .unset] [(.int (-1 : Int32)), (.int (-1 : Int32)), (.ref b15), (.ref b14), (.ref b14)]) _ _ _
          refine Ends.go (fun _ k => XS.iload X16.here hx rfl (hb hby at_360) rfl k) ?_
          show Ends p e below s T16 (mkF m 362 #[.val (.int p0), .val (.int p1), .val (.int p2), .val (.int p3), .val (.int s4), .val (.int s5), .val (.int s6), .val (.int s7), .val (.int r1), .val (.int r2), .val (.int r3), .val (.int (35 : Int32)), .val (.ref b5), .val (.int (-1 : Int32)), .val (.int (-1 : Int32)), .val (.int (-1 : Int32)), .val (.int (0 : Int32)), .val (.int (5 : Int32)), .val (.int (5 : Int32)), .unset] [(.int (-1 : Int32)), (.int (-1 : Int32)), (.int (-1 : Int32)), (.ref b15), (.ref b14), (.ref b14)]) _ _ _
          refine Ends.go (fun _ k => XS.iload X16.here hx rfl (hb hby at_362) rfl k) ?_
          show Ends p e below s T16 (mkF m 364 #[.val (.int p0), .val (.int p1), .val (.int p2), .val (.int p3), .val (.int s4), .val (.int s5), .val (.int s6), .val (.int s7), .val (.int r1), .val (.int r2), .val (.int r3), .val (.int (35 : Int32)), .val (.ref b5), .val (.int (-1 : Int32)), .val (.int (-1 : Int32)), .val (.int (-1 : Int32)), .val (.int (0 : Int32)), .val (.int (5 : Int32)), .val (.int (5 : Int32)), .unset] [(.int (0 : Int32)), (.int (-1 : Int32)), (.int (-1 : Int32)), (.int (-1 : Int32)), (.ref b15), (.ref b14), (.ref b14)]) _ _ _
          refine Ends.go (fun _ k => XS.iload X16.here hx rfl (hb hby at_364) rfl k) ?_
          show Ends p e below s T16 (mkF m 366 #[.val (.int p0), .val (.int p1), .val (.int p2), .val (.int p3), .val (.int s4), .val (.int s5), .val (.int s6), .val (.int s7), .val (.int r1), .val (.int r2), .val (.int r3), .val (.int (35 : Int32)), .val (.ref b5), .val (.int (-1 : Int32)), .val (.int (-1 : Int32)), .val (.int (-1 : Int32)), .val (.int (0 : Int32)), .val (.int (5 : Int32)), .val (.int (5 : Int32)), .unset] [(.int (5 : Int32)), (.int (0 : Int32)), (.int (-1 : Int32)), (.int (-1 : Int32)), (.int (-1 : Int32)), (.ref b15), (.ref b14), (.ref b14)]) _ _ _
          refine Ends.go (fun _ k => XS.iload X16.here hx rfl (hb hby at_366) rfl k) ?_
          show Ends p e below s T16 (mkF m 368 #[.val (.int p0), .val (.int p1), .val (.int p2), .val (.int p3), .val (.int s4), .val (.int s5), .val (.int s6), .val (.int s7), .val (.int r1), .val (.int r2), .val (.int r3), .val (.int (35 : Int32)), .val (.ref b5), .val (.int (-1 : Int32)), .val (.int (-1 : Int32)), .val (.int (-1 : Int32)), .val (.int (0 : Int32)), .val (.int (5 : Int32)), .val (.int (5 : Int32)), .unset] [(.int (5 : Int32)), (.int (5 : Int32)), (.int (0 : Int32)), (.int (-1 : Int32)), (.int (-1 : Int32)), (.int (-1 : Int32)), (.ref b15), (.ref b14), (.ref b14)]) _ _ _
          obtain ⟨_, _, ⟨T17, L17, k17, n17⟩, -, X17, ⟨Lc17, hQ17, l17, y17, z17⟩, st17⟩ := X16.specialBack hx (y := (⟨"com/example/authority/authority/UriReference", "<init>", "(Ljava/lang/String;IIIIII)V"⟩ : MethodName)) rfl hown (mvT hZ (hw _ (List.mem_of_getElem? (i := 38) rfl))) (mvT hZ (hw _ (List.mem_of_getElem? (i := 39) rfl))) (mvT hZ (hw _ (List.mem_of_getElem? (i := 40) rfl))) (by decide) (own_backOf (W := 1) (rmI l Z a0 hw [] n0 h16 O16 b14 b15 (-1 : Int32) (-1 : Int32) (-1 : Int32) (0 : Int32) (5 : Int32) (5 : Int32) g_b14 ((A14.ext E15).keep K16c) ((F_mText_b14.ext E15).keep K16c (ninS ne_b14_b15 nin0)) ((F_mSchemeEnd_b14.ext E15).keep K16c (ninS ne_b14_b15 nin0)) ((F_mHostStart_b14.ext E15).keep K16c (ninS ne_b14_b15 nin0)) ((F_mHostEnd_b14.ext E15).keep K16c (ninS ne_b14_b15 nin0)) ((F_mPathStart_b14.ext E15).keep K16c (ninS ne_b14_b15 nin0)) ((F_mPathEnd_b14.ext E15).keep K16c (ninS ne_b14_b15 nin0)) ((F_mQueryEnd_b14.ext E15).keep K16c (ninS ne_b14_b15 nin0))) hZ (hw _ (List.mem_of_getElem? (i := 40) rfl)) (hw _ (List.mem_of_getElem? (i := 8) rfl)) (by decide) (by decide)) (g := (mkF m 368 #[.val (.int p0), .val (.int p1), .val (.int p2), .val (.int p3), .val (.int s4), .val (.int s5), .val (.int s6), .val (.int s7), .val (.int r1), .val (.int r2), .val (.int r3), .val (.int (35 : Int32)), .val (.ref b5), .val (.int (-1 : Int32)), .val (.int (-1 : Int32)), .val (.int (-1 : Int32)), .val (.int (0 : Int32)), .val (.int (5 : Int32)), .val (.int (5 : Int32)), .unset] [(.int (5 : Int32)), (.int (5 : Int32)), (.int (0 : Int32)), (.int (-1 : Int32)), (.int (-1 : Int32)), (.int (-1 : Int32)), (.ref b15), (.ref b14), (.ref b14)])) rfl (by rw [hml]; rfl) (Steps.refl _) (a := b14) (argsL := [(.ref b15), (.int (-1 : Int32)), (.int (-1 : Int32)), (.int (-1 : Int32)), (.int (0 : Int32)), (.int (5 : Int32)), (.int (5 : Int32))]) (rest := [(.ref b14)]) (lenOf pd0_2 rfl) rfl (by show 2 * 0 + _ ≤ _; exact Nat.le_of_eq rfl) (hb hby at_368) (fun _ _ => ⟨rfl, e16, (by decide : 4 + 0 ≤ _), (by decide : 23 + 0 ≤ _)⟩)
          dsimp only [Pt.U, Pt.locs, Pt.cells, Pt.slots] at X17 l17 y17 z17 st17 hQ17
          subst l17 y17 z17
          obtain ⟨rfl, N17q, K17c, Eq17, Fq17_mText, Fq17_mSchemeEnd, Fq17_mHostStart, Fq17_mHostEnd, Fq17_mPathStart, Fq17_mPathEnd, Fq17_mQueryEnd⟩ := hQ17
          have N17 := Fr.app N16 N17q
          refine Ends.go (fun _ k => st17.trans k) ?_
          obtain ⟨h17, e17⟩ : ∃ z, T17.heap = z := ⟨_, rfl⟩
          rw [e17] at K17c Eq17 Fq17_mText Fq17_mSchemeEnd Fq17_mHostStart Fq17_mHostEnd Fq17_mPathStart Fq17_mPathEnd Fq17_mQueryEnd
          have K17 := K16.trans K17c (allS (Or.inr sz_b14) all0)
          have O17 := O16.keep K17c (allS g_b14 all0)
          show Ends p e below s T17 (mkF m 371 #[.val (.int p0), .val (.int p1), .val (.int p2), .val (.int p3), .val (.int s4), .val (.int s5), .val (.int s6), .val (.int s7), .val (.int r1), .val (.int r2), .val (.int r3), .val (.int (35 : Int32)), .val (.ref b5), .val (.int (-1 : Int32)), .val (.int (-1 : Int32)), .val (.int (-1 : Int32)), .val (.int (0 : Int32)), .val (.int (5 : Int32)), .val (.int (5 : Int32)), .unset] [(.ref b14)]) _ _ _
          refine Ends.go (fun _ k => XS.astore X17.here hx rfl (hb hby at_371) rfl rfl (l' := #[.val (.int p0), .val (.int p1), .val (.int p2), .val (.int p3), .val (.int s4), .val (.int s5), .val (.int s6), .val (.int s7), .val (.int r1), .val (.int r2), .val (.int r3), .val (.int (35 : Int32)), .val (.ref b5), .val (.int (-1 : Int32)), .val (.int (-1 : Int32)), .val (.int (-1 : Int32)), .val (.int (0 : Int32)), .val (.int (5 : Int32)), .val (.int (5 : Int32)), .val (.ref b14)]) rfl k) ?_
          show Ends p e below s T17 (mkF m 373 #[.val (.int p0), .val (.int p1), .val (.int p2), .val (.int p3), .val (.int s4), .val (.int s5), .val (.int s6), .val (.int s7), .val (.int r1), .val (.int r2), .val (.int r3), .val (.int (35 : Int32)), .val (.ref b5), .val (.int (-1 : Int32)), .val (.int (-1 : Int32)), .val (.int (-1 : Int32)), .val (.int (0 : Int32)), .val (.int (5 : Int32)), .val (.int (5 : Int32)), .val (.ref b14)] []) _ _ _
          refine Ends.go (fun _ k => XS.aload X17.here hx rfl (hb hby at_373) rfl rfl k) ?_
          show Ends p e below s T17 (mkF m 375 #[.val (.int p0), .val (.int p1), .val (.int p2), .val (.int p3), .val (.int s4), .val (.int s5), .val (.int s6), .val (.int s7), .val (.int r1), .val (.int r2), .val (.int r3), .val (.int (35 : Int32)), .val (.ref b5), .val (.int (-1 : Int32)), .val (.int (-1 : Int32)), .val (.int (-1 : Int32)), .val (.int (0 : Int32)), .val (.int (5 : Int32)), .val (.int (5 : Int32)), .val (.ref b14)] [(.ref b14)]) _ _ _
          obtain ⟨cq18, kq18, q18a, q18b, q18c⟩ := isOf hZ e17 Eq17
          obtain ⟨_, _, ⟨T18, L18, k18, n18⟩, -, X18, ⟨Lc18, hQ18, l18, y18, z18⟩, st18⟩ := X17.virtualBack hx (y := (⟨"com/example/authority/authority/UriReference", "isUri", "()Z"⟩ : MethodName)) (z := (⟨"com/example/authority/authority/UriReference", "isUri", "()Z"⟩ : MethodName)) hown (mvT hZ (hw _ (List.mem_of_getElem? (i := 56) rfl))) (mvT hZ (hw _ (List.mem_of_getElem? (i := 57) rfl))) (notFace_of_selects (args := #[]) (mvT hZ (hw _ (List.mem_of_getElem? (i := 59) rfl)))) (mvT hZ (hw _ (List.mem_of_getElem? (i := 59) rfl))) (mvT hZ (hw _ (List.mem_of_getElem? (i := 58) rfl))) (by decide) (own_backOf (W := 0) (rmQ l Z a0 hw [] n0 h17 O17 b14 (-1 : Int32) Fq17_mSchemeEnd (0 : Int32) (by decide)) hZ (hw _ (List.mem_of_getElem? (i := 60) rfl)) (hw _ (List.mem_of_getElem? (i := 8) rfl)) (by decide) (by decide)) q18a q18c (g := (mkF m 375 #[.val (.int p0), .val (.int p1), .val (.int p2), .val (.int p3), .val (.int s4), .val (.int s5), .val (.int s6), .val (.int s7), .val (.int r1), .val (.int r2), .val (.int r3), .val (.int (35 : Int32)), .val (.ref b5), .val (.int (-1 : Int32)), .val (.int (-1 : Int32)), .val (.int (-1 : Int32)), .val (.int (0 : Int32)), .val (.int (5 : Int32)), .val (.int (5 : Int32)), .val (.ref b14)] [(.ref b14)])) rfl (by rw [hml]; rfl) (Steps.refl _) (argsL := []) (rest := []) (lenOf pd0_3 rfl) rfl (by show 2 * 0 + _ ≤ _; exact Nat.le_of_eq rfl) (hb hby at_375) (fun _ _ => ⟨rfl, e17, (by decide : 4 + 0 ≤ _), (by decide : 23 + 0 ≤ _)⟩)
          dsimp only [Pt.U, Pt.locs, Pt.cells, Pt.slots] at X18 l18 y18 z18 st18 hQ18
          subst l18 y18 z18
          obtain ⟨rfl, N18q, e18q⟩ := hQ18
          have N18 := Fr.app N17 N18q
          refine Ends.go (fun _ k => st18.trans k) ?_
          show Ends p e below s T18 (mkF m 378 #[.val (.int p0), .val (.int p1), .val (.int p2), .val (.int p3), .val (.int s4), .val (.int s5), .val (.int s6), .val (.int s7), .val (.int r1), .val (.int r2), .val (.int r3), .val (.int (35 : Int32)), .val (.ref b5), .val (.int (-1 : Int32)), .val (.int (-1 : Int32)), .val (.int (-1 : Int32)), .val (.int (0 : Int32)), .val (.int (5 : Int32)), .val (.int (5 : Int32)), .val (.ref b14)] [(.int (0 : Int32))]) _ _ _
          refine Ends.go (fun _ k => XS.iload X18.here hx rfl (hb hby at_378) rfl k) ?_
          show Ends p e below s T18 (mkF m 380 #[.val (.int p0), .val (.int p1), .val (.int p2), .val (.int p3), .val (.int s4), .val (.int s5), .val (.int s6), .val (.int s7), .val (.int r1), .val (.int r2), .val (.int r3), .val (.int (35 : Int32)), .val (.ref b5), .val (.int (-1 : Int32)), .val (.int (-1 : Int32)), .val (.int (-1 : Int32)), .val (.int (0 : Int32)), .val (.int (5 : Int32)), .val (.int (5 : Int32)), .val (.ref b14)] [(.int s4), (.int (0 : Int32))]) _ _ _
          refine Ends.go (fun _ k => XS.icmpNo X18.here hx rfl (hb hby at_380) rfl (teq ((by rw [hc108_6]) : (0 : Int32) = s4)).2 k) ?_
          show Ends p e below s T18 (mkF m 383 #[.val (.int p0), .val (.int p1), .val (.int p2), .val (.int p3), .val (.int s4), .val (.int s5), .val (.int s6), .val (.int s7), .val (.int r1), .val (.int r2), .val (.int r3), .val (.int (35 : Int32)), .val (.ref b5), .val (.int (-1 : Int32)), .val (.int (-1 : Int32)), .val (.int (-1 : Int32)), .val (.int (0 : Int32)), .val (.int (5 : Int32)), .val (.int (5 : Int32)), .val (.ref b14)] []) _ _ _
          refine Ends.go (fun _ k => XS.iconst X18.here hx rfl (hb hby at_383) k) ?_
          show Ends p e below s T18 (mkF m 384 #[.val (.int p0), .val (.int p1), .val (.int p2), .val (.int p3), .val (.int s4), .val (.int s5), .val (.int s6), .val (.int s7), .val (.int r1), .val (.int r2), .val (.int r3), .val (.int (35 : Int32)), .val (.ref b5), .val (.int (-1 : Int32)), .val (.int (-1 : Int32)), .val (.int (-1 : Int32)), .val (.int (0 : Int32)), .val (.int (5 : Int32)), .val (.int (5 : Int32)), .val (.ref b14)] [(.int (1 : Int32))]) _ _ _
          refine Ends.go (fun _ k => XS.goto X18.here hx rfl (pc0 := 384) (pc' := 388) rfl (hb hby at_384) (by decide) (by decide) k) ?_
          show Ends p e below s T18 (mkF m 388 #[.val (.int p0), .val (.int p1), .val (.int p2), .val (.int p3), .val (.int s4), .val (.int s5), .val (.int s6), .val (.int s7), .val (.int r1), .val (.int r2), .val (.int r3), .val (.int (35 : Int32)), .val (.ref b5), .val (.int (-1 : Int32)), .val (.int (-1 : Int32)), .val (.int (-1 : Int32)), .val (.int (0 : Int32)), .val (.int (5 : Int32)), .val (.int (5 : Int32)), .val (.ref b14)] [(.int (1 : Int32))]) _ _ _
          refine Ends.retZ X18 hx Bd.notSynchronized (t := .boolean) Bd.returns (by simp) (hb hby at_388) (by decide) (by decide) ?_
          exact ⟨rfl, N18⟩
        · refine Ends.go (fun _ k => XS.ifNo X5.here hx rfl (hb hby at_246) rfl ((if0 _ _).trans (feq hc246_7).1) k) ?_
          show Ends p e below s T5 (mkF m 249 #[.val (.int p0), .val (.int p1), .val (.int p2), .val (.int p3), .val (.int s4), .val (.int s5), .val (.int s6), .val (.int s7), .val (.int r1), .val (.int r2), .val (.int r3), .val (.int (35 : Int32)), .val (.ref b5), .val (.int (-1 : Int32)), .val (.int (-1 : Int32)), .val (.int (-1 : Int32)), .val (.int (0 : Int32)), .val (.int (5 : Int32)), .unset, .unset] []) _ _ _
          refine Ends.go (fun _ k => XS.aload X5.here hx rfl (hb hby at_249) rfl rfl k) ?_
          show Ends p e below s T5 (mkF m 251 #[.val (.int p0), .val (.int p1), .val (.int p2), .val (.int p3), .val (.int s4), .val (.int s5), .val (.int s6), .val (.int s7), .val (.int r1), .val (.int r2), .val (.int r3), .val (.int (35 : Int32)), .val (.ref b5), .val (.int (-1 : Int32)), .val (.int (-1 : Int32)), .val (.int (-1 : Int32)), .val (.int (0 : Int32)), .val (.int (5 : Int32)), .unset, .unset] [(.ref b5)]) _ _ _
          refine Ends.go (fun _ k => XS.iconst X5.here hx rfl (hb hby at_251) k) ?_
          show Ends p e below s T5 (mkF m 252 #[.val (.int p0), .val (.int p1), .val (.int p2), .val (.int p3), .val (.int s4), .val (.int s5), .val (.int s6), .val (.int s7), .val (.int r1), .val (.int r2), .val (.int r3), .val (.int (35 : Int32)), .val (.ref b5), .val (.int (-1 : Int32)), .val (.int (-1 : Int32)), .val (.int (-1 : Int32)), .val (.int (0 : Int32)), .val (.int (5 : Int32)), .unset, .unset] [(.int (0 : Int32)), (.ref b5)]) _ _ _
          refine Ends.go (fun _ k => XS.bipush X5.here hx rfl (hb hby at_252) k) ?_
          show Ends p e below s T5 (mkF m 254 #[.val (.int p0), .val (.int p1), .val (.int p2), .val (.int p3), .val (.int s4), .val (.int s5), .val (.int s6), .val (.int s7), .val (.int r1), .val (.int r2), .val (.int r3), .val (.int (35 : Int32)), .val (.ref b5), .val (.int (-1 : Int32)), .val (.int (-1 : Int32)), .val (.int (-1 : Int32)), .val (.int (0 : Int32)), .val (.int (5 : Int32)), .unset, .unset] [(.int (47 : Int32)), (.int (0 : Int32)), (.ref b5)]) _ _ _
          obtain ⟨cl19, Ar19, q19, S19, M19, H19, G19⟩ := id V_b5
          have hin19 := inb_of (j := (0 : Int32)) S19 ⟨by decide, by decide⟩
          obtain ⟨T19, h19, X19, e19, W19, st19⟩ := stC X5 hx hZ e5 Ar19 (j := (0 : Int32)) hin19 (g := (mkF m 254 #[.val (.int p0), .val (.int p1), .val (.int p2), .val (.int p3), .val (.int s4), .val (.int s5), .val (.int s6), .val (.int s7), .val (.int r1), .val (.int r2), .val (.int r3), .val (.int (35 : Int32)), .val (.ref b5), .val (.int (-1 : Int32)), .val (.int (-1 : Int32)), .val (.int (-1 : Int32)), .val (.int (0 : Int32)), .val (.int (5 : Int32)), .unset, .unset] [(.int (47 : Int32)), (.int (0 : Int32)), (.ref b5)])) rfl rfl (hb hby at_254)
          refine Ends.go st19 ?_
          have V19 : Arv Z h19 b5 k5 .char (6 : Int32) [(.int (47 : Int32)), (.int (0 : Int32)), (.int (0 : Int32)), (.int (0 : Int32)), (.int (0 : Int32)), (.int (0 : Int32))] (.int (0 : Int32)) := Arv.set Ar19 q19 S19 M19 H19 G19 rfl W19 0 rfl (Nat.le_of_ble_eq_true rfl)
          have K19 := K5.wr W19 (Or.inr sz_b5)
          have O19 := O5.wr W19 g_b5
          have N19 := Fr.snoc X19 N3 g_b5
          show Ends p e below s T19 (mkF m 255 #[.val (.int p0), .val (.int p1), .val (.int p2), .val (.int p3), .val (.int s4), .val (.int s5), .val (.int s6), .val (.int s7), .val (.int r1), .val (.int r2), .val (.int r3), .val (.int (35 : Int32)), .val (.ref b5), .val (.int (-1 : Int32)), .val (.int (-1 : Int32)), .val (.int (-1 : Int32)), .val (.int (0 : Int32)), .val (.int (5 : Int32)), .unset, .unset] []) _ _ _
          refine Ends.go (fun _ k => XS.aload X19.here hx rfl (hb hby at_255) rfl rfl k) ?_
          show Ends p e below s T19 (mkF m 257 #[.val (.int p0), .val (.int p1), .val (.int p2), .val (.int p3), .val (.int s4), .val (.int s5), .val (.int s6), .val (.int s7), .val (.int r1), .val (.int r2), .val (.int r3), .val (.int (35 : Int32)), .val (.ref b5), .val (.int (-1 : Int32)), .val (.int (-1 : Int32)), .val (.int (-1 : Int32)), .val (.int (0 : Int32)), .val (.int (5 : Int32)), .unset, .unset] [(.ref b5)]) _ _ _
          refine Ends.go (fun _ k => XS.iconst X19.here hx rfl (hb hby at_257) k) ?_
          show Ends p e below s T19 (mkF m 258 #[.val (.int p0), .val (.int p1), .val (.int p2), .val (.int p3), .val (.int s4), .val (.int s5), .val (.int s6), .val (.int s7), .val (.int r1), .val (.int r2), .val (.int r3), .val (.int (35 : Int32)), .val (.ref b5), .val (.int (-1 : Int32)), .val (.int (-1 : Int32)), .val (.int (-1 : Int32)), .val (.int (0 : Int32)), .val (.int (5 : Int32)), .unset, .unset] [(.int (1 : Int32)), (.ref b5)]) _ _ _
          refine Ends.go (fun _ k => XS.bipush X19.here hx rfl (hb hby at_258) k) ?_
          show Ends p e below s T19 (mkF m 260 #[.val (.int p0), .val (.int p1), .val (.int p2), .val (.int p3), .val (.int s4), .val (.int s5), .val (.int s6), .val (.int s7), .val (.int r1), .val (.int r2), .val (.int r3), .val (.int (35 : Int32)), .val (.ref b5), .val (.int (-1 : Int32)), .val (.int (-1 : Int32)), .val (.int (-1 : Int32)), .val (.int (0 : Int32)), .val (.int (5 : Int32)), .unset, .unset] [(.int (47 : Int32)), (.int (1 : Int32)), (.ref b5)]) _ _ _
          obtain ⟨cl20, Ar20, q20, S20, M20, H20, G20⟩ := id V19
          have hin20 := inb_of (j := (1 : Int32)) S20 ⟨by decide, by decide⟩
          obtain ⟨T20, h20, X20, e20, W20, st20⟩ := stC X19 hx hZ e19 Ar20 (j := (1 : Int32)) hin20 (g := (mkF m 260 #[.val (.int p0), .val (.int p1), .val (.int p2), .val (.int p3), .val (.int s4), .val (.int s5), .val (.int s6), .val (.int s7), .val (.int r1), .val (.int r2), .val (.int r3), .val (.int (35 : Int32)), .val (.ref b5), .val (.int (-1 : Int32)), .val (.int (-1 : Int32)), .val (.int (-1 : Int32)), .val (.int (0 : Int32)), .val (.int (5 : Int32)), .unset, .unset] [(.int (47 : Int32)), (.int (1 : Int32)), (.ref b5)])) rfl rfl (hb hby at_260)
          refine Ends.go st20 ?_
          have V20 : Arv Z h20 b5 k5 .char (6 : Int32) [(.int (47 : Int32)), (.int (47 : Int32)), (.int (0 : Int32)), (.int (0 : Int32)), (.int (0 : Int32)), (.int (0 : Int32))] (.int (0 : Int32)) := Arv.set Ar20 q20 S20 M20 H20 G20 rfl W20 1 rfl (Nat.le_of_ble_eq_true rfl)
          have K20 := K19.wr W20 (Or.inr sz_b5)
          have O20 := O19.wr W20 g_b5
          have N20 := Fr.snoc X20 N19 g_b5
          show Ends p e below s T20 (mkF m 261 #[.val (.int p0), .val (.int p1), .val (.int p2), .val (.int p3), .val (.int s4), .val (.int s5), .val (.int s6), .val (.int s7), .val (.int r1), .val (.int r2), .val (.int r3), .val (.int (35 : Int32)), .val (.ref b5), .val (.int (-1 : Int32)), .val (.int (-1 : Int32)), .val (.int (-1 : Int32)), .val (.int (0 : Int32)), .val (.int (5 : Int32)), .unset, .unset] []) _ _ _
          refine Ends.go (fun _ k => XS.aload X20.here hx rfl (hb hby at_261) rfl rfl k) ?_
          show Ends p e below s T20 (mkF m 263 #[.val (.int p0), .val (.int p1), .val (.int p2), .val (.int p3), .val (.int s4), .val (.int s5), .val (.int s6), .val (.int s7), .val (.int r1), .val (.int r2), .val (.int r3), .val (.int (35 : Int32)), .val (.ref b5), .val (.int (-1 : Int32)), .val (.int (-1 : Int32)), .val (.int (-1 : Int32)), .val (.int (0 : Int32)), .val (.int (5 : Int32)), .unset, .unset] [(.ref b5)]) _ _ _
          refine Ends.go (fun _ k => XS.iconst X20.here hx rfl (hb hby at_263) k) ?_
          show Ends p e below s T20 (mkF m 264 #[.val (.int p0), .val (.int p1), .val (.int p2), .val (.int p3), .val (.int s4), .val (.int s5), .val (.int s6), .val (.int s7), .val (.int r1), .val (.int r2), .val (.int r3), .val (.int (35 : Int32)), .val (.ref b5), .val (.int (-1 : Int32)), .val (.int (-1 : Int32)), .val (.int (-1 : Int32)), .val (.int (0 : Int32)), .val (.int (5 : Int32)), .unset, .unset] [(.int (2 : Int32)), (.ref b5)]) _ _ _
          refine Ends.go (fun _ k => XS.iload X20.here hx rfl (hb hby at_264) rfl k) ?_
          show Ends p e below s T20 (mkF m 266 #[.val (.int p0), .val (.int p1), .val (.int p2), .val (.int p3), .val (.int s4), .val (.int s5), .val (.int s6), .val (.int s7), .val (.int r1), .val (.int r2), .val (.int r3), .val (.int (35 : Int32)), .val (.ref b5), .val (.int (-1 : Int32)), .val (.int (-1 : Int32)), .val (.int (-1 : Int32)), .val (.int (0 : Int32)), .val (.int (5 : Int32)), .unset, .unset] [(.int r1), (.int (2 : Int32)), (.ref b5)]) _ _ _
          obtain ⟨cl21, Ar21, q21, S21, M21, H21, G21⟩ := id V20
          have hin21 := inb_of (j := (2 : Int32)) S21 ⟨by decide, by decide⟩
          obtain ⟨T21, h21, X21, e21, W21, st21⟩ := stC X20 hx hZ e20 Ar21 (j := (2 : Int32)) hin21 (g := (mkF m 266 #[.val (.int p0), .val (.int p1), .val (.int p2), .val (.int p3), .val (.int s4), .val (.int s5), .val (.int s6), .val (.int s7), .val (.int r1), .val (.int r2), .val (.int r3), .val (.int (35 : Int32)), .val (.ref b5), .val (.int (-1 : Int32)), .val (.int (-1 : Int32)), .val (.int (-1 : Int32)), .val (.int (0 : Int32)), .val (.int (5 : Int32)), .unset, .unset] [(.int r1), (.int (2 : Int32)), (.ref b5)])) rfl rfl (hb hby at_266)
          refine Ends.go st21 ?_
          have V21 : Arv Z h21 b5 k5 .char (6 : Int32) [(.int (47 : Int32)), (.int (47 : Int32)), (.int (nar .char r1)), (.int (0 : Int32)), (.int (0 : Int32)), (.int (0 : Int32))] (.int (0 : Int32)) := Arv.set Ar21 q21 S21 M21 H21 G21 (fits_nar_char _) W21 2 rfl (Nat.le_of_ble_eq_true rfl)
          have K21 := K20.wr W21 (Or.inr sz_b5)
          have O21 := O20.wr W21 g_b5
          have N21 := Fr.snoc X21 N20 g_b5
          show Ends p e below s T21 (mkF m 267 #[.val (.int p0), .val (.int p1), .val (.int p2), .val (.int p3), .val (.int s4), .val (.int s5), .val (.int s6), .val (.int s7), .val (.int r1), .val (.int r2), .val (.int r3), .val (.int (35 : Int32)), .val (.ref b5), .val (.int (-1 : Int32)), .val (.int (-1 : Int32)), .val (.int (-1 : Int32)), .val (.int (0 : Int32)), .val (.int (5 : Int32)), .unset, .unset] []) _ _ _
          refine Ends.go (fun _ k => XS.aload X21.here hx rfl (hb hby at_267) rfl rfl k) ?_
          show Ends p e below s T21 (mkF m 269 #[.val (.int p0), .val (.int p1), .val (.int p2), .val (.int p3), .val (.int s4), .val (.int s5), .val (.int s6), .val (.int s7), .val (.int r1), .val (.int r2), .val (.int r3), .val (.int (35 : Int32)), .val (.ref b5), .val (.int (-1 : Int32)), .val (.int (-1 : Int32)), .val (.int (-1 : Int32)), .val (.int (0 : Int32)), .val (.int (5 : Int32)), .unset, .unset] [(.ref b5)]) _ _ _
          refine Ends.go (fun _ k => XS.iconst X21.here hx rfl (hb hby at_269) k) ?_
          show Ends p e below s T21 (mkF m 270 #[.val (.int p0), .val (.int p1), .val (.int p2), .val (.int p3), .val (.int s4), .val (.int s5), .val (.int s6), .val (.int s7), .val (.int r1), .val (.int r2), .val (.int r3), .val (.int (35 : Int32)), .val (.ref b5), .val (.int (-1 : Int32)), .val (.int (-1 : Int32)), .val (.int (-1 : Int32)), .val (.int (0 : Int32)), .val (.int (5 : Int32)), .unset, .unset] [(.int (3 : Int32)), (.ref b5)]) _ _ _
          refine Ends.go (fun _ k => XS.bipush X21.here hx rfl (hb hby at_270) k) ?_
          show Ends p e below s T21 (mkF m 272 #[.val (.int p0), .val (.int p1), .val (.int p2), .val (.int p3), .val (.int s4), .val (.int s5), .val (.int s6), .val (.int s7), .val (.int r1), .val (.int r2), .val (.int r3), .val (.int (35 : Int32)), .val (.ref b5), .val (.int (-1 : Int32)), .val (.int (-1 : Int32)), .val (.int (-1 : Int32)), .val (.int (0 : Int32)), .val (.int (5 : Int32)), .unset, .unset] [(.int (47 : Int32)), (.int (3 : Int32)), (.ref b5)]) _ _ _
          obtain ⟨cl22, Ar22, q22, S22, M22, H22, G22⟩ := id V21
          have hin22 := inb_of (j := (3 : Int32)) S22 ⟨by decide, by decide⟩
          obtain ⟨T22, h22, X22, e22, W22, st22⟩ := stC X21 hx hZ e21 Ar22 (j := (3 : Int32)) hin22 (g := (mkF m 272 #[.val (.int p0), .val (.int p1), .val (.int p2), .val (.int p3), .val (.int s4), .val (.int s5), .val (.int s6), .val (.int s7), .val (.int r1), .val (.int r2), .val (.int r3), .val (.int (35 : Int32)), .val (.ref b5), .val (.int (-1 : Int32)), .val (.int (-1 : Int32)), .val (.int (-1 : Int32)), .val (.int (0 : Int32)), .val (.int (5 : Int32)), .unset, .unset] [(.int (47 : Int32)), (.int (3 : Int32)), (.ref b5)])) rfl rfl (hb hby at_272)
          refine Ends.go st22 ?_
          have V22 : Arv Z h22 b5 k5 .char (6 : Int32) [(.int (47 : Int32)), (.int (47 : Int32)), (.int (nar .char r1)), (.int (47 : Int32)), (.int (0 : Int32)), (.int (0 : Int32))] (.int (0 : Int32)) := Arv.set Ar22 q22 S22 M22 H22 G22 rfl W22 3 rfl (Nat.le_of_ble_eq_true rfl)
          have K22 := K21.wr W22 (Or.inr sz_b5)
          have O22 := O21.wr W22 g_b5
          have N22 := Fr.snoc X22 N21 g_b5
          show Ends p e below s T22 (mkF m 273 #[.val (.int p0), .val (.int p1), .val (.int p2), .val (.int p3), .val (.int s4), .val (.int s5), .val (.int s6), .val (.int s7), .val (.int r1), .val (.int r2), .val (.int r3), .val (.int (35 : Int32)), .val (.ref b5), .val (.int (-1 : Int32)), .val (.int (-1 : Int32)), .val (.int (-1 : Int32)), .val (.int (0 : Int32)), .val (.int (5 : Int32)), .unset, .unset] []) _ _ _
          refine Ends.go (fun _ k => XS.aload X22.here hx rfl (hb hby at_273) rfl rfl k) ?_
          show Ends p e below s T22 (mkF m 275 #[.val (.int p0), .val (.int p1), .val (.int p2), .val (.int p3), .val (.int s4), .val (.int s5), .val (.int s6), .val (.int s7), .val (.int r1), .val (.int r2), .val (.int r3), .val (.int (35 : Int32)), .val (.ref b5), .val (.int (-1 : Int32)), .val (.int (-1 : Int32)), .val (.int (-1 : Int32)), .val (.int (0 : Int32)), .val (.int (5 : Int32)), .unset, .unset] [(.ref b5)]) _ _ _
          refine Ends.go (fun _ k => XS.iconst X22.here hx rfl (hb hby at_275) k) ?_
          show Ends p e below s T22 (mkF m 276 #[.val (.int p0), .val (.int p1), .val (.int p2), .val (.int p3), .val (.int s4), .val (.int s5), .val (.int s6), .val (.int s7), .val (.int r1), .val (.int r2), .val (.int r3), .val (.int (35 : Int32)), .val (.ref b5), .val (.int (-1 : Int32)), .val (.int (-1 : Int32)), .val (.int (-1 : Int32)), .val (.int (0 : Int32)), .val (.int (5 : Int32)), .unset, .unset] [(.int (4 : Int32)), (.ref b5)]) _ _ _
          refine Ends.go (fun _ k => XS.iload X22.here hx rfl (hb hby at_276) rfl k) ?_
          show Ends p e below s T22 (mkF m 278 #[.val (.int p0), .val (.int p1), .val (.int p2), .val (.int p3), .val (.int s4), .val (.int s5), .val (.int s6), .val (.int s7), .val (.int r1), .val (.int r2), .val (.int r3), .val (.int (35 : Int32)), .val (.ref b5), .val (.int (-1 : Int32)), .val (.int (-1 : Int32)), .val (.int (-1 : Int32)), .val (.int (0 : Int32)), .val (.int (5 : Int32)), .unset, .unset] [(.int r2), (.int (4 : Int32)), (.ref b5)]) _ _ _
          obtain ⟨cl23, Ar23, q23, S23, M23, H23, G23⟩ := id V22
          have hin23 := inb_of (j := (4 : Int32)) S23 ⟨by decide, by decide⟩
          obtain ⟨T23, h23, X23, e23, W23, st23⟩ := stC X22 hx hZ e22 Ar23 (j := (4 : Int32)) hin23 (g := (mkF m 278 #[.val (.int p0), .val (.int p1), .val (.int p2), .val (.int p3), .val (.int s4), .val (.int s5), .val (.int s6), .val (.int s7), .val (.int r1), .val (.int r2), .val (.int r3), .val (.int (35 : Int32)), .val (.ref b5), .val (.int (-1 : Int32)), .val (.int (-1 : Int32)), .val (.int (-1 : Int32)), .val (.int (0 : Int32)), .val (.int (5 : Int32)), .unset, .unset] [(.int r2), (.int (4 : Int32)), (.ref b5)])) rfl rfl (hb hby at_278)
          refine Ends.go st23 ?_
          have V23 : Arv Z h23 b5 k5 .char (6 : Int32) [(.int (47 : Int32)), (.int (47 : Int32)), (.int (nar .char r1)), (.int (47 : Int32)), (.int (nar .char r2)), (.int (0 : Int32))] (.int (0 : Int32)) := Arv.set Ar23 q23 S23 M23 H23 G23 (fits_nar_char _) W23 4 rfl (Nat.le_of_ble_eq_true rfl)
          have K23 := K22.wr W23 (Or.inr sz_b5)
          have O23 := O22.wr W23 g_b5
          have N23 := Fr.snoc X23 N22 g_b5
          show Ends p e below s T23 (mkF m 279 #[.val (.int p0), .val (.int p1), .val (.int p2), .val (.int p3), .val (.int s4), .val (.int s5), .val (.int s6), .val (.int s7), .val (.int r1), .val (.int r2), .val (.int r3), .val (.int (35 : Int32)), .val (.ref b5), .val (.int (-1 : Int32)), .val (.int (-1 : Int32)), .val (.int (-1 : Int32)), .val (.int (0 : Int32)), .val (.int (5 : Int32)), .unset, .unset] []) _ _ _
          refine Ends.go (fun _ k => XS.iconst X23.here hx rfl (hb hby at_279) k) ?_
          show Ends p e below s T23 (mkF m 280 #[.val (.int p0), .val (.int p1), .val (.int p2), .val (.int p3), .val (.int s4), .val (.int s5), .val (.int s6), .val (.int s7), .val (.int r1), .val (.int r2), .val (.int r3), .val (.int (35 : Int32)), .val (.ref b5), .val (.int (-1 : Int32)), .val (.int (-1 : Int32)), .val (.int (-1 : Int32)), .val (.int (0 : Int32)), .val (.int (5 : Int32)), .unset, .unset] [(.int (2 : Int32))]) _ _ _
          refine Ends.go (fun _ k => XS.istore X23.here hx rfl (hb hby at_280) rfl (l' := #[.val (.int p0), .val (.int p1), .val (.int p2), .val (.int p3), .val (.int s4), .val (.int s5), .val (.int s6), .val (.int s7), .val (.int r1), .val (.int r2), .val (.int r3), .val (.int (35 : Int32)), .val (.ref b5), .val (.int (-1 : Int32)), .val (.int (2 : Int32)), .val (.int (-1 : Int32)), .val (.int (0 : Int32)), .val (.int (5 : Int32)), .unset, .unset]) rfl k) ?_
          show Ends p e below s T23 (mkF m 282 #[.val (.int p0), .val (.int p1), .val (.int p2), .val (.int p3), .val (.int s4), .val (.int s5), .val (.int s6), .val (.int s7), .val (.int r1), .val (.int r2), .val (.int r3), .val (.int (35 : Int32)), .val (.ref b5), .val (.int (-1 : Int32)), .val (.int (2 : Int32)), .val (.int (-1 : Int32)), .val (.int (0 : Int32)), .val (.int (5 : Int32)), .unset, .unset] []) _ _ _
          refine Ends.go (fun _ k => XS.iconst X23.here hx rfl (hb hby at_282) k) ?_
          show Ends p e below s T23 (mkF m 283 #[.val (.int p0), .val (.int p1), .val (.int p2), .val (.int p3), .val (.int s4), .val (.int s5), .val (.int s6), .val (.int s7), .val (.int r1), .val (.int r2), .val (.int r3), .val (.int (35 : Int32)), .val (.ref b5), .val (.int (-1 : Int32)), .val (.int (2 : Int32)), .val (.int (-1 : Int32)), .val (.int (0 : Int32)), .val (.int (5 : Int32)), .unset, .unset] [(.int (3 : Int32))]) _ _ _
          refine Ends.go (fun _ k => XS.istore X23.here hx rfl (hb hby at_283) rfl (l' := #[.val (.int p0), .val (.int p1), .val (.int p2), .val (.int p3), .val (.int s4), .val (.int s5), .val (.int s6), .val (.int s7), .val (.int r1), .val (.int r2), .val (.int r3), .val (.int (35 : Int32)), .val (.ref b5), .val (.int (-1 : Int32)), .val (.int (2 : Int32)), .val (.int (3 : Int32)), .val (.int (0 : Int32)), .val (.int (5 : Int32)), .unset, .unset]) rfl k) ?_
          show Ends p e below s T23 (mkF m 285 #[.val (.int p0), .val (.int p1), .val (.int p2), .val (.int p3), .val (.int s4), .val (.int s5), .val (.int s6), .val (.int s7), .val (.int r1), .val (.int r2), .val (.int r3), .val (.int (35 : Int32)), .val (.ref b5), .val (.int (-1 : Int32)), .val (.int (2 : Int32)), .val (.int (3 : Int32)), .val (.int (0 : Int32)), .val (.int (5 : Int32)), .unset, .unset] []) _ _ _
          refine Ends.go (fun _ k => XS.iconst X23.here hx rfl (hb hby at_285) k) ?_
          show Ends p e below s T23 (mkF m 286 #[.val (.int p0), .val (.int p1), .val (.int p2), .val (.int p3), .val (.int s4), .val (.int s5), .val (.int s6), .val (.int s7), .val (.int r1), .val (.int r2), .val (.int r3), .val (.int (35 : Int32)), .val (.ref b5), .val (.int (-1 : Int32)), .val (.int (2 : Int32)), .val (.int (3 : Int32)), .val (.int (0 : Int32)), .val (.int (5 : Int32)), .unset, .unset] [(.int (3 : Int32))]) _ _ _
          refine Ends.go (fun _ k => XS.istore X23.here hx rfl (hb hby at_286) rfl (l' := #[.val (.int p0), .val (.int p1), .val (.int p2), .val (.int p3), .val (.int s4), .val (.int s5), .val (.int s6), .val (.int s7), .val (.int r1), .val (.int r2), .val (.int r3), .val (.int (35 : Int32)), .val (.ref b5), .val (.int (-1 : Int32)), .val (.int (2 : Int32)), .val (.int (3 : Int32)), .val (.int (3 : Int32)), .val (.int (5 : Int32)), .unset, .unset]) rfl k) ?_
          show Ends p e below s T23 (mkF m 288 #[.val (.int p0), .val (.int p1), .val (.int p2), .val (.int p3), .val (.int s4), .val (.int s5), .val (.int s6), .val (.int s7), .val (.int r1), .val (.int r2), .val (.int r3), .val (.int (35 : Int32)), .val (.ref b5), .val (.int (-1 : Int32)), .val (.int (2 : Int32)), .val (.int (3 : Int32)), .val (.int (3 : Int32)), .val (.int (5 : Int32)), .unset, .unset] []) _ _ _
          refine Ends.go (fun _ k => XS.goto X23.here hx rfl (pc0 := 288) (pc' := 324) rfl (hb hby at_288) (by decide) (by decide) k) ?_
          show Ends p e below s T23 (mkF m 324 #[.val (.int p0), .val (.int p1), .val (.int p2), .val (.int p3), .val (.int s4), .val (.int s5), .val (.int s6), .val (.int s7), .val (.int r1), .val (.int r2), .val (.int r3), .val (.int (35 : Int32)), .val (.ref b5), .val (.int (-1 : Int32)), .val (.int (2 : Int32)), .val (.int (3 : Int32)), .val (.int (3 : Int32)), .val (.int (5 : Int32)), .unset, .unset] []) _ _ _
          refine Ends.go (fun _ k => XS.aload X23.here hx rfl (hb hby at_324) rfl rfl k) ?_
          show Ends p e below s T23 (mkF m 326 #[.val (.int p0), .val (.int p1), .val (.int p2), .val (.int p3), .val (.int s4), .val (.int s5), .val (.int s6), .val (.int s7), .val (.int r1), .val (.int r2), .val (.int r3), .val (.int (35 : Int32)), .val (.ref b5), .val (.int (-1 : Int32)), .val (.int (2 : Int32)), .val (.int (3 : Int32)), .val (.int (3 : Int32)), .val (.int (5 : Int32)), .unset, .unset] [(.ref b5)]) _ _ _
          refine Ends.go (fun _ k => XS.iconst X23.here hx rfl (hb hby at_326) k) ?_
          show Ends p e below s T23 (mkF m 327 #[.val (.int p0), .val (.int p1), .val (.int p2), .val (.int p3), .val (.int s4), .val (.int s5), .val (.int s6), .val (.int s7), .val (.int r1), .val (.int r2), .val (.int r3), .val (.int (35 : Int32)), .val (.ref b5), .val (.int (-1 : Int32)), .val (.int (2 : Int32)), .val (.int (3 : Int32)), .val (.int (3 : Int32)), .val (.int (5 : Int32)), .unset, .unset] [(.int (5 : Int32)), (.ref b5)]) _ _ _
          refine Ends.go (fun _ k => XS.iload X23.here hx rfl (hb hby at_327) rfl k) ?_
          show Ends p e below s T23 (mkF m 329 #[.val (.int p0), .val (.int p1), .val (.int p2), .val (.int p3), .val (.int s4), .val (.int s5), .val (.int s6), .val (.int s7), .val (.int r1), .val (.int r2), .val (.int r3), .val (.int (35 : Int32)), .val (.ref b5), .val (.int (-1 : Int32)), .val (.int (2 : Int32)), .val (.int (3 : Int32)), .val (.int (3 : Int32)), .val (.int (5 : Int32)), .unset, .unset] [(.int (35 : Int32)), (.int (5 : Int32)), (.ref b5)]) _ _ _
          obtain ⟨cl24, Ar24, q24, S24, M24, H24, G24⟩ := id V23
          have hin24 := inb_of (j := (5 : Int32)) S24 ⟨by decide, by decide⟩
          obtain ⟨T24, h24, X24, e24, W24, st24⟩ := stC X23 hx hZ e23 Ar24 (j := (5 : Int32)) hin24 (g := (mkF m 329 #[.val (.int p0), .val (.int p1), .val (.int p2), .val (.int p3), .val (.int s4), .val (.int s5), .val (.int s6), .val (.int s7), .val (.int r1), .val (.int r2), .val (.int r3), .val (.int (35 : Int32)), .val (.ref b5), .val (.int (-1 : Int32)), .val (.int (2 : Int32)), .val (.int (3 : Int32)), .val (.int (3 : Int32)), .val (.int (5 : Int32)), .unset, .unset] [(.int (35 : Int32)), (.int (5 : Int32)), (.ref b5)])) rfl rfl (hb hby at_329)
          refine Ends.go st24 ?_
          have V24 : Arv Z h24 b5 k5 .char (6 : Int32) [(.int (47 : Int32)), (.int (47 : Int32)), (.int (nar .char r1)), (.int (47 : Int32)), (.int (nar .char r2)), (.int (35 : Int32))] (.int (0 : Int32)) := Arv.set Ar24 q24 S24 M24 H24 G24 rfl W24 5 rfl (Nat.le_of_ble_eq_true rfl)
          have K24 := K23.wr W24 (Or.inr sz_b5)
          have O24 := O23.wr W24 g_b5
          have N24 := Fr.snoc X24 N23 g_b5
          show Ends p e below s T24 (mkF m 330 #[.val (.int p0), .val (.int p1), .val (.int p2), .val (.int p3), .val (.int s4), .val (.int s5), .val (.int s6), .val (.int s7), .val (.int r1), .val (.int r2), .val (.int r3), .val (.int (35 : Int32)), .val (.ref b5), .val (.int (-1 : Int32)), .val (.int (2 : Int32)), .val (.int (3 : Int32)), .val (.int (3 : Int32)), .val (.int (5 : Int32)), .unset, .unset] []) _ _ _
          refine Ends.go (fun _ k => XS.iload X24.here hx rfl (hb hby at_330) rfl k) ?_
          show Ends p e below s T24 (mkF m 332 #[.val (.int p0), .val (.int p1), .val (.int p2), .val (.int p3), .val (.int s4), .val (.int s5), .val (.int s6), .val (.int s7), .val (.int r1), .val (.int r2), .val (.int r3), .val (.int (35 : Int32)), .val (.ref b5), .val (.int (-1 : Int32)), .val (.int (2 : Int32)), .val (.int (3 : Int32)), .val (.int (3 : Int32)), .val (.int (5 : Int32)), .unset, .unset] [(.int s6)]) _ _ _
          refine Ends.go (fun _ k => XS.ifYes X24.here hx rfl (pc0 := 332) (pc' := 340) rfl (hb hby at_332) rfl ((if0 _ _).trans (teq (hc73_4 : s6 = (0 : Int32))).1) (by decide) (by decide) k) ?_
          show Ends p e below s T24 (mkF m 340 #[.val (.int p0), .val (.int p1), .val (.int p2), .val (.int p3), .val (.int s4), .val (.int s5), .val (.int s6), .val (.int s7), .val (.int r1), .val (.int r2), .val (.int r3), .val (.int (35 : Int32)), .val (.ref b5), .val (.int (-1 : Int32)), .val (.int (2 : Int32)), .val (.int (3 : Int32)), .val (.int (3 : Int32)), .val (.int (5 : Int32)), .unset, .unset] []) _ _ _
          refine Ends.go (fun _ k => XS.iconst X24.here hx rfl (hb hby at_340) k) ?_
          show Ends p e below s T24 (mkF m 341 #[.val (.int p0), .val (.int p1), .val (.int p2), .val (.int p3), .val (.int s4), .val (.int s5), .val (.int s6), .val (.int s7), .val (.int r1), .val (.int r2), .val (.int r3), .val (.int (35 : Int32)), .val (.ref b5), .val (.int (-1 : Int32)), .val (.int (2 : Int32)), .val (.int (3 : Int32)), .val (.int (3 : Int32)), .val (.int (5 : Int32)), .unset, .unset] [(.int (5 : Int32))]) _ _ _
          refine Ends.go (fun _ k => XS.istore X24.here hx rfl (hb hby at_341) rfl (l' := #[.val (.int p0), .val (.int p1), .val (.int p2), .val (.int p3), .val (.int s4), .val (.int s5), .val (.int s6), .val (.int s7), .val (.int r1), .val (.int r2), .val (.int r3), .val (.int (35 : Int32)), .val (.ref b5), .val (.int (-1 : Int32)), .val (.int (2 : Int32)), .val (.int (3 : Int32)), .val (.int (3 : Int32)), .val (.int (5 : Int32)), .val (.int (5 : Int32)), .unset]) rfl k) ?_
          show Ends p e below s T24 (mkF m 343 #[.val (.int p0), .val (.int p1), .val (.int p2), .val (.int p3), .val (.int s4), .val (.int s5), .val (.int s6), .val (.int s7), .val (.int r1), .val (.int r2), .val (.int r3), .val (.int (35 : Int32)), .val (.ref b5), .val (.int (-1 : Int32)), .val (.int (2 : Int32)), .val (.int (3 : Int32)), .val (.int (3 : Int32)), .val (.int (5 : Int32)), .val (.int (5 : Int32)), .unset] []) _ _ _
          obtain ⟨T25, h25, X25, e25, E25, A25, D25, -, st25⟩ := newO X24 hx hZ hown (hw _ (List.mem_of_getElem? (i := 6) rfl)) (hw _ (List.mem_of_getElem? (i := 7) rfl)) (hw _ (List.mem_of_getElem? (i := 8) rfl)) e24 (g := (mkF m 343 #[.val (.int p0), .val (.int p1), .val (.int p2), .val (.int p3), .val (.int s4), .val (.int s5), .val (.int s6), .val (.int s7), .val (.int r1), .val (.int r2), .val (.int r3), .val (.int (35 : Int32)), .val (.ref b5), .val (.int (-1 : Int32)), .val (.int (2 : Int32)), .val (.int (3 : Int32)), .val (.int (3 : Int32)), .val (.int (5 : Int32)), .val (.int (5 : Int32)), .unset] [])) rfl (hb hby at_343) (by decide) (by decide)
          obtain ⟨b25, g25⟩ : ∃ z, z = h24.size := ⟨_, rfl⟩
          rw [← g25] at A25 D25 st25
          refine Ends.go st25 ?_
          have ne_b5_b25 : b5 ≠ b25 := Nat.ne_of_lt (Nat.lt_of_lt_of_le V24.lt (Nat.le_of_eq g25.symm))
          have g_b25 : n0 ≤ b25 := Nat.le_trans (own_old_le O24) (Nat.le_of_eq g25.symm)
          have sz_b25 : h0.size ≤ b25 := Nat.le_trans K24.1 (Nat.le_of_eq g25.symm)
          have K25 := K24.ext E25
          have O25 := O24.ext E25
          have F_mText_b25 : Fld Z h25 b25 "com/example/authority/authority/UriReference" "mText" "Ljava/lang/String;" .null := D25 (Or.inr (hw _ (List.mem_of_getElem? (i := 43) rfl))) (ty := (.object "java/lang/String")) (by decide)
          have F_mSchemeEnd_b25 : Fld Z h25 b25 "com/example/authority/authority/UriReference" "mSchemeEnd" "I" (.int (0 : Int32)) := D25 (Or.inr (hw _ (List.mem_of_getElem? (i := 45) rfl))) (ty := .int) (by decide)
          have F_mHostStart_b25 : Fld Z h25 b25 "com/example/authority/authority/UriReference" "mHostStart" "I" (.int (0 : Int32)) := D25 (Or.inr (hw _ (List.mem_of_getElem? (i := 47) rfl))) (ty := .int) (by decide)
          have F_mHostEnd_b25 : Fld Z h25 b25 "com/example/authority/authority/UriReference" "mHostEnd" "I" (.int (0 : Int32)) := D25 (Or.inr (hw _ (List.mem_of_getElem? (i := 49) rfl))) (ty := .int) (by decide)
          have F_mPathStart_b25 : Fld Z h25 b25 "com/example/authority/authority/UriReference" "mPathStart" "I" (.int (0 : Int32)) := D25 (Or.inr (hw _ (List.mem_of_getElem? (i := 51) rfl))) (ty := .int) (by decide)
          have F_mPathEnd_b25 : Fld Z h25 b25 "com/example/authority/authority/UriReference" "mPathEnd" "I" (.int (0 : Int32)) := D25 (Or.inr (hw _ (List.mem_of_getElem? (i := 53) rfl))) (ty := .int) (by decide)
          have F_mQueryEnd_b25 : Fld Z h25 b25 "com/example/authority/authority/UriReference" "mQueryEnd" "I" (.int (0 : Int32)) := D25 (Or.inr (hw _ (List.mem_of_getElem? (i := 55) rfl))) (ty := .int) (by decide)
          show Ends p e below s T25 (mkF m 346 #[.val (.int p0), .val (.int p1), .val (.int p2), .val (.int p3), .val (.int s4), .val (.int s5), .val (.int s6), .val (.int s7), .val (.int r1), .val (.int r2), .val (.int r3), .val (.int (35 : Int32)), .val (.ref b5), .val (.int (-1 : Int32)), .val (.int (2 : Int32)), .val (.int (3 : Int32)), .val (.int (3 : Int32)), .val (.int (5 : Int32)), .val (.int (5 : Int32)), .unset] [(.ref b25)]) _ _ _
          refine Ends.go (fun _ k => XS.dup X25.here hx rfl (hb hby at_346) rfl rfl k) ?_
          show Ends p e below s T25 (mkF m 347 #[.val (.int p0), .val (.int p1), .val (.int p2), .val (.int p3), .val (.int s4), .val (.int s5), .val (.int s6), .val (.int s7), .val (.int r1), .val (.int r2), .val (.int r3), .val (.int (35 : Int32)), .val (.ref b5), .val (.int (-1 : Int32)), .val (.int (2 : Int32)), .val (.int (3 : Int32)), .val (.int (3 : Int32)), .val (.int (5 : Int32)), .val (.int (5 : Int32)), .unset] [(.ref b25), (.ref b25)]) _ _ _
          obtain ⟨T26, h26, X26, e26, E26, A26, D26, -, st26⟩ := newO X25 hx hZ hown (hw _ (List.mem_of_getElem? (i := 9) rfl)) (hw _ (List.mem_of_getElem? (i := 10) rfl)) (hw _ (List.mem_of_getElem? (i := 11) rfl)) e25 (g := (mkF m 347 #[.val (.int p0), .val (.int p1), .val (.int p2), .val (.int p3), .val (.int s4), .val (.int s5), .val (.int s6), .val (.int s7), .val (.int r1), .val (.int r2), .val (.int r3), .val (.int (35 : Int32)), .val (.ref b5), .val (.int (-1 : Int32)), .val (.int (2 : Int32)), .val (.int (3 : Int32)), .val (.int (3 : Int32)), .val (.int (5 : Int32)), .val (.int (5 : Int32)), .unset] [(.ref b25), (.ref b25)])) rfl (hb hby at_347) (by decide) (by decide)
          obtain ⟨b26, g26⟩ : ∃ z, z = h25.size := ⟨_, rfl⟩
          rw [← g26] at A26 D26 st26
          refine Ends.go st26 ?_
          have ne_b5_b26 : b5 ≠ b26 := Nat.ne_of_lt (Nat.lt_of_lt_of_le (V24.ext E25).lt (Nat.le_of_eq g26.symm))
          have ne_b25_b26 : b25 ≠ b26 := Nat.ne_of_lt (Nat.lt_of_lt_of_le A25.lt (Nat.le_of_eq g26.symm))
          have g_b26 : n0 ≤ b26 := Nat.le_trans (own_old_le O25) (Nat.le_of_eq g26.symm)
          have sz_b26 : h0.size ≤ b26 := Nat.le_trans K25.1 (Nat.le_of_eq g26.symm)
          have K26 := K25.ext E26
          have O26 := O25.ext E26
          have F_coder_b26 : Fld Z h26 b26 "java/lang/String" "coder" "B" (.int (0 : Int32)) := D26 (Or.inr (hw _ (List.mem_of_getElem? (i := 35) rfl))) (ty := .byte) (by decide)
          have F_value_b26 : Fld Z h26 b26 "java/lang/String" "value" "[B" .null := D26 (Or.inr (hw _ (List.mem_of_getElem? (i := 37) rfl))) (ty := (.array .byte)) (by decide)
          show Ends p e below s T26 (mkF m 350 #[.val (.int p0), .val (.int p1), .val (.int p2), .val (.int p3), .val (.int s4), .val (.int s5), .val (.int s6), .val (.int s7), .val (.int r1), .val (.int r2), .val (.int r3), .val (.int (35 : Int32)), .val (.ref b5), .val (.int (-1 : Int32)), .val (.int (2 : Int32)), .val (.int (3 : Int32)), .val (.int (3 : Int32)), .val (.int (5 : Int32)), .val (.int (5 : Int32)), .unset] [(.ref b26), (.ref b25), (.ref b25)]) _ _ _
          refine Ends.go (fun _ k => XS.dup X26.here hx rfl (hb hby at_350) rfl rfl k) ?_
          show Ends p e below s T26 (mkF m 351 #[.val (.int p0), .val (.int p1), .val (.int p2), .val (.int p3), .val (.int s4), .val (.int s5), .val (.int s6), .val (.int s7), .val (.int r1), .val (.int r2), .val (.int r3), .val (.int (35 : Int32)), .val (.ref b5), .val (.int (-1 : Int32)), .val (.int (2 : Int32)), .val (.int (3 : Int32)), .val (.int (3 : Int32)), .val (.int (5 : Int32)), .val (.int (5 : Int32)), .unset] [(.ref b26), (.ref b26), (.ref b25), (.ref b25)]) _ _ _
          refine Ends.go (fun _ k => XS.aload X26.here hx rfl (hb hby at_351) rfl rfl k) ?_
          show Ends p e below s T26 (mkF m 353 #[.val (.int p0), .val (.int p1), .val (.int p2), .val (.int p3), .val (.int s4), .val (.int s5), .val (.int s6), .val (.int s7), .val (.int r1), .val (.int r2), .val (.int r3), .val (.int (35 : Int32)), .val (.ref b5), .val (.int (-1 : Int32)), .val (.int (2 : Int32)), .val (.int (3 : Int32)), .val (.int (3 : Int32)), .val (.int (5 : Int32)), .val (.int (5 : Int32)), .unset] [(.ref b5), (.ref b26), (.ref b26), (.ref b25), (.ref b25)]) _ _ _
          have hp27 : ∀ c ∈ ([(47 : Int32), (47 : Int32), (nar .char r1), (47 : Int32), (nar .char r2), (35 : Int32)] : List Int32), ¬ c < 0 ∧ ¬ (255 : Int32) < c := by
            intro c hc
            simp only [List.mem_cons, List.not_mem_nil, or_false] at hc
            rcases hc with rfl | rfl | rfl | rfl | rfl | rfl
            · exact (by decide)
            · exact (by decide)
            · exact own_nar hr1
            · exact (by decide)
            · exact own_nar hr2
            · exact (by decide)
          obtain ⟨_, _, ⟨T27, L27, k27, n27⟩, -, X27, ⟨Lc27, hQ27, l27, y27, z27⟩, st27⟩ := X26.specialBack hx (y := (⟨"java/lang/String", "<init>", "([C)V"⟩ : MethodName)) rfl hown (mvT hZ (hw _ (List.mem_of_getElem? (i := 12) rfl))) (mvT hZ (hw _ (List.mem_of_getElem? (i := 13) rfl))) (mvT hZ (hw _ (List.mem_of_getElem? (i := 14) rfl))) (by decide) (StrChars.Road.backV (W := 3) hZ hws (kI := 4) (hw _ (List.mem_of_getElem? (i := 10) rfl)) (cs := ([(47 : Int32), (47 : Int32), (nar .char r1), (47 : Int32), (nar .char r2), (35 : Int32)] : List Int32)) (bs := ([(47 : Int32), (47 : Int32), (nar .char r1), (47 : Int32), (nar .char r2), (35 : Int32)] : List Int32).map (fun c => c.toInt8.toInt32)) (n := 6) g_b26 (own_old_le O26) A26 F_value_b26 F_coder_b26 ((V24.ext E25).ext E26) (O2.ext O26.2) P5 rfl rfl (by decide) (by decide) hp27 rfl (by decide) (by decide)) (g := (mkF m 353 #[.val (.int p0), .val (.int p1), .val (.int p2), .val (.int p3), .val (.int s4), .val (.int s5), .val (.int s6), .val (.int s7), .val (.int r1), .val (.int r2), .val (.int r3), .val (.int (35 : Int32)), .val (.ref b5), .val (.int (-1 : Int32)), .val (.int (2 : Int32)), .val (.int (3 : Int32)), .val (.int (3 : Int32)), .val (.int (5 : Int32)), .val (.int (5 : Int32)), .unset] [(.ref b5), (.ref b26), (.ref b26), (.ref b25), (.ref b25)])) rfl (by rw [hml]; rfl) (Steps.refl _) (a := b26) (argsL := [(.ref b5)]) (rest := [(.ref b26), (.ref b25), (.ref b25)]) (lenOf pd0_1 rfl) rfl (by show 2 * 0 + _ ≤ _; exact Nat.le_of_eq rfl) (hb hby at_353) (fun _ _ => ⟨rfl, e26, (by decide : 3 + 1 ≤ _), (by decide : 17 + 6 ≤ _)⟩)
          dsimp only [Pt.U, Pt.locs, Pt.cells, Pt.slots] at X27 l27 y27 z27 st27 hQ27
          subst l27 y27 z27
          obtain ⟨rfl, N27q, K27c, Eq27, Cq27, t27, kb27, -, ht27, ht27', Vq27, Aq27⟩ := hQ27
          have N27 := Fr.app N24 N27q
          refine Ends.go (fun _ k => st27.trans k) ?_
          have ne_b5_t27 : b5 ≠ t27 := Nat.ne_of_lt (Nat.lt_of_lt_of_le ((V24.ext E25).ext E26).lt ht27)
          have ne_b25_t27 : b25 ≠ t27 := Nat.ne_of_lt (Nat.lt_of_lt_of_le (A25.ext E26).lt ht27)
          have ne_b26_t27 : b26 ≠ t27 := Nat.ne_of_lt (Nat.lt_of_lt_of_le A26.lt ht27)
          have g_t27 : n0 ≤ t27 := Nat.le_trans (own_old_le O26) ht27
          have sz_t27 : h0.size ≤ t27 := Nat.le_trans K26.1 ht27
          obtain ⟨h27, e27⟩ : ∃ z, T27.heap = z := ⟨_, rfl⟩
          rw [e27] at K27c Eq27 Cq27 Vq27 Aq27
          have K27 := K26.trans K27c (allS (Or.inr sz_b26) all0)
          have O27 := O26.keep K27c (allS g_b26 all0)
          show Ends p e below s T27 (mkF m 356 #[.val (.int p0), .val (.int p1), .val (.int p2), .val (.int p3), .val (.int s4), .val (.int s5), .val (.int s6), .val (.int s7), .val (.int r1), .val (.int r2), .val (.int r3), .val (.int (35 : Int32)), .val (.ref b5), .val (.int (-1 : Int32)), .val (.int (2 : Int32)), .val (.int (3 : Int32)), .val (.int (3 : Int32)), .val (.int (5 : Int32)), .val (.int (5 : Int32)), .unset] [(.ref b26), (.ref b25), (.ref b25)]) _ _ _
          refine Ends.go (fun _ k => XS.iload X27.here hx rfl (hb hby at_356) rfl k) ?_
          show Ends p e below s T27 (mkF m 358 #[.val (.int p0), .val (.int p1), .val (.int p2), .val (.int p3), .val (.int s4), .val (.int s5), .val (.int s6), .val (.int s7), .val (.int r1), .val (.int r2), .val (.int r3), .val (.int (35 : Int32)), .val (.ref b5), .val (.int (-1 : Int32)), .val (.int (2 : Int32)), .val (.int (3 : Int32)), .val (.int (3 : Int32)), .val (.int (5 : Int32)), .val (.int (5 : Int32)), .unset] [(.int (-1 : Int32)), (.ref b26), (.ref b25), (.ref b25)]) _ _ _
          refine Ends.go (fun _ k => XS.iload X27.here hx rfl (hb hby at_358) rfl k) ?_
          show Ends p e below s T27 (mkF m 360 #[.val (.int p0), .val (.int p1), .val (.int p2), .val (.int p3), .val (.int s4), .val (.int s5), .val (.int s6), .val (.int s7), .val (.int r1), .val (.int r2), .val (.int r3), .val (.int (35 : Int32)), .val (.ref b5), .val (.int (-1 : Int32)), .val (.int (2 : Int32)), .val (.int (3 : Int32)), .val (.int (3 : Int32)), .val (.int (5 : Int32)), .val (.int (5 : Int32)), .unset] [(.int (2 : Int32)), (.int (-1 : Int32)), (.ref b26), (.ref b25), (.ref b25)]) _ _ _
          refine Ends.go (fun _ k => XS.iload X27.here hx rfl (hb hby at_360) rfl k) ?_
          show Ends p e below s T27 (mkF m 362 #[.val (.int p0), .val (.int p1), .val (.int p2), .val (.int p3), .val (.int s4), .val (.int s5), .val (.int s6), .val (.int s7), .val (.int r1), .val (.int r2), .val (.int r3), .val (.int (35 : Int32)), .val (.ref b5), .val (.int (-1 : Int32)), .val (.int (2 : Int32)), .val (.int (3 : Int32)), .val (.int (3 : Int32)), .val (.int (5 : Int32)), .val (.int (5 : Int32)), .unset] [(.int (3 : Int32)), (.int (2 : Int32)), (.int (-1 : Int32)), (.ref b26), (.ref b25), (.ref b25)]) _ _ _
          refine Ends.go (fun _ k => XS.iload X27.here hx rfl (hb hby at_362) rfl k) ?_
          show Ends p e below s T27 (mkF m 364 #[.val (.int p0), .val (.int p1), .val (.int p2), .val (.int p3), .val (.int s4), .val (.int s5), .val (.int s6), .val (.int s7), .val (.int r1), .val (.int r2), .val (.int r3), .val (.int (35 : Int32)), .val (.ref b5), .val (.int (-1 : Int32)), .val (.int (2 : Int32)), .val (.int (3 : Int32)), .val (.int (3 : Int32)), .val (.int (5 : Int32)), .val (.int (5 : Int32)), .unset] [(.int (3 : Int32)), (.int (3 : Int32)), (.int (2 : Int32)), (.int (-1 : Int32)), (.ref b26), (.ref b25), (.ref b25)]) _ _ _
          refine Ends.go (fun _ k => XS.iload X27.here hx rfl (hb hby at_364) rfl k) ?_
          show Ends p e below s T27 (mkF m 366 #[.val (.int p0), .val (.int p1), .val (.int p2), .val (.int p3), .val (.int s4), .val (.int s5), .val (.int s6), .val (.int s7), .val (.int r1), .val (.int r2), .val (.int r3), .val (.int (35 : Int32)), .val (.ref b5), .val (.int (-1 : Int32)), .val (.int (2 : Int32)), .val (.int (3 : Int32)), .val (.int (3 : Int32)), .val (.int (5 : Int32)), .val (.int (5 : Int32)), .unset] [(.int (5 : Int32)), (.int (3 : Int32)), (.int (3 : Int32)), (.int (2 : Int32)), (.int (-1 : Int32)), (.ref b26), (.ref b25), (.ref b25)]) _ _ _
          refine Ends.go (fun _ k => XS.iload X27.here hx rfl (hb hby at_366) rfl k) ?_
          show Ends p e below s T27 (mkF m 368 #[.val (.int p0), .val (.int p1), .val (.int p2), .val (.int p3), .val (.int s4), .val (.int s5), .val (.int s6), .val (.int s7), .val (.int r1), .val (.int r2), .val (.int r3), .val (.int (35 : Int32)), .val (.ref b5), .val (.int (-1 : Int32)), .val (.int (2 : Int32)), .val (.int (3 : Int32)), .val (.int (3 : Int32)), .val (.int (5 : Int32)), .val (.int (5 : Int32)), .unset] [(.int (5 : Int32)), (.int (5 : Int32)), (.int (3 : Int32)), (.int (3 : Int32)), (.int (2 : Int32)), (.int (-1 : Int32)), (.ref b26), (.ref b25), (.ref b25)]) _ _ _
          obtain ⟨_, _, ⟨T28, L28, k28, n28⟩, -, X28, ⟨Lc28, hQ28, l28, y28, z28⟩, st28⟩ := X27.specialBack hx (y := (⟨"com/example/authority/authority/UriReference", "<init>", "(Ljava/lang/String;IIIIII)V"⟩ : MethodName)) rfl hown (mvT hZ (hw _ (List.mem_of_getElem? (i := 38) rfl))) (mvT hZ (hw _ (List.mem_of_getElem? (i := 39) rfl))) (mvT hZ (hw _ (List.mem_of_getElem? (i := 40) rfl))) (by decide) (own_backOf (W := 1) (rmI l Z a0 hw [] n0 h27 O27 b25 b26 (-1 : Int32) (2 : Int32) (3 : Int32) (3 : Int32) (5 : Int32) (5 : Int32) g_b25 ((A25.ext E26).keep K27c) ((F_mText_b25.ext E26).keep K27c (ninS ne_b25_b26 nin0)) ((F_mSchemeEnd_b25.ext E26).keep K27c (ninS ne_b25_b26 nin0)) ((F_mHostStart_b25.ext E26).keep K27c (ninS ne_b25_b26 nin0)) ((F_mHostEnd_b25.ext E26).keep K27c (ninS ne_b25_b26 nin0)) ((F_mPathStart_b25.ext E26).keep K27c (ninS ne_b25_b26 nin0)) ((F_mPathEnd_b25.ext E26).keep K27c (ninS ne_b25_b26 nin0)) ((F_mQueryEnd_b25.ext E26).keep K27c (ninS ne_b25_b26 nin0))) hZ (hw _ (List.mem_of_getElem? (i := 40) rfl)) (hw _ (List.mem_of_getElem? (i := 8) rfl)) (by decide) (by decide)) (g := (mkF m 368 #[.val (.int p0), .val (.int p1), .val (.int p2), .val (.int p3), .val (.int s4), .val (.int s5), .val (.int s6), .val (.int s7), .val (.int r1), .val (.int r2), .val (.int r3), .val (.int (35 : Int32)), .val (.ref b5), .val (.int (-1 : Int32)), .val (.int (2 : Int32)), .val (.int (3 : Int32)), .val (.int (3 : Int32)), .val (.int (5 : Int32)), .val (.int (5 : Int32)), .unset] [(.int (5 : Int32)), (.int (5 : Int32)), (.int (3 : Int32)), (.int (3 : Int32)), (.int (2 : Int32)), (.int (-1 : Int32)), (.ref b26), (.ref b25), (.ref b25)])) rfl (by rw [hml]; rfl) (Steps.refl _) (a := b25) (argsL := [(.ref b26), (.int (-1 : Int32)), (.int (2 : Int32)), (.int (3 : Int32)), (.int (3 : Int32)), (.int (5 : Int32)), (.int (5 : Int32))]) (rest := [(.ref b25)]) (lenOf pd0_2 rfl) rfl (by show 2 * 0 + _ ≤ _; exact Nat.le_of_eq rfl) (hb hby at_368) (fun _ _ => ⟨rfl, e27, (by decide : 4 + 0 ≤ _), (by decide : 23 + 0 ≤ _)⟩)
          dsimp only [Pt.U, Pt.locs, Pt.cells, Pt.slots] at X28 l28 y28 z28 st28 hQ28
          subst l28 y28 z28
          obtain ⟨rfl, N28q, K28c, Eq28, Fq28_mText, Fq28_mSchemeEnd, Fq28_mHostStart, Fq28_mHostEnd, Fq28_mPathStart, Fq28_mPathEnd, Fq28_mQueryEnd⟩ := hQ28
          have N28 := Fr.app N27 N28q
          refine Ends.go (fun _ k => st28.trans k) ?_
          obtain ⟨h28, e28⟩ : ∃ z, T28.heap = z := ⟨_, rfl⟩
          rw [e28] at K28c Eq28 Fq28_mText Fq28_mSchemeEnd Fq28_mHostStart Fq28_mHostEnd Fq28_mPathStart Fq28_mPathEnd Fq28_mQueryEnd
          have K28 := K27.trans K28c (allS (Or.inr sz_b25) all0)
          have O28 := O27.keep K28c (allS g_b25 all0)
          show Ends p e below s T28 (mkF m 371 #[.val (.int p0), .val (.int p1), .val (.int p2), .val (.int p3), .val (.int s4), .val (.int s5), .val (.int s6), .val (.int s7), .val (.int r1), .val (.int r2), .val (.int r3), .val (.int (35 : Int32)), .val (.ref b5), .val (.int (-1 : Int32)), .val (.int (2 : Int32)), .val (.int (3 : Int32)), .val (.int (3 : Int32)), .val (.int (5 : Int32)), .val (.int (5 : Int32)), .unset] [(.ref b25)]) _ _ _
          refine Ends.go (fun _ k => XS.astore X28.here hx rfl (hb hby at_371) rfl rfl (l' := #[.val (.int p0), .val (.int p1), .val (.int p2), .val (.int p3), .val (.int s4), .val (.int s5), .val (.int s6), .val (.int s7), .val (.int r1), .val (.int r2), .val (.int r3), .val (.int (35 : Int32)), .val (.ref b5), .val (.int (-1 : Int32)), .val (.int (2 : Int32)), .val (.int (3 : Int32)), .val (.int (3 : Int32)), .val (.int (5 : Int32)), .val (.int (5 : Int32)), .val (.ref b25)]) rfl k) ?_
          show Ends p e below s T28 (mkF m 373 #[.val (.int p0), .val (.int p1), .val (.int p2), .val (.int p3), .val (.int s4), .val (.int s5), .val (.int s6), .val (.int s7), .val (.int r1), .val (.int r2), .val (.int r3), .val (.int (35 : Int32)), .val (.ref b5), .val (.int (-1 : Int32)), .val (.int (2 : Int32)), .val (.int (3 : Int32)), .val (.int (3 : Int32)), .val (.int (5 : Int32)), .val (.int (5 : Int32)), .val (.ref b25)] []) _ _ _
          refine Ends.go (fun _ k => XS.aload X28.here hx rfl (hb hby at_373) rfl rfl k) ?_
          show Ends p e below s T28 (mkF m 375 #[.val (.int p0), .val (.int p1), .val (.int p2), .val (.int p3), .val (.int s4), .val (.int s5), .val (.int s6), .val (.int s7), .val (.int r1), .val (.int r2), .val (.int r3), .val (.int (35 : Int32)), .val (.ref b5), .val (.int (-1 : Int32)), .val (.int (2 : Int32)), .val (.int (3 : Int32)), .val (.int (3 : Int32)), .val (.int (5 : Int32)), .val (.int (5 : Int32)), .val (.ref b25)] [(.ref b25)]) _ _ _
          obtain ⟨cq29, kq29, q29a, q29b, q29c⟩ := isOf hZ e28 Eq28
          obtain ⟨_, _, ⟨T29, L29, k29, n29⟩, -, X29, ⟨Lc29, hQ29, l29, y29, z29⟩, st29⟩ := X28.virtualBack hx (y := (⟨"com/example/authority/authority/UriReference", "isUri", "()Z"⟩ : MethodName)) (z := (⟨"com/example/authority/authority/UriReference", "isUri", "()Z"⟩ : MethodName)) hown (mvT hZ (hw _ (List.mem_of_getElem? (i := 56) rfl))) (mvT hZ (hw _ (List.mem_of_getElem? (i := 57) rfl))) (notFace_of_selects (args := #[]) (mvT hZ (hw _ (List.mem_of_getElem? (i := 59) rfl)))) (mvT hZ (hw _ (List.mem_of_getElem? (i := 59) rfl))) (mvT hZ (hw _ (List.mem_of_getElem? (i := 58) rfl))) (by decide) (own_backOf (W := 0) (rmQ l Z a0 hw [] n0 h28 O28 b25 (-1 : Int32) Fq28_mSchemeEnd (0 : Int32) (by decide)) hZ (hw _ (List.mem_of_getElem? (i := 60) rfl)) (hw _ (List.mem_of_getElem? (i := 8) rfl)) (by decide) (by decide)) q29a q29c (g := (mkF m 375 #[.val (.int p0), .val (.int p1), .val (.int p2), .val (.int p3), .val (.int s4), .val (.int s5), .val (.int s6), .val (.int s7), .val (.int r1), .val (.int r2), .val (.int r3), .val (.int (35 : Int32)), .val (.ref b5), .val (.int (-1 : Int32)), .val (.int (2 : Int32)), .val (.int (3 : Int32)), .val (.int (3 : Int32)), .val (.int (5 : Int32)), .val (.int (5 : Int32)), .val (.ref b25)] [(.ref b25)])) rfl (by rw [hml]; rfl) (Steps.refl _) (argsL := []) (rest := []) (lenOf pd0_3 rfl) rfl (by show 2 * 0 + _ ≤ _; exact Nat.le_of_eq rfl) (hb hby at_375) (fun _ _ => ⟨rfl, e28, (by decide : 4 + 0 ≤ _), (by decide : 23 + 0 ≤ _)⟩)
          dsimp only [Pt.U, Pt.locs, Pt.cells, Pt.slots] at X29 l29 y29 z29 st29 hQ29
          subst l29 y29 z29
          obtain ⟨rfl, N29q, e29q⟩ := hQ29
          have N29 := Fr.app N28 N29q
          refine Ends.go (fun _ k => st29.trans k) ?_
          show Ends p e below s T29 (mkF m 378 #[.val (.int p0), .val (.int p1), .val (.int p2), .val (.int p3), .val (.int s4), .val (.int s5), .val (.int s6), .val (.int s7), .val (.int r1), .val (.int r2), .val (.int r3), .val (.int (35 : Int32)), .val (.ref b5), .val (.int (-1 : Int32)), .val (.int (2 : Int32)), .val (.int (3 : Int32)), .val (.int (3 : Int32)), .val (.int (5 : Int32)), .val (.int (5 : Int32)), .val (.ref b25)] [(.int (0 : Int32))]) _ _ _
          refine Ends.go (fun _ k => XS.iload X29.here hx rfl (hb hby at_378) rfl k) ?_
          show Ends p e below s T29 (mkF m 380 #[.val (.int p0), .val (.int p1), .val (.int p2), .val (.int p3), .val (.int s4), .val (.int s5), .val (.int s6), .val (.int s7), .val (.int r1), .val (.int r2), .val (.int r3), .val (.int (35 : Int32)), .val (.ref b5), .val (.int (-1 : Int32)), .val (.int (2 : Int32)), .val (.int (3 : Int32)), .val (.int (3 : Int32)), .val (.int (5 : Int32)), .val (.int (5 : Int32)), .val (.ref b25)] [(.int s4), (.int (0 : Int32))]) _ _ _
          refine Ends.go (fun _ k => XS.icmpNo X29.here hx rfl (hb hby at_380) rfl (teq ((by rw [hc108_6]) : (0 : Int32) = s4)).2 k) ?_
          show Ends p e below s T29 (mkF m 383 #[.val (.int p0), .val (.int p1), .val (.int p2), .val (.int p3), .val (.int s4), .val (.int s5), .val (.int s6), .val (.int s7), .val (.int r1), .val (.int r2), .val (.int r3), .val (.int (35 : Int32)), .val (.ref b5), .val (.int (-1 : Int32)), .val (.int (2 : Int32)), .val (.int (3 : Int32)), .val (.int (3 : Int32)), .val (.int (5 : Int32)), .val (.int (5 : Int32)), .val (.ref b25)] []) _ _ _
          refine Ends.go (fun _ k => XS.iconst X29.here hx rfl (hb hby at_383) k) ?_
          show Ends p e below s T29 (mkF m 384 #[.val (.int p0), .val (.int p1), .val (.int p2), .val (.int p3), .val (.int s4), .val (.int s5), .val (.int s6), .val (.int s7), .val (.int r1), .val (.int r2), .val (.int r3), .val (.int (35 : Int32)), .val (.ref b5), .val (.int (-1 : Int32)), .val (.int (2 : Int32)), .val (.int (3 : Int32)), .val (.int (3 : Int32)), .val (.int (5 : Int32)), .val (.int (5 : Int32)), .val (.ref b25)] [(.int (1 : Int32))]) _ _ _
          refine Ends.go (fun _ k => XS.goto X29.here hx rfl (pc0 := 384) (pc' := 388) rfl (hb hby at_384) (by decide) (by decide) k) ?_
          show Ends p e below s T29 (mkF m 388 #[.val (.int p0), .val (.int p1), .val (.int p2), .val (.int p3), .val (.int s4), .val (.int s5), .val (.int s6), .val (.int s7), .val (.int r1), .val (.int r2), .val (.int r3), .val (.int (35 : Int32)), .val (.ref b5), .val (.int (-1 : Int32)), .val (.int (2 : Int32)), .val (.int (3 : Int32)), .val (.int (3 : Int32)), .val (.int (5 : Int32)), .val (.int (5 : Int32)), .val (.ref b25)] [(.int (1 : Int32))]) _ _ _
          refine Ends.retZ X29 hx Bd.notSynchronized (t := .boolean) Bd.returns (by simp) (hb hby at_388) (by decide) (by decide) ?_
          exact ⟨rfl, N29⟩
      · refine Ends.go (fun _ k => XS.ifNo X5.here hx rfl (hb hby at_108) rfl ((if0 _ _).trans (feq hc108_6).1) k) ?_
        show Ends p e below s T5 (mkF m 111 #[.val (.int p0), .val (.int p1), .val (.int p2), .val (.int p3), .val (.int s4), .val (.int s5), .val (.int s6), .val (.int s7), .val (.int r1), .val (.int r2), .val (.int r3), .val (.int (35 : Int32)), .val (.ref b5), .val (.int (-1 : Int32)), .val (.int (-1 : Int32)), .val (.int (-1 : Int32)), .val (.int (0 : Int32)), .val (.int (5 : Int32)), .unset, .unset] []) _ _ _
        refine Ends.go (fun _ k => XS.iload X5.here hx rfl (hb hby at_111) rfl k) ?_
        show Ends p e below s T5 (mkF m 113 #[.val (.int p0), .val (.int p1), .val (.int p2), .val (.int p3), .val (.int s4), .val (.int s5), .val (.int s6), .val (.int s7), .val (.int r1), .val (.int r2), .val (.int r3), .val (.int (35 : Int32)), .val (.ref b5), .val (.int (-1 : Int32)), .val (.int (-1 : Int32)), .val (.int (-1 : Int32)), .val (.int (0 : Int32)), .val (.int (5 : Int32)), .unset, .unset] [(.int s5)]) _ _ _
        by_cases hc113_30 : s5 = (0 : Int32)
        · refine Ends.go (fun _ k => XS.ifYes X5.here hx rfl (pc0 := 113) (pc' := 161) rfl (hb hby at_113) rfl ((if0 _ _).trans (teq hc113_30).1) (by decide) (by decide) k) ?_
          show Ends p e below s T5 (mkF m 161 #[.val (.int p0), .val (.int p1), .val (.int p2), .val (.int p3), .val (.int s4), .val (.int s5), .val (.int s6), .val (.int s7), .val (.int r1), .val (.int r2), .val (.int r3), .val (.int (35 : Int32)), .val (.ref b5), .val (.int (-1 : Int32)), .val (.int (-1 : Int32)), .val (.int (-1 : Int32)), .val (.int (0 : Int32)), .val (.int (5 : Int32)), .unset, .unset] []) _ _ _
          refine Ends.go (fun _ k => XS.iload X5.here hx rfl (hb hby at_161) rfl k) ?_
          show Ends p e below s T5 (mkF m 163 #[.val (.int p0), .val (.int p1), .val (.int p2), .val (.int p3), .val (.int s4), .val (.int s5), .val (.int s6), .val (.int s7), .val (.int r1), .val (.int r2), .val (.int r3), .val (.int (35 : Int32)), .val (.ref b5), .val (.int (-1 : Int32)), .val (.int (-1 : Int32)), .val (.int (-1 : Int32)), .val (.int (0 : Int32)), .val (.int (5 : Int32)), .unset, .unset] [(.int s7)]) _ _ _
          by_cases hc163_31 : s7 = (0 : Int32)
          · refine Ends.go (fun _ k => XS.ifYes X5.here hx rfl (pc0 := 163) (pc' := 205) rfl (hb hby at_163) rfl ((if0 _ _).trans (teq hc163_31).1) (by decide) (by decide) k) ?_
            show Ends p e below s T5 (mkF m 205 #[.val (.int p0), .val (.int p1), .val (.int p2), .val (.int p3), .val (.int s4), .val (.int s5), .val (.int s6), .val (.int s7), .val (.int r1), .val (.int r2), .val (.int r3), .val (.int (35 : Int32)), .val (.ref b5), .val (.int (-1 : Int32)), .val (.int (-1 : Int32)), .val (.int (-1 : Int32)), .val (.int (0 : Int32)), .val (.int (5 : Int32)), .unset, .unset] []) _ _ _
            refine Ends.go (fun _ k => XS.aload X5.here hx rfl (hb hby at_205) rfl rfl k) ?_
            show Ends p e below s T5 (mkF m 207 #[.val (.int p0), .val (.int p1), .val (.int p2), .val (.int p3), .val (.int s4), .val (.int s5), .val (.int s6), .val (.int s7), .val (.int r1), .val (.int r2), .val (.int r3), .val (.int (35 : Int32)), .val (.ref b5), .val (.int (-1 : Int32)), .val (.int (-1 : Int32)), .val (.int (-1 : Int32)), .val (.int (0 : Int32)), .val (.int (5 : Int32)), .unset, .unset] [(.ref b5)]) _ _ _
            refine Ends.go (fun _ k => XS.iconst X5.here hx rfl (hb hby at_207) k) ?_
            show Ends p e below s T5 (mkF m 208 #[.val (.int p0), .val (.int p1), .val (.int p2), .val (.int p3), .val (.int s4), .val (.int s5), .val (.int s6), .val (.int s7), .val (.int r1), .val (.int r2), .val (.int r3), .val (.int (35 : Int32)), .val (.ref b5), .val (.int (-1 : Int32)), .val (.int (-1 : Int32)), .val (.int (-1 : Int32)), .val (.int (0 : Int32)), .val (.int (5 : Int32)), .unset, .unset] [(.int (0 : Int32)), (.ref b5)]) _ _ _
            refine Ends.go (fun _ k => XS.iload X5.here hx rfl (hb hby at_208) rfl k) ?_
            show Ends p e below s T5 (mkF m 210 #[.val (.int p0), .val (.int p1), .val (.int p2), .val (.int p3), .val (.int s4), .val (.int s5), .val (.int s6), .val (.int s7), .val (.int r1), .val (.int r2), .val (.int r3), .val (.int (35 : Int32)), .val (.ref b5), .val (.int (-1 : Int32)), .val (.int (-1 : Int32)), .val (.int (-1 : Int32)), .val (.int (0 : Int32)), .val (.int (5 : Int32)), .unset, .unset] [(.int r1), (.int (0 : Int32)), (.ref b5)]) _ _ _
            obtain ⟨cl32, Ar32, q32, S32, M32, H32, G32⟩ := id V_b5
            have hin32 := inb_of (j := (0 : Int32)) S32 ⟨by decide, by decide⟩
            obtain ⟨T32, h32, X32, e32, W32, st32⟩ := stC X5 hx hZ e5 Ar32 (j := (0 : Int32)) hin32 (g := (mkF m 210 #[.val (.int p0), .val (.int p1), .val (.int p2), .val (.int p3), .val (.int s4), .val (.int s5), .val (.int s6), .val (.int s7), .val (.int r1), .val (.int r2), .val (.int r3), .val (.int (35 : Int32)), .val (.ref b5), .val (.int (-1 : Int32)), .val (.int (-1 : Int32)), .val (.int (-1 : Int32)), .val (.int (0 : Int32)), .val (.int (5 : Int32)), .unset, .unset] [(.int r1), (.int (0 : Int32)), (.ref b5)])) rfl rfl (hb hby at_210)
            refine Ends.go st32 ?_
            have V32 : Arv Z h32 b5 k5 .char (6 : Int32) [(.int (nar .char r1)), (.int (0 : Int32)), (.int (0 : Int32)), (.int (0 : Int32)), (.int (0 : Int32)), (.int (0 : Int32))] (.int (0 : Int32)) := Arv.set Ar32 q32 S32 M32 H32 G32 (fits_nar_char _) W32 0 rfl (Nat.le_of_ble_eq_true rfl)
            have K32 := K5.wr W32 (Or.inr sz_b5)
            have O32 := O5.wr W32 g_b5
            have N32 := Fr.snoc X32 N3 g_b5
            show Ends p e below s T32 (mkF m 211 #[.val (.int p0), .val (.int p1), .val (.int p2), .val (.int p3), .val (.int s4), .val (.int s5), .val (.int s6), .val (.int s7), .val (.int r1), .val (.int r2), .val (.int r3), .val (.int (35 : Int32)), .val (.ref b5), .val (.int (-1 : Int32)), .val (.int (-1 : Int32)), .val (.int (-1 : Int32)), .val (.int (0 : Int32)), .val (.int (5 : Int32)), .unset, .unset] []) _ _ _
            refine Ends.go (fun _ k => XS.aload X32.here hx rfl (hb hby at_211) rfl rfl k) ?_
            show Ends p e below s T32 (mkF m 213 #[.val (.int p0), .val (.int p1), .val (.int p2), .val (.int p3), .val (.int s4), .val (.int s5), .val (.int s6), .val (.int s7), .val (.int r1), .val (.int r2), .val (.int r3), .val (.int (35 : Int32)), .val (.ref b5), .val (.int (-1 : Int32)), .val (.int (-1 : Int32)), .val (.int (-1 : Int32)), .val (.int (0 : Int32)), .val (.int (5 : Int32)), .unset, .unset] [(.ref b5)]) _ _ _
            refine Ends.go (fun _ k => XS.iconst X32.here hx rfl (hb hby at_213) k) ?_
            show Ends p e below s T32 (mkF m 214 #[.val (.int p0), .val (.int p1), .val (.int p2), .val (.int p3), .val (.int s4), .val (.int s5), .val (.int s6), .val (.int s7), .val (.int r1), .val (.int r2), .val (.int r3), .val (.int (35 : Int32)), .val (.ref b5), .val (.int (-1 : Int32)), .val (.int (-1 : Int32)), .val (.int (-1 : Int32)), .val (.int (0 : Int32)), .val (.int (5 : Int32)), .unset, .unset] [(.int (1 : Int32)), (.ref b5)]) _ _ _
            refine Ends.go (fun _ k => XS.bipush X32.here hx rfl (hb hby at_214) k) ?_
            show Ends p e below s T32 (mkF m 216 #[.val (.int p0), .val (.int p1), .val (.int p2), .val (.int p3), .val (.int s4), .val (.int s5), .val (.int s6), .val (.int s7), .val (.int r1), .val (.int r2), .val (.int r3), .val (.int (35 : Int32)), .val (.ref b5), .val (.int (-1 : Int32)), .val (.int (-1 : Int32)), .val (.int (-1 : Int32)), .val (.int (0 : Int32)), .val (.int (5 : Int32)), .unset, .unset] [(.int (58 : Int32)), (.int (1 : Int32)), (.ref b5)]) _ _ _
            obtain ⟨cl33, Ar33, q33, S33, M33, H33, G33⟩ := id V32
            have hin33 := inb_of (j := (1 : Int32)) S33 ⟨by decide, by decide⟩
            obtain ⟨T33, h33, X33, e33, W33, st33⟩ := stC X32 hx hZ e32 Ar33 (j := (1 : Int32)) hin33 (g := (mkF m 216 #[.val (.int p0), .val (.int p1), .val (.int p2), .val (.int p3), .val (.int s4), .val (.int s5), .val (.int s6), .val (.int s7), .val (.int r1), .val (.int r2), .val (.int r3), .val (.int (35 : Int32)), .val (.ref b5), .val (.int (-1 : Int32)), .val (.int (-1 : Int32)), .val (.int (-1 : Int32)), .val (.int (0 : Int32)), .val (.int (5 : Int32)), .unset, .unset] [(.int (58 : Int32)), (.int (1 : Int32)), (.ref b5)])) rfl rfl (hb hby at_216)
            refine Ends.go st33 ?_
            have V33 : Arv Z h33 b5 k5 .char (6 : Int32) [(.int (nar .char r1)), (.int (58 : Int32)), (.int (0 : Int32)), (.int (0 : Int32)), (.int (0 : Int32)), (.int (0 : Int32))] (.int (0 : Int32)) := Arv.set Ar33 q33 S33 M33 H33 G33 rfl W33 1 rfl (Nat.le_of_ble_eq_true rfl)
            have K33 := K32.wr W33 (Or.inr sz_b5)
            have O33 := O32.wr W33 g_b5
            have N33 := Fr.snoc X33 N32 g_b5
            show Ends p e below s T33 (mkF m 217 #[.val (.int p0), .val (.int p1), .val (.int p2), .val (.int p3), .val (.int s4), .val (.int s5), .val (.int s6), .val (.int s7), .val (.int r1), .val (.int r2), .val (.int r3), .val (.int (35 : Int32)), .val (.ref b5), .val (.int (-1 : Int32)), .val (.int (-1 : Int32)), .val (.int (-1 : Int32)), .val (.int (0 : Int32)), .val (.int (5 : Int32)), .unset, .unset] []) _ _ _
            refine Ends.go (fun _ k => XS.aload X33.here hx rfl (hb hby at_217) rfl rfl k) ?_
            show Ends p e below s T33 (mkF m 219 #[.val (.int p0), .val (.int p1), .val (.int p2), .val (.int p3), .val (.int s4), .val (.int s5), .val (.int s6), .val (.int s7), .val (.int r1), .val (.int r2), .val (.int r3), .val (.int (35 : Int32)), .val (.ref b5), .val (.int (-1 : Int32)), .val (.int (-1 : Int32)), .val (.int (-1 : Int32)), .val (.int (0 : Int32)), .val (.int (5 : Int32)), .unset, .unset] [(.ref b5)]) _ _ _
            refine Ends.go (fun _ k => XS.iconst X33.here hx rfl (hb hby at_219) k) ?_
            show Ends p e below s T33 (mkF m 220 #[.val (.int p0), .val (.int p1), .val (.int p2), .val (.int p3), .val (.int s4), .val (.int s5), .val (.int s6), .val (.int s7), .val (.int r1), .val (.int r2), .val (.int r3), .val (.int (35 : Int32)), .val (.ref b5), .val (.int (-1 : Int32)), .val (.int (-1 : Int32)), .val (.int (-1 : Int32)), .val (.int (0 : Int32)), .val (.int (5 : Int32)), .unset, .unset] [(.int (2 : Int32)), (.ref b5)]) _ _ _
            refine Ends.go (fun _ k => XS.bipush X33.here hx rfl (hb hby at_220) k) ?_
            show Ends p e below s T33 (mkF m 222 #[.val (.int p0), .val (.int p1), .val (.int p2), .val (.int p3), .val (.int s4), .val (.int s5), .val (.int s6), .val (.int s7), .val (.int r1), .val (.int r2), .val (.int r3), .val (.int (35 : Int32)), .val (.ref b5), .val (.int (-1 : Int32)), .val (.int (-1 : Int32)), .val (.int (-1 : Int32)), .val (.int (0 : Int32)), .val (.int (5 : Int32)), .unset, .unset] [(.int (47 : Int32)), (.int (2 : Int32)), (.ref b5)]) _ _ _
            obtain ⟨cl34, Ar34, q34, S34, M34, H34, G34⟩ := id V33
            have hin34 := inb_of (j := (2 : Int32)) S34 ⟨by decide, by decide⟩
            obtain ⟨T34, h34, X34, e34, W34, st34⟩ := stC X33 hx hZ e33 Ar34 (j := (2 : Int32)) hin34 (g := (mkF m 222 #[.val (.int p0), .val (.int p1), .val (.int p2), .val (.int p3), .val (.int s4), .val (.int s5), .val (.int s6), .val (.int s7), .val (.int r1), .val (.int r2), .val (.int r3), .val (.int (35 : Int32)), .val (.ref b5), .val (.int (-1 : Int32)), .val (.int (-1 : Int32)), .val (.int (-1 : Int32)), .val (.int (0 : Int32)), .val (.int (5 : Int32)), .unset, .unset] [(.int (47 : Int32)), (.int (2 : Int32)), (.ref b5)])) rfl rfl (hb hby at_222)
            refine Ends.go st34 ?_
            have V34 : Arv Z h34 b5 k5 .char (6 : Int32) [(.int (nar .char r1)), (.int (58 : Int32)), (.int (47 : Int32)), (.int (0 : Int32)), (.int (0 : Int32)), (.int (0 : Int32))] (.int (0 : Int32)) := Arv.set Ar34 q34 S34 M34 H34 G34 rfl W34 2 rfl (Nat.le_of_ble_eq_true rfl)
            have K34 := K33.wr W34 (Or.inr sz_b5)
            have O34 := O33.wr W34 g_b5
            have N34 := Fr.snoc X34 N33 g_b5
            show Ends p e below s T34 (mkF m 223 #[.val (.int p0), .val (.int p1), .val (.int p2), .val (.int p3), .val (.int s4), .val (.int s5), .val (.int s6), .val (.int s7), .val (.int r1), .val (.int r2), .val (.int r3), .val (.int (35 : Int32)), .val (.ref b5), .val (.int (-1 : Int32)), .val (.int (-1 : Int32)), .val (.int (-1 : Int32)), .val (.int (0 : Int32)), .val (.int (5 : Int32)), .unset, .unset] []) _ _ _
            refine Ends.go (fun _ k => XS.aload X34.here hx rfl (hb hby at_223) rfl rfl k) ?_
            show Ends p e below s T34 (mkF m 225 #[.val (.int p0), .val (.int p1), .val (.int p2), .val (.int p3), .val (.int s4), .val (.int s5), .val (.int s6), .val (.int s7), .val (.int r1), .val (.int r2), .val (.int r3), .val (.int (35 : Int32)), .val (.ref b5), .val (.int (-1 : Int32)), .val (.int (-1 : Int32)), .val (.int (-1 : Int32)), .val (.int (0 : Int32)), .val (.int (5 : Int32)), .unset, .unset] [(.ref b5)]) _ _ _
            refine Ends.go (fun _ k => XS.iconst X34.here hx rfl (hb hby at_225) k) ?_
            show Ends p e below s T34 (mkF m 226 #[.val (.int p0), .val (.int p1), .val (.int p2), .val (.int p3), .val (.int s4), .val (.int s5), .val (.int s6), .val (.int s7), .val (.int r1), .val (.int r2), .val (.int r3), .val (.int (35 : Int32)), .val (.ref b5), .val (.int (-1 : Int32)), .val (.int (-1 : Int32)), .val (.int (-1 : Int32)), .val (.int (0 : Int32)), .val (.int (5 : Int32)), .unset, .unset] [(.int (3 : Int32)), (.ref b5)]) _ _ _
            refine Ends.go (fun _ k => XS.iload X34.here hx rfl (hb hby at_226) rfl k) ?_
            show Ends p e below s T34 (mkF m 228 #[.val (.int p0), .val (.int p1), .val (.int p2), .val (.int p3), .val (.int s4), .val (.int s5), .val (.int s6), .val (.int s7), .val (.int r1), .val (.int r2), .val (.int r3), .val (.int (35 : Int32)), .val (.ref b5), .val (.int (-1 : Int32)), .val (.int (-1 : Int32)), .val (.int (-1 : Int32)), .val (.int (0 : Int32)), .val (.int (5 : Int32)), .unset, .unset] [(.int r2), (.int (3 : Int32)), (.ref b5)]) _ _ _
            obtain ⟨cl35, Ar35, q35, S35, M35, H35, G35⟩ := id V34
            have hin35 := inb_of (j := (3 : Int32)) S35 ⟨by decide, by decide⟩
            obtain ⟨T35, h35, X35, e35, W35, st35⟩ := stC X34 hx hZ e34 Ar35 (j := (3 : Int32)) hin35 (g := (mkF m 228 #[.val (.int p0), .val (.int p1), .val (.int p2), .val (.int p3), .val (.int s4), .val (.int s5), .val (.int s6), .val (.int s7), .val (.int r1), .val (.int r2), .val (.int r3), .val (.int (35 : Int32)), .val (.ref b5), .val (.int (-1 : Int32)), .val (.int (-1 : Int32)), .val (.int (-1 : Int32)), .val (.int (0 : Int32)), .val (.int (5 : Int32)), .unset, .unset] [(.int r2), (.int (3 : Int32)), (.ref b5)])) rfl rfl (hb hby at_228)
            refine Ends.go st35 ?_
            have V35 : Arv Z h35 b5 k5 .char (6 : Int32) [(.int (nar .char r1)), (.int (58 : Int32)), (.int (47 : Int32)), (.int (nar .char r2)), (.int (0 : Int32)), (.int (0 : Int32))] (.int (0 : Int32)) := Arv.set Ar35 q35 S35 M35 H35 G35 (fits_nar_char _) W35 3 rfl (Nat.le_of_ble_eq_true rfl)
            have K35 := K34.wr W35 (Or.inr sz_b5)
            have O35 := O34.wr W35 g_b5
            have N35 := Fr.snoc X35 N34 g_b5
            show Ends p e below s T35 (mkF m 229 #[.val (.int p0), .val (.int p1), .val (.int p2), .val (.int p3), .val (.int s4), .val (.int s5), .val (.int s6), .val (.int s7), .val (.int r1), .val (.int r2), .val (.int r3), .val (.int (35 : Int32)), .val (.ref b5), .val (.int (-1 : Int32)), .val (.int (-1 : Int32)), .val (.int (-1 : Int32)), .val (.int (0 : Int32)), .val (.int (5 : Int32)), .unset, .unset] []) _ _ _
            refine Ends.go (fun _ k => XS.aload X35.here hx rfl (hb hby at_229) rfl rfl k) ?_
            show Ends p e below s T35 (mkF m 231 #[.val (.int p0), .val (.int p1), .val (.int p2), .val (.int p3), .val (.int s4), .val (.int s5), .val (.int s6), .val (.int s7), .val (.int r1), .val (.int r2), .val (.int r3), .val (.int (35 : Int32)), .val (.ref b5), .val (.int (-1 : Int32)), .val (.int (-1 : Int32)), .val (.int (-1 : Int32)), .val (.int (0 : Int32)), .val (.int (5 : Int32)), .unset, .unset] [(.ref b5)]) _ _ _
            refine Ends.go (fun _ k => XS.iconst X35.here hx rfl (hb hby at_231) k) ?_
            show Ends p e below s T35 (mkF m 232 #[.val (.int p0), .val (.int p1), .val (.int p2), .val (.int p3), .val (.int s4), .val (.int s5), .val (.int s6), .val (.int s7), .val (.int r1), .val (.int r2), .val (.int r3), .val (.int (35 : Int32)), .val (.ref b5), .val (.int (-1 : Int32)), .val (.int (-1 : Int32)), .val (.int (-1 : Int32)), .val (.int (0 : Int32)), .val (.int (5 : Int32)), .unset, .unset] [(.int (4 : Int32)), (.ref b5)]) _ _ _
            refine Ends.go (fun _ k => XS.iload X35.here hx rfl (hb hby at_232) rfl k) ?_
            show Ends p e below s T35 (mkF m 234 #[.val (.int p0), .val (.int p1), .val (.int p2), .val (.int p3), .val (.int s4), .val (.int s5), .val (.int s6), .val (.int s7), .val (.int r1), .val (.int r2), .val (.int r3), .val (.int (35 : Int32)), .val (.ref b5), .val (.int (-1 : Int32)), .val (.int (-1 : Int32)), .val (.int (-1 : Int32)), .val (.int (0 : Int32)), .val (.int (5 : Int32)), .unset, .unset] [(.int r3), (.int (4 : Int32)), (.ref b5)]) _ _ _
            obtain ⟨cl36, Ar36, q36, S36, M36, H36, G36⟩ := id V35
            have hin36 := inb_of (j := (4 : Int32)) S36 ⟨by decide, by decide⟩
            obtain ⟨T36, h36, X36, e36, W36, st36⟩ := stC X35 hx hZ e35 Ar36 (j := (4 : Int32)) hin36 (g := (mkF m 234 #[.val (.int p0), .val (.int p1), .val (.int p2), .val (.int p3), .val (.int s4), .val (.int s5), .val (.int s6), .val (.int s7), .val (.int r1), .val (.int r2), .val (.int r3), .val (.int (35 : Int32)), .val (.ref b5), .val (.int (-1 : Int32)), .val (.int (-1 : Int32)), .val (.int (-1 : Int32)), .val (.int (0 : Int32)), .val (.int (5 : Int32)), .unset, .unset] [(.int r3), (.int (4 : Int32)), (.ref b5)])) rfl rfl (hb hby at_234)
            refine Ends.go st36 ?_
            have V36 : Arv Z h36 b5 k5 .char (6 : Int32) [(.int (nar .char r1)), (.int (58 : Int32)), (.int (47 : Int32)), (.int (nar .char r2)), (.int (nar .char r3)), (.int (0 : Int32))] (.int (0 : Int32)) := Arv.set Ar36 q36 S36 M36 H36 G36 (fits_nar_char _) W36 4 rfl (Nat.le_of_ble_eq_true rfl)
            have K36 := K35.wr W36 (Or.inr sz_b5)
            have O36 := O35.wr W36 g_b5
            have N36 := Fr.snoc X36 N35 g_b5
            show Ends p e below s T36 (mkF m 235 #[.val (.int p0), .val (.int p1), .val (.int p2), .val (.int p3), .val (.int s4), .val (.int s5), .val (.int s6), .val (.int s7), .val (.int r1), .val (.int r2), .val (.int r3), .val (.int (35 : Int32)), .val (.ref b5), .val (.int (-1 : Int32)), .val (.int (-1 : Int32)), .val (.int (-1 : Int32)), .val (.int (0 : Int32)), .val (.int (5 : Int32)), .unset, .unset] []) _ _ _
            refine Ends.go (fun _ k => XS.iconst X36.here hx rfl (hb hby at_235) k) ?_
            show Ends p e below s T36 (mkF m 236 #[.val (.int p0), .val (.int p1), .val (.int p2), .val (.int p3), .val (.int s4), .val (.int s5), .val (.int s6), .val (.int s7), .val (.int r1), .val (.int r2), .val (.int r3), .val (.int (35 : Int32)), .val (.ref b5), .val (.int (-1 : Int32)), .val (.int (-1 : Int32)), .val (.int (-1 : Int32)), .val (.int (0 : Int32)), .val (.int (5 : Int32)), .unset, .unset] [(.int (1 : Int32))]) _ _ _
            refine Ends.go (fun _ k => XS.istore X36.here hx rfl (hb hby at_236) rfl (l' := #[.val (.int p0), .val (.int p1), .val (.int p2), .val (.int p3), .val (.int s4), .val (.int s5), .val (.int s6), .val (.int s7), .val (.int r1), .val (.int r2), .val (.int r3), .val (.int (35 : Int32)), .val (.ref b5), .val (.int (1 : Int32)), .val (.int (-1 : Int32)), .val (.int (-1 : Int32)), .val (.int (0 : Int32)), .val (.int (5 : Int32)), .unset, .unset]) rfl k) ?_
            show Ends p e below s T36 (mkF m 238 #[.val (.int p0), .val (.int p1), .val (.int p2), .val (.int p3), .val (.int s4), .val (.int s5), .val (.int s6), .val (.int s7), .val (.int r1), .val (.int r2), .val (.int r3), .val (.int (35 : Int32)), .val (.ref b5), .val (.int (1 : Int32)), .val (.int (-1 : Int32)), .val (.int (-1 : Int32)), .val (.int (0 : Int32)), .val (.int (5 : Int32)), .unset, .unset] []) _ _ _
            refine Ends.go (fun _ k => XS.iconst X36.here hx rfl (hb hby at_238) k) ?_
            show Ends p e below s T36 (mkF m 239 #[.val (.int p0), .val (.int p1), .val (.int p2), .val (.int p3), .val (.int s4), .val (.int s5), .val (.int s6), .val (.int s7), .val (.int r1), .val (.int r2), .val (.int r3), .val (.int (35 : Int32)), .val (.ref b5), .val (.int (1 : Int32)), .val (.int (-1 : Int32)), .val (.int (-1 : Int32)), .val (.int (0 : Int32)), .val (.int (5 : Int32)), .unset, .unset] [(.int (2 : Int32))]) _ _ _
            refine Ends.go (fun _ k => XS.istore X36.here hx rfl (hb hby at_239) rfl (l' := #[.val (.int p0), .val (.int p1), .val (.int p2), .val (.int p3), .val (.int s4), .val (.int s5), .val (.int s6), .val (.int s7), .val (.int r1), .val (.int r2), .val (.int r3), .val (.int (35 : Int32)), .val (.ref b5), .val (.int (1 : Int32)), .val (.int (-1 : Int32)), .val (.int (-1 : Int32)), .val (.int (2 : Int32)), .val (.int (5 : Int32)), .unset, .unset]) rfl k) ?_
            show Ends p e below s T36 (mkF m 241 #[.val (.int p0), .val (.int p1), .val (.int p2), .val (.int p3), .val (.int s4), .val (.int s5), .val (.int s6), .val (.int s7), .val (.int r1), .val (.int r2), .val (.int r3), .val (.int (35 : Int32)), .val (.ref b5), .val (.int (1 : Int32)), .val (.int (-1 : Int32)), .val (.int (-1 : Int32)), .val (.int (2 : Int32)), .val (.int (5 : Int32)), .unset, .unset] []) _ _ _
            refine Ends.go (fun _ k => XS.goto X36.here hx rfl (pc0 := 241) (pc' := 324) rfl (hb hby at_241) (by decide) (by decide) k) ?_
            show Ends p e below s T36 (mkF m 324 #[.val (.int p0), .val (.int p1), .val (.int p2), .val (.int p3), .val (.int s4), .val (.int s5), .val (.int s6), .val (.int s7), .val (.int r1), .val (.int r2), .val (.int r3), .val (.int (35 : Int32)), .val (.ref b5), .val (.int (1 : Int32)), .val (.int (-1 : Int32)), .val (.int (-1 : Int32)), .val (.int (2 : Int32)), .val (.int (5 : Int32)), .unset, .unset] []) _ _ _
            refine Ends.go (fun _ k => XS.aload X36.here hx rfl (hb hby at_324) rfl rfl k) ?_
            show Ends p e below s T36 (mkF m 326 #[.val (.int p0), .val (.int p1), .val (.int p2), .val (.int p3), .val (.int s4), .val (.int s5), .val (.int s6), .val (.int s7), .val (.int r1), .val (.int r2), .val (.int r3), .val (.int (35 : Int32)), .val (.ref b5), .val (.int (1 : Int32)), .val (.int (-1 : Int32)), .val (.int (-1 : Int32)), .val (.int (2 : Int32)), .val (.int (5 : Int32)), .unset, .unset] [(.ref b5)]) _ _ _
            refine Ends.go (fun _ k => XS.iconst X36.here hx rfl (hb hby at_326) k) ?_
            show Ends p e below s T36 (mkF m 327 #[.val (.int p0), .val (.int p1), .val (.int p2), .val (.int p3), .val (.int s4), .val (.int s5), .val (.int s6), .val (.int s7), .val (.int r1), .val (.int r2), .val (.int r3), .val (.int (35 : Int32)), .val (.ref b5), .val (.int (1 : Int32)), .val (.int (-1 : Int32)), .val (.int (-1 : Int32)), .val (.int (2 : Int32)), .val (.int (5 : Int32)), .unset, .unset] [(.int (5 : Int32)), (.ref b5)]) _ _ _
            refine Ends.go (fun _ k => XS.iload X36.here hx rfl (hb hby at_327) rfl k) ?_
            show Ends p e below s T36 (mkF m 329 #[.val (.int p0), .val (.int p1), .val (.int p2), .val (.int p3), .val (.int s4), .val (.int s5), .val (.int s6), .val (.int s7), .val (.int r1), .val (.int r2), .val (.int r3), .val (.int (35 : Int32)), .val (.ref b5), .val (.int (1 : Int32)), .val (.int (-1 : Int32)), .val (.int (-1 : Int32)), .val (.int (2 : Int32)), .val (.int (5 : Int32)), .unset, .unset] [(.int (35 : Int32)), (.int (5 : Int32)), (.ref b5)]) _ _ _
            obtain ⟨cl37, Ar37, q37, S37, M37, H37, G37⟩ := id V36
            have hin37 := inb_of (j := (5 : Int32)) S37 ⟨by decide, by decide⟩
            obtain ⟨T37, h37, X37, e37, W37, st37⟩ := stC X36 hx hZ e36 Ar37 (j := (5 : Int32)) hin37 (g := (mkF m 329 #[.val (.int p0), .val (.int p1), .val (.int p2), .val (.int p3), .val (.int s4), .val (.int s5), .val (.int s6), .val (.int s7), .val (.int r1), .val (.int r2), .val (.int r3), .val (.int (35 : Int32)), .val (.ref b5), .val (.int (1 : Int32)), .val (.int (-1 : Int32)), .val (.int (-1 : Int32)), .val (.int (2 : Int32)), .val (.int (5 : Int32)), .unset, .unset] [(.int (35 : Int32)), (.int (5 : Int32)), (.ref b5)])) rfl rfl (hb hby at_329)
            refine Ends.go st37 ?_
            have V37 : Arv Z h37 b5 k5 .char (6 : Int32) [(.int (nar .char r1)), (.int (58 : Int32)), (.int (47 : Int32)), (.int (nar .char r2)), (.int (nar .char r3)), (.int (35 : Int32))] (.int (0 : Int32)) := Arv.set Ar37 q37 S37 M37 H37 G37 rfl W37 5 rfl (Nat.le_of_ble_eq_true rfl)
            have K37 := K36.wr W37 (Or.inr sz_b5)
            have O37 := O36.wr W37 g_b5
            have N37 := Fr.snoc X37 N36 g_b5
            show Ends p e below s T37 (mkF m 330 #[.val (.int p0), .val (.int p1), .val (.int p2), .val (.int p3), .val (.int s4), .val (.int s5), .val (.int s6), .val (.int s7), .val (.int r1), .val (.int r2), .val (.int r3), .val (.int (35 : Int32)), .val (.ref b5), .val (.int (1 : Int32)), .val (.int (-1 : Int32)), .val (.int (-1 : Int32)), .val (.int (2 : Int32)), .val (.int (5 : Int32)), .unset, .unset] []) _ _ _
            refine Ends.go (fun _ k => XS.iload X37.here hx rfl (hb hby at_330) rfl k) ?_
            show Ends p e below s T37 (mkF m 332 #[.val (.int p0), .val (.int p1), .val (.int p2), .val (.int p3), .val (.int s4), .val (.int s5), .val (.int s6), .val (.int s7), .val (.int r1), .val (.int r2), .val (.int r3), .val (.int (35 : Int32)), .val (.ref b5), .val (.int (1 : Int32)), .val (.int (-1 : Int32)), .val (.int (-1 : Int32)), .val (.int (2 : Int32)), .val (.int (5 : Int32)), .unset, .unset] [(.int s6)]) _ _ _
            refine Ends.go (fun _ k => XS.ifYes X37.here hx rfl (pc0 := 332) (pc' := 340) rfl (hb hby at_332) rfl ((if0 _ _).trans (teq (hc73_4 : s6 = (0 : Int32))).1) (by decide) (by decide) k) ?_
            show Ends p e below s T37 (mkF m 340 #[.val (.int p0), .val (.int p1), .val (.int p2), .val (.int p3), .val (.int s4), .val (.int s5), .val (.int s6), .val (.int s7), .val (.int r1), .val (.int r2), .val (.int r3), .val (.int (35 : Int32)), .val (.ref b5), .val (.int (1 : Int32)), .val (.int (-1 : Int32)), .val (.int (-1 : Int32)), .val (.int (2 : Int32)), .val (.int (5 : Int32)), .unset, .unset] []) _ _ _
            refine Ends.go (fun _ k => XS.iconst X37.here hx rfl (hb hby at_340) k) ?_
            show Ends p e below s T37 (mkF m 341 #[.val (.int p0), .val (.int p1), .val (.int p2), .val (.int p3), .val (.int s4), .val (.int s5), .val (.int s6), .val (.int s7), .val (.int r1), .val (.int r2), .val (.int r3), .val (.int (35 : Int32)), .val (.ref b5), .val (.int (1 : Int32)), .val (.int (-1 : Int32)), .val (.int (-1 : Int32)), .val (.int (2 : Int32)), .val (.int (5 : Int32)), .unset, .unset] [(.int (5 : Int32))]) _ _ _
            refine Ends.go (fun _ k => XS.istore X37.here hx rfl (hb hby at_341) rfl (l' := #[.val (.int p0), .val (.int p1), .val (.int p2), .val (.int p3), .val (.int s4), .val (.int s5), .val (.int s6), .val (.int s7), .val (.int r1), .val (.int r2), .val (.int r3), .val (.int (35 : Int32)), .val (.ref b5), .val (.int (1 : Int32)), .val (.int (-1 : Int32)), .val (.int (-1 : Int32)), .val (.int (2 : Int32)), .val (.int (5 : Int32)), .val (.int (5 : Int32)), .unset]) rfl k) ?_
            show Ends p e below s T37 (mkF m 343 #[.val (.int p0), .val (.int p1), .val (.int p2), .val (.int p3), .val (.int s4), .val (.int s5), .val (.int s6), .val (.int s7), .val (.int r1), .val (.int r2), .val (.int r3), .val (.int (35 : Int32)), .val (.ref b5), .val (.int (1 : Int32)), .val (.int (-1 : Int32)), .val (.int (-1 : Int32)), .val (.int (2 : Int32)), .val (.int (5 : Int32)), .val (.int (5 : Int32)), .unset] []) _ _ _
            obtain ⟨T38, h38, X38, e38, E38, A38, D38, -, st38⟩ := newO X37 hx hZ hown (hw _ (List.mem_of_getElem? (i := 6) rfl)) (hw _ (List.mem_of_getElem? (i := 7) rfl)) (hw _ (List.mem_of_getElem? (i := 8) rfl)) e37 (g := (mkF m 343 #[.val (.int p0), .val (.int p1), .val (.int p2), .val (.int p3), .val (.int s4), .val (.int s5), .val (.int s6), .val (.int s7), .val (.int r1), .val (.int r2), .val (.int r3), .val (.int (35 : Int32)), .val (.ref b5), .val (.int (1 : Int32)), .val (.int (-1 : Int32)), .val (.int (-1 : Int32)), .val (.int (2 : Int32)), .val (.int (5 : Int32)), .val (.int (5 : Int32)), .unset] [])) rfl (hb hby at_343) (by decide) (by decide)
            obtain ⟨b38, g38⟩ : ∃ z, z = h37.size := ⟨_, rfl⟩
            rw [← g38] at A38 D38 st38
            refine Ends.go st38 ?_
            have ne_b5_b38 : b5 ≠ b38 := Nat.ne_of_lt (Nat.lt_of_lt_of_le V37.lt (Nat.le_of_eq g38.symm))
            have g_b38 : n0 ≤ b38 := Nat.le_trans (own_old_le O37) (Nat.le_of_eq g38.symm)
            have sz_b38 : h0.size ≤ b38 := Nat.le_trans K37.1 (Nat.le_of_eq g38.symm)
            have K38 := K37.ext E38
            have O38 := O37.ext E38
            have F_mText_b38 : Fld Z h38 b38 "com/example/authority/authority/UriReference" "mText" "Ljava/lang/String;" .null := D38 (Or.inr (hw _ (List.mem_of_getElem? (i := 43) rfl))) (ty := (.object "java/lang/String")) (by decide)
            have F_mSchemeEnd_b38 : Fld Z h38 b38 "com/example/authority/authority/UriReference" "mSchemeEnd" "I" (.int (0 : Int32)) := D38 (Or.inr (hw _ (List.mem_of_getElem? (i := 45) rfl))) (ty := .int) (by decide)
            have F_mHostStart_b38 : Fld Z h38 b38 "com/example/authority/authority/UriReference" "mHostStart" "I" (.int (0 : Int32)) := D38 (Or.inr (hw _ (List.mem_of_getElem? (i := 47) rfl))) (ty := .int) (by decide)
            have F_mHostEnd_b38 : Fld Z h38 b38 "com/example/authority/authority/UriReference" "mHostEnd" "I" (.int (0 : Int32)) := D38 (Or.inr (hw _ (List.mem_of_getElem? (i := 49) rfl))) (ty := .int) (by decide)
            have F_mPathStart_b38 : Fld Z h38 b38 "com/example/authority/authority/UriReference" "mPathStart" "I" (.int (0 : Int32)) := D38 (Or.inr (hw _ (List.mem_of_getElem? (i := 51) rfl))) (ty := .int) (by decide)
            have F_mPathEnd_b38 : Fld Z h38 b38 "com/example/authority/authority/UriReference" "mPathEnd" "I" (.int (0 : Int32)) := D38 (Or.inr (hw _ (List.mem_of_getElem? (i := 53) rfl))) (ty := .int) (by decide)
            have F_mQueryEnd_b38 : Fld Z h38 b38 "com/example/authority/authority/UriReference" "mQueryEnd" "I" (.int (0 : Int32)) := D38 (Or.inr (hw _ (List.mem_of_getElem? (i := 55) rfl))) (ty := .int) (by decide)
            show Ends p e below s T38 (mkF m 346 #[.val (.int p0), .val (.int p1), .val (.int p2), .val (.int p3), .val (.int s4), .val (.int s5), .val (.int s6), .val (.int s7), .val (.int r1), .val (.int r2), .val (.int r3), .val (.int (35 : Int32)), .val (.ref b5), .val (.int (1 : Int32)), .val (.int (-1 : Int32)), .val (.int (-1 : Int32)), .val (.int (2 : Int32)), .val (.int (5 : Int32)), .val (.int (5 : Int32)), .unset] [(.ref b38)]) _ _ _
            refine Ends.go (fun _ k => XS.dup X38.here hx rfl (hb hby at_346) rfl rfl k) ?_
            show Ends p e below s T38 (mkF m 347 #[.val (.int p0), .val (.int p1), .val (.int p2), .val (.int p3), .val (.int s4), .val (.int s5), .val (.int s6), .val (.int s7), .val (.int r1), .val (.int r2), .val (.int r3), .val (.int (35 : Int32)), .val (.ref b5), .val (.int (1 : Int32)), .val (.int (-1 : Int32)), .val (.int (-1 : Int32)), .val (.int (2 : Int32)), .val (.int (5 : Int32)), .val (.int (5 : Int32)), .unset] [(.ref b38), (.ref b38)]) _ _ _
            obtain ⟨T39, h39, X39, e39, E39, A39, D39, -, st39⟩ := newO X38 hx hZ hown (hw _ (List.mem_of_getElem? (i := 9) rfl)) (hw _ (List.mem_of_getElem? (i := 10) rfl)) (hw _ (List.mem_of_getElem? (i := 11) rfl)) e38 (g := (mkF m 347 #[.val (.int p0), .val (.int p1), .val (.int p2), .val (.int p3), .val (.int s4), .val (.int s5), .val (.int s6), .val (.int s7), .val (.int r1), .val (.int r2), .val (.int r3), .val (.int (35 : Int32)), .val (.ref b5), .val (.int (1 : Int32)), .val (.int (-1 : Int32)), .val (.int (-1 : Int32)), .val (.int (2 : Int32)), .val (.int (5 : Int32)), .val (.int (5 : Int32)), .unset] [(.ref b38), (.ref b38)])) rfl (hb hby at_347) (by decide) (by decide)
            obtain ⟨b39, g39⟩ : ∃ z, z = h38.size := ⟨_, rfl⟩
            rw [← g39] at A39 D39 st39
            refine Ends.go st39 ?_
            have ne_b5_b39 : b5 ≠ b39 := Nat.ne_of_lt (Nat.lt_of_lt_of_le (V37.ext E38).lt (Nat.le_of_eq g39.symm))
            have ne_b38_b39 : b38 ≠ b39 := Nat.ne_of_lt (Nat.lt_of_lt_of_le A38.lt (Nat.le_of_eq g39.symm))
            have g_b39 : n0 ≤ b39 := Nat.le_trans (own_old_le O38) (Nat.le_of_eq g39.symm)
            have sz_b39 : h0.size ≤ b39 := Nat.le_trans K38.1 (Nat.le_of_eq g39.symm)
            have K39 := K38.ext E39
            have O39 := O38.ext E39
            have F_coder_b39 : Fld Z h39 b39 "java/lang/String" "coder" "B" (.int (0 : Int32)) := D39 (Or.inr (hw _ (List.mem_of_getElem? (i := 35) rfl))) (ty := .byte) (by decide)
            have F_value_b39 : Fld Z h39 b39 "java/lang/String" "value" "[B" .null := D39 (Or.inr (hw _ (List.mem_of_getElem? (i := 37) rfl))) (ty := (.array .byte)) (by decide)
            show Ends p e below s T39 (mkF m 350 #[.val (.int p0), .val (.int p1), .val (.int p2), .val (.int p3), .val (.int s4), .val (.int s5), .val (.int s6), .val (.int s7), .val (.int r1), .val (.int r2), .val (.int r3), .val (.int (35 : Int32)), .val (.ref b5), .val (.int (1 : Int32)), .val (.int (-1 : Int32)), .val (.int (-1 : Int32)), .val (.int (2 : Int32)), .val (.int (5 : Int32)), .val (.int (5 : Int32)), .unset] [(.ref b39), (.ref b38), (.ref b38)]) _ _ _
            refine Ends.go (fun _ k => XS.dup X39.here hx rfl (hb hby at_350) rfl rfl k) ?_
            show Ends p e below s T39 (mkF m 351 #[.val (.int p0), .val (.int p1), .val (.int p2), .val (.int p3), .val (.int s4), .val (.int s5), .val (.int s6), .val (.int s7), .val (.int r1), .val (.int r2), .val (.int r3), .val (.int (35 : Int32)), .val (.ref b5), .val (.int (1 : Int32)), .val (.int (-1 : Int32)), .val (.int (-1 : Int32)), .val (.int (2 : Int32)), .val (.int (5 : Int32)), .val (.int (5 : Int32)), .unset] [(.ref b39), (.ref b39), (.ref b38), (.ref b38)]) _ _ _
            refine Ends.go (fun _ k => XS.aload X39.here hx rfl (hb hby at_351) rfl rfl k) ?_
            show Ends p e below s T39 (mkF m 353 #[.val (.int p0), .val (.int p1), .val (.int p2), .val (.int p3), .val (.int s4), .val (.int s5), .val (.int s6), .val (.int s7), .val (.int r1), .val (.int r2), .val (.int r3), .val (.int (35 : Int32)), .val (.ref b5), .val (.int (1 : Int32)), .val (.int (-1 : Int32)), .val (.int (-1 : Int32)), .val (.int (2 : Int32)), .val (.int (5 : Int32)), .val (.int (5 : Int32)), .unset] [(.ref b5), (.ref b39), (.ref b39), (.ref b38), (.ref b38)]) _ _ _
            have hp40 : ∀ c ∈ ([(nar .char r1), (58 : Int32), (47 : Int32), (nar .char r2), (nar .char r3), (35 : Int32)] : List Int32), ¬ c < 0 ∧ ¬ (255 : Int32) < c := by
              intro c hc
              simp only [List.mem_cons, List.not_mem_nil, or_false] at hc
              rcases hc with rfl | rfl | rfl | rfl | rfl | rfl
              · exact own_nar hr1
              · exact (by decide)
              · exact (by decide)
              · exact own_nar hr2
              · exact own_nar hr3
              · exact (by decide)
            obtain ⟨_, _, ⟨T40, L40, k40, n40⟩, -, X40, ⟨Lc40, hQ40, l40, y40, z40⟩, st40⟩ := X39.specialBack hx (y := (⟨"java/lang/String", "<init>", "([C)V"⟩ : MethodName)) rfl hown (mvT hZ (hw _ (List.mem_of_getElem? (i := 12) rfl))) (mvT hZ (hw _ (List.mem_of_getElem? (i := 13) rfl))) (mvT hZ (hw _ (List.mem_of_getElem? (i := 14) rfl))) (by decide) (StrChars.Road.backV (W := 3) hZ hws (kI := 4) (hw _ (List.mem_of_getElem? (i := 10) rfl)) (cs := ([(nar .char r1), (58 : Int32), (47 : Int32), (nar .char r2), (nar .char r3), (35 : Int32)] : List Int32)) (bs := ([(nar .char r1), (58 : Int32), (47 : Int32), (nar .char r2), (nar .char r3), (35 : Int32)] : List Int32).map (fun c => c.toInt8.toInt32)) (n := 6) g_b39 (own_old_le O39) A39 F_value_b39 F_coder_b39 ((V37.ext E38).ext E39) (O2.ext O39.2) P5 rfl rfl (by decide) (by decide) hp40 rfl (by decide) (by decide)) (g := (mkF m 353 #[.val (.int p0), .val (.int p1), .val (.int p2), .val (.int p3), .val (.int s4), .val (.int s5), .val (.int s6), .val (.int s7), .val (.int r1), .val (.int r2), .val (.int r3), .val (.int (35 : Int32)), .val (.ref b5), .val (.int (1 : Int32)), .val (.int (-1 : Int32)), .val (.int (-1 : Int32)), .val (.int (2 : Int32)), .val (.int (5 : Int32)), .val (.int (5 : Int32)), .unset] [(.ref b5), (.ref b39), (.ref b39), (.ref b38), (.ref b38)])) rfl (by rw [hml]; rfl) (Steps.refl _) (a := b39) (argsL := [(.ref b5)]) (rest := [(.ref b39), (.ref b38), (.ref b38)]) (lenOf pd0_1 rfl) rfl (by show 2 * 0 + _ ≤ _; exact Nat.le_of_eq rfl) (hb hby at_353) (fun _ _ => ⟨rfl, e39, (by decide : 3 + 1 ≤ _), (by decide : 17 + 6 ≤ _)⟩)
            dsimp only [Pt.U, Pt.locs, Pt.cells, Pt.slots] at X40 l40 y40 z40 st40 hQ40
            subst l40 y40 z40
            obtain ⟨rfl, N40q, K40c, Eq40, Cq40, t40, kb40, -, ht40, ht40', Vq40, Aq40⟩ := hQ40
            have N40 := Fr.app N37 N40q
            refine Ends.go (fun _ k => st40.trans k) ?_
            have ne_b5_t40 : b5 ≠ t40 := Nat.ne_of_lt (Nat.lt_of_lt_of_le ((V37.ext E38).ext E39).lt ht40)
            have ne_b38_t40 : b38 ≠ t40 := Nat.ne_of_lt (Nat.lt_of_lt_of_le (A38.ext E39).lt ht40)
            have ne_b39_t40 : b39 ≠ t40 := Nat.ne_of_lt (Nat.lt_of_lt_of_le A39.lt ht40)
            have g_t40 : n0 ≤ t40 := Nat.le_trans (own_old_le O39) ht40
            have sz_t40 : h0.size ≤ t40 := Nat.le_trans K39.1 ht40
            obtain ⟨h40, e40⟩ : ∃ z, T40.heap = z := ⟨_, rfl⟩
            rw [e40] at K40c Eq40 Cq40 Vq40 Aq40
            have K40 := K39.trans K40c (allS (Or.inr sz_b39) all0)
            have O40 := O39.keep K40c (allS g_b39 all0)
            show Ends p e below s T40 (mkF m 356 #[.val (.int p0), .val (.int p1), .val (.int p2), .val (.int p3), .val (.int s4), .val (.int s5), .val (.int s6), .val (.int s7), .val (.int r1), .val (.int r2), .val (.int r3), .val (.int (35 : Int32)), .val (.ref b5), .val (.int (1 : Int32)), .val (.int (-1 : Int32)), .val (.int (-1 : Int32)), .val (.int (2 : Int32)), .val (.int (5 : Int32)), .val (.int (5 : Int32)), .unset] [(.ref b39), (.ref b38), (.ref b38)]) _ _ _
            refine Ends.go (fun _ k => XS.iload X40.here hx rfl (hb hby at_356) rfl k) ?_
            show Ends p e below s T40 (mkF m 358 #[.val (.int p0), .val (.int p1), .val (.int p2), .val (.int p3), .val (.int s4), .val (.int s5), .val (.int s6), .val (.int s7), .val (.int r1), .val (.int r2), .val (.int r3), .val (.int (35 : Int32)), .val (.ref b5), .val (.int (1 : Int32)), .val (.int (-1 : Int32)), .val (.int (-1 : Int32)), .val (.int (2 : Int32)), .val (.int (5 : Int32)), .val (.int (5 : Int32)), .unset] [(.int (1 : Int32)), (.ref b39), (.ref b38), (.ref b38)]) _ _ _
            refine Ends.go (fun _ k => XS.iload X40.here hx rfl (hb hby at_358) rfl k) ?_
            show Ends p e below s T40 (mkF m 360 #[.val (.int p0), .val (.int p1), .val (.int p2), .val (.int p3), .val (.int s4), .val (.int s5), .val (.int s6), .val (.int s7), .val (.int r1), .val (.int r2), .val (.int r3), .val (.int (35 : Int32)), .val (.ref b5), .val (.int (1 : Int32)), .val (.int (-1 : Int32)), .val (.int (-1 : Int32)), .val (.int (2 : Int32)), .val (.int (5 : Int32)), .val (.int (5 : Int32)), .unset] [(.int (-1 : Int32)), (.int (1 : Int32)), (.ref b39), (.ref b38), (.ref b38)]) _ _ _
            refine Ends.go (fun _ k => XS.iload X40.here hx rfl (hb hby at_360) rfl k) ?_
            show Ends p e below s T40 (mkF m 362 #[.val (.int p0), .val (.int p1), .val (.int p2), .val (.int p3), .val (.int s4), .val (.int s5), .val (.int s6), .val (.int s7), .val (.int r1), .val (.int r2), .val (.int r3), .val (.int (35 : Int32)), .val (.ref b5), .val (.int (1 : Int32)), .val (.int (-1 : Int32)), .val (.int (-1 : Int32)), .val (.int (2 : Int32)), .val (.int (5 : Int32)), .val (.int (5 : Int32)), .unset] [(.int (-1 : Int32)), (.int (-1 : Int32)), (.int (1 : Int32)), (.ref b39), (.ref b38), (.ref b38)]) _ _ _
            refine Ends.go (fun _ k => XS.iload X40.here hx rfl (hb hby at_362) rfl k) ?_
            show Ends p e below s T40 (mkF m 364 #[.val (.int p0), .val (.int p1), .val (.int p2), .val (.int p3), .val (.int s4), .val (.int s5), .val (.int s6), .val (.int s7), .val (.int r1), .val (.int r2), .val (.int r3), .val (.int (35 : Int32)), .val (.ref b5), .val (.int (1 : Int32)), .val (.int (-1 : Int32)), .val (.int (-1 : Int32)), .val (.int (2 : Int32)), .val (.int (5 : Int32)), .val (.int (5 : Int32)), .unset] [(.int (2 : Int32)), (.int (-1 : Int32)), (.int (-1 : Int32)), (.int (1 : Int32)), (.ref b39), (.ref b38), (.ref b38)]) _ _ _
            refine Ends.go (fun _ k => XS.iload X40.here hx rfl (hb hby at_364) rfl k) ?_
            show Ends p e below s T40 (mkF m 366 #[.val (.int p0), .val (.int p1), .val (.int p2), .val (.int p3), .val (.int s4), .val (.int s5), .val (.int s6), .val (.int s7), .val (.int r1), .val (.int r2), .val (.int r3), .val (.int (35 : Int32)), .val (.ref b5), .val (.int (1 : Int32)), .val (.int (-1 : Int32)), .val (.int (-1 : Int32)), .val (.int (2 : Int32)), .val (.int (5 : Int32)), .val (.int (5 : Int32)), .unset] [(.int (5 : Int32)), (.int (2 : Int32)), (.int (-1 : Int32)), (.int (-1 : Int32)), (.int (1 : Int32)), (.ref b39), (.ref b38), (.ref b38)]) _ _ _
            refine Ends.go (fun _ k => XS.iload X40.here hx rfl (hb hby at_366) rfl k) ?_
            show Ends p e below s T40 (mkF m 368 #[.val (.int p0), .val (.int p1), .val (.int p2), .val (.int p3), .val (.int s4), .val (.int s5), .val (.int s6), .val (.int s7), .val (.int r1), .val (.int r2), .val (.int r3), .val (.int (35 : Int32)), .val (.ref b5), .val (.int (1 : Int32)), .val (.int (-1 : Int32)), .val (.int (-1 : Int32)), .val (.int (2 : Int32)), .val (.int (5 : Int32)), .val (.int (5 : Int32)), .unset] [(.int (5 : Int32)), (.int (5 : Int32)), (.int (2 : Int32)), (.int (-1 : Int32)), (.int (-1 : Int32)), (.int (1 : Int32)), (.ref b39), (.ref b38), (.ref b38)]) _ _ _
            obtain ⟨_, _, ⟨T41, L41, k41, n41⟩, -, X41, ⟨Lc41, hQ41, l41, y41, z41⟩, st41⟩ := X40.specialBack hx (y := (⟨"com/example/authority/authority/UriReference", "<init>", "(Ljava/lang/String;IIIIII)V"⟩ : MethodName)) rfl hown (mvT hZ (hw _ (List.mem_of_getElem? (i := 38) rfl))) (mvT hZ (hw _ (List.mem_of_getElem? (i := 39) rfl))) (mvT hZ (hw _ (List.mem_of_getElem? (i := 40) rfl))) (by decide) (own_backOf (W := 1) (rmI l Z a0 hw [] n0 h40 O40 b38 b39 (1 : Int32) (-1 : Int32) (-1 : Int32) (2 : Int32) (5 : Int32) (5 : Int32) g_b38 ((A38.ext E39).keep K40c) ((F_mText_b38.ext E39).keep K40c (ninS ne_b38_b39 nin0)) ((F_mSchemeEnd_b38.ext E39).keep K40c (ninS ne_b38_b39 nin0)) ((F_mHostStart_b38.ext E39).keep K40c (ninS ne_b38_b39 nin0)) ((F_mHostEnd_b38.ext E39).keep K40c (ninS ne_b38_b39 nin0)) ((F_mPathStart_b38.ext E39).keep K40c (ninS ne_b38_b39 nin0)) ((F_mPathEnd_b38.ext E39).keep K40c (ninS ne_b38_b39 nin0)) ((F_mQueryEnd_b38.ext E39).keep K40c (ninS ne_b38_b39 nin0))) hZ (hw _ (List.mem_of_getElem? (i := 40) rfl)) (hw _ (List.mem_of_getElem? (i := 8) rfl)) (by decide) (by decide)) (g := (mkF m 368 #[.val (.int p0), .val (.int p1), .val (.int p2), .val (.int p3), .val (.int s4), .val (.int s5), .val (.int s6), .val (.int s7), .val (.int r1), .val (.int r2), .val (.int r3), .val (.int (35 : Int32)), .val (.ref b5), .val (.int (1 : Int32)), .val (.int (-1 : Int32)), .val (.int (-1 : Int32)), .val (.int (2 : Int32)), .val (.int (5 : Int32)), .val (.int (5 : Int32)), .unset] [(.int (5 : Int32)), (.int (5 : Int32)), (.int (2 : Int32)), (.int (-1 : Int32)), (.int (-1 : Int32)), (.int (1 : Int32)), (.ref b39), (.ref b38), (.ref b38)])) rfl (by rw [hml]; rfl) (Steps.refl _) (a := b38) (argsL := [(.ref b39), (.int (1 : Int32)), (.int (-1 : Int32)), (.int (-1 : Int32)), (.int (2 : Int32)), (.int (5 : Int32)), (.int (5 : Int32))]) (rest := [(.ref b38)]) (lenOf pd0_2 rfl) rfl (by show 2 * 0 + _ ≤ _; exact Nat.le_of_eq rfl) (hb hby at_368) (fun _ _ => ⟨rfl, e40, (by decide : 4 + 0 ≤ _), (by decide : 23 + 0 ≤ _)⟩)
            dsimp only [Pt.U, Pt.locs, Pt.cells, Pt.slots] at X41 l41 y41 z41 st41 hQ41
            subst l41 y41 z41
            obtain ⟨rfl, N41q, K41c, Eq41, Fq41_mText, Fq41_mSchemeEnd, Fq41_mHostStart, Fq41_mHostEnd, Fq41_mPathStart, Fq41_mPathEnd, Fq41_mQueryEnd⟩ := hQ41
            have N41 := Fr.app N40 N41q
            refine Ends.go (fun _ k => st41.trans k) ?_
            obtain ⟨h41, e41⟩ : ∃ z, T41.heap = z := ⟨_, rfl⟩
            rw [e41] at K41c Eq41 Fq41_mText Fq41_mSchemeEnd Fq41_mHostStart Fq41_mHostEnd Fq41_mPathStart Fq41_mPathEnd Fq41_mQueryEnd
            have K41 := K40.trans K41c (allS (Or.inr sz_b38) all0)
            have O41 := O40.keep K41c (allS g_b38 all0)
            show Ends p e below s T41 (mkF m 371 #[.val (.int p0), .val (.int p1), .val (.int p2), .val (.int p3), .val (.int s4), .val (.int s5), .val (.int s6), .val (.int s7), .val (.int r1), .val (.int r2), .val (.int r3), .val (.int (35 : Int32)), .val (.ref b5), .val (.int (1 : Int32)), .val (.int (-1 : Int32)), .val (.int (-1 : Int32)), .val (.int (2 : Int32)), .val (.int (5 : Int32)), .val (.int (5 : Int32)), .unset] [(.ref b38)]) _ _ _
            refine Ends.go (fun _ k => XS.astore X41.here hx rfl (hb hby at_371) rfl rfl (l' := #[.val (.int p0), .val (.int p1), .val (.int p2), .val (.int p3), .val (.int s4), .val (.int s5), .val (.int s6), .val (.int s7), .val (.int r1), .val (.int r2), .val (.int r3), .val (.int (35 : Int32)), .val (.ref b5), .val (.int (1 : Int32)), .val (.int (-1 : Int32)), .val (.int (-1 : Int32)), .val (.int (2 : Int32)), .val (.int (5 : Int32)), .val (.int (5 : Int32)), .val (.ref b38)]) rfl k) ?_
            show Ends p e below s T41 (mkF m 373 #[.val (.int p0), .val (.int p1), .val (.int p2), .val (.int p3), .val (.int s4), .val (.int s5), .val (.int s6), .val (.int s7), .val (.int r1), .val (.int r2), .val (.int r3), .val (.int (35 : Int32)), .val (.ref b5), .val (.int (1 : Int32)), .val (.int (-1 : Int32)), .val (.int (-1 : Int32)), .val (.int (2 : Int32)), .val (.int (5 : Int32)), .val (.int (5 : Int32)), .val (.ref b38)] []) _ _ _
            refine Ends.go (fun _ k => XS.aload X41.here hx rfl (hb hby at_373) rfl rfl k) ?_
            show Ends p e below s T41 (mkF m 375 #[.val (.int p0), .val (.int p1), .val (.int p2), .val (.int p3), .val (.int s4), .val (.int s5), .val (.int s6), .val (.int s7), .val (.int r1), .val (.int r2), .val (.int r3), .val (.int (35 : Int32)), .val (.ref b5), .val (.int (1 : Int32)), .val (.int (-1 : Int32)), .val (.int (-1 : Int32)), .val (.int (2 : Int32)), .val (.int (5 : Int32)), .val (.int (5 : Int32)), .val (.ref b38)] [(.ref b38)]) _ _ _
            obtain ⟨cq42, kq42, q42a, q42b, q42c⟩ := isOf hZ e41 Eq41
            obtain ⟨_, _, ⟨T42, L42, k42, n42⟩, -, X42, ⟨Lc42, hQ42, l42, y42, z42⟩, st42⟩ := X41.virtualBack hx (y := (⟨"com/example/authority/authority/UriReference", "isUri", "()Z"⟩ : MethodName)) (z := (⟨"com/example/authority/authority/UriReference", "isUri", "()Z"⟩ : MethodName)) hown (mvT hZ (hw _ (List.mem_of_getElem? (i := 56) rfl))) (mvT hZ (hw _ (List.mem_of_getElem? (i := 57) rfl))) (notFace_of_selects (args := #[]) (mvT hZ (hw _ (List.mem_of_getElem? (i := 59) rfl)))) (mvT hZ (hw _ (List.mem_of_getElem? (i := 59) rfl))) (mvT hZ (hw _ (List.mem_of_getElem? (i := 58) rfl))) (by decide) (own_backOf (W := 0) (rmQ l Z a0 hw [] n0 h41 O41 b38 (1 : Int32) Fq41_mSchemeEnd (1 : Int32) (by decide)) hZ (hw _ (List.mem_of_getElem? (i := 60) rfl)) (hw _ (List.mem_of_getElem? (i := 8) rfl)) (by decide) (by decide)) q42a q42c (g := (mkF m 375 #[.val (.int p0), .val (.int p1), .val (.int p2), .val (.int p3), .val (.int s4), .val (.int s5), .val (.int s6), .val (.int s7), .val (.int r1), .val (.int r2), .val (.int r3), .val (.int (35 : Int32)), .val (.ref b5), .val (.int (1 : Int32)), .val (.int (-1 : Int32)), .val (.int (-1 : Int32)), .val (.int (2 : Int32)), .val (.int (5 : Int32)), .val (.int (5 : Int32)), .val (.ref b38)] [(.ref b38)])) rfl (by rw [hml]; rfl) (Steps.refl _) (argsL := []) (rest := []) (lenOf pd0_3 rfl) rfl (by show 2 * 0 + _ ≤ _; exact Nat.le_of_eq rfl) (hb hby at_375) (fun _ _ => ⟨rfl, e41, (by decide : 4 + 0 ≤ _), (by decide : 23 + 0 ≤ _)⟩)
            dsimp only [Pt.U, Pt.locs, Pt.cells, Pt.slots] at X42 l42 y42 z42 st42 hQ42
            subst l42 y42 z42
            obtain ⟨rfl, N42q, e42q⟩ := hQ42
            have N42 := Fr.app N41 N42q
            refine Ends.go (fun _ k => st42.trans k) ?_
            show Ends p e below s T42 (mkF m 378 #[.val (.int p0), .val (.int p1), .val (.int p2), .val (.int p3), .val (.int s4), .val (.int s5), .val (.int s6), .val (.int s7), .val (.int r1), .val (.int r2), .val (.int r3), .val (.int (35 : Int32)), .val (.ref b5), .val (.int (1 : Int32)), .val (.int (-1 : Int32)), .val (.int (-1 : Int32)), .val (.int (2 : Int32)), .val (.int (5 : Int32)), .val (.int (5 : Int32)), .val (.ref b38)] [(.int (1 : Int32))]) _ _ _
            refine Ends.go (fun _ k => XS.iload X42.here hx rfl (hb hby at_378) rfl k) ?_
            show Ends p e below s T42 (mkF m 380 #[.val (.int p0), .val (.int p1), .val (.int p2), .val (.int p3), .val (.int s4), .val (.int s5), .val (.int s6), .val (.int s7), .val (.int r1), .val (.int r2), .val (.int r3), .val (.int (35 : Int32)), .val (.ref b5), .val (.int (1 : Int32)), .val (.int (-1 : Int32)), .val (.int (-1 : Int32)), .val (.int (2 : Int32)), .val (.int (5 : Int32)), .val (.int (5 : Int32)), .val (.ref b38)] [(.int s4), (.int (1 : Int32))]) _ _ _
            refine Ends.go (fun _ k => XS.icmpNo X42.here hx rfl (hb hby at_380) rfl (teq ((h4.resolve_left hc108_6).symm : (1 : Int32) = s4)).2 k) ?_
            show Ends p e below s T42 (mkF m 383 #[.val (.int p0), .val (.int p1), .val (.int p2), .val (.int p3), .val (.int s4), .val (.int s5), .val (.int s6), .val (.int s7), .val (.int r1), .val (.int r2), .val (.int r3), .val (.int (35 : Int32)), .val (.ref b5), .val (.int (1 : Int32)), .val (.int (-1 : Int32)), .val (.int (-1 : Int32)), .val (.int (2 : Int32)), .val (.int (5 : Int32)), .val (.int (5 : Int32)), .val (.ref b38)] []) _ _ _
            refine Ends.go (fun _ k => XS.iconst X42.here hx rfl (hb hby at_383) k) ?_
            show Ends p e below s T42 (mkF m 384 #[.val (.int p0), .val (.int p1), .val (.int p2), .val (.int p3), .val (.int s4), .val (.int s5), .val (.int s6), .val (.int s7), .val (.int r1), .val (.int r2), .val (.int r3), .val (.int (35 : Int32)), .val (.ref b5), .val (.int (1 : Int32)), .val (.int (-1 : Int32)), .val (.int (-1 : Int32)), .val (.int (2 : Int32)), .val (.int (5 : Int32)), .val (.int (5 : Int32)), .val (.ref b38)] [(.int (1 : Int32))]) _ _ _
            refine Ends.go (fun _ k => XS.goto X42.here hx rfl (pc0 := 384) (pc' := 388) rfl (hb hby at_384) (by decide) (by decide) k) ?_
            show Ends p e below s T42 (mkF m 388 #[.val (.int p0), .val (.int p1), .val (.int p2), .val (.int p3), .val (.int s4), .val (.int s5), .val (.int s6), .val (.int s7), .val (.int r1), .val (.int r2), .val (.int r3), .val (.int (35 : Int32)), .val (.ref b5), .val (.int (1 : Int32)), .val (.int (-1 : Int32)), .val (.int (-1 : Int32)), .val (.int (2 : Int32)), .val (.int (5 : Int32)), .val (.int (5 : Int32)), .val (.ref b38)] [(.int (1 : Int32))]) _ _ _
            refine Ends.retZ X42 hx Bd.notSynchronized (t := .boolean) Bd.returns (by simp) (hb hby at_388) (by decide) (by decide) ?_
            exact ⟨rfl, N42⟩
          · refine Ends.go (fun _ k => XS.ifNo X5.here hx rfl (hb hby at_163) rfl ((if0 _ _).trans (feq hc163_31).1) k) ?_
            show Ends p e below s T5 (mkF m 166 #[.val (.int p0), .val (.int p1), .val (.int p2), .val (.int p3), .val (.int s4), .val (.int s5), .val (.int s6), .val (.int s7), .val (.int r1), .val (.int r2), .val (.int r3), .val (.int (35 : Int32)), .val (.ref b5), .val (.int (-1 : Int32)), .val (.int (-1 : Int32)), .val (.int (-1 : Int32)), .val (.int (0 : Int32)), .val (.int (5 : Int32)), .unset, .unset] []) _ _ _
            refine Ends.go (fun _ k => XS.aload X5.here hx rfl (hb hby at_166) rfl rfl k) ?_
            show Ends p e below s T5 (mkF m 168 #[.val (.int p0), .val (.int p1), .val (.int p2), .val (.int p3), .val (.int s4), .val (.int s5), .val (.int s6), .val (.int s7), .val (.int r1), .val (.int r2), .val (.int r3), .val (.int (35 : Int32)), .val (.ref b5), .val (.int (-1 : Int32)), .val (.int (-1 : Int32)), .val (.int (-1 : Int32)), .val (.int (0 : Int32)), .val (.int (5 : Int32)), .unset, .unset] [(.ref b5)]) _ _ _
            refine Ends.go (fun _ k => XS.iconst X5.here hx rfl (hb hby at_168) k) ?_
            show Ends p e below s T5 (mkF m 169 #[.val (.int p0), .val (.int p1), .val (.int p2), .val (.int p3), .val (.int s4), .val (.int s5), .val (.int s6), .val (.int s7), .val (.int r1), .val (.int r2), .val (.int r3), .val (.int (35 : Int32)), .val (.ref b5), .val (.int (-1 : Int32)), .val (.int (-1 : Int32)), .val (.int (-1 : Int32)), .val (.int (0 : Int32)), .val (.int (5 : Int32)), .unset, .unset] [(.int (0 : Int32)), (.ref b5)]) _ _ _
            refine Ends.go (fun _ k => XS.iload X5.here hx rfl (hb hby at_169) rfl k) ?_
            show Ends p e below s T5 (mkF m 171 #[.val (.int p0), .val (.int p1), .val (.int p2), .val (.int p3), .val (.int s4), .val (.int s5), .val (.int s6), .val (.int s7), .val (.int r1), .val (.int r2), .val (.int r3), .val (.int (35 : Int32)), .val (.ref b5), .val (.int (-1 : Int32)), .val (.int (-1 : Int32)), .val (.int (-1 : Int32)), .val (.int (0 : Int32)), .val (.int (5 : Int32)), .unset, .unset] [(.int r1), (.int (0 : Int32)), (.ref b5)]) _ _ _
            obtain ⟨cl43, Ar43, q43, S43, M43, H43, G43⟩ := id V_b5
            have hin43 := inb_of (j := (0 : Int32)) S43 ⟨by decide, by decide⟩
            obtain ⟨T43, h43, X43, e43, W43, st43⟩ := stC X5 hx hZ e5 Ar43 (j := (0 : Int32)) hin43 (g := (mkF m 171 #[.val (.int p0), .val (.int p1), .val (.int p2), .val (.int p3), .val (.int s4), .val (.int s5), .val (.int s6), .val (.int s7), .val (.int r1), .val (.int r2), .val (.int r3), .val (.int (35 : Int32)), .val (.ref b5), .val (.int (-1 : Int32)), .val (.int (-1 : Int32)), .val (.int (-1 : Int32)), .val (.int (0 : Int32)), .val (.int (5 : Int32)), .unset, .unset] [(.int r1), (.int (0 : Int32)), (.ref b5)])) rfl rfl (hb hby at_171)
            refine Ends.go st43 ?_
            have V43 : Arv Z h43 b5 k5 .char (6 : Int32) [(.int (nar .char r1)), (.int (0 : Int32)), (.int (0 : Int32)), (.int (0 : Int32)), (.int (0 : Int32)), (.int (0 : Int32))] (.int (0 : Int32)) := Arv.set Ar43 q43 S43 M43 H43 G43 (fits_nar_char _) W43 0 rfl (Nat.le_of_ble_eq_true rfl)
            have K43 := K5.wr W43 (Or.inr sz_b5)
            have O43 := O5.wr W43 g_b5
            have N43 := Fr.snoc X43 N3 g_b5
            show Ends p e below s T43 (mkF m 172 #[.val (.int p0), .val (.int p1), .val (.int p2), .val (.int p3), .val (.int s4), .val (.int s5), .val (.int s6), .val (.int s7), .val (.int r1), .val (.int r2), .val (.int r3), .val (.int (35 : Int32)), .val (.ref b5), .val (.int (-1 : Int32)), .val (.int (-1 : Int32)), .val (.int (-1 : Int32)), .val (.int (0 : Int32)), .val (.int (5 : Int32)), .unset, .unset] []) _ _ _
            refine Ends.go (fun _ k => XS.aload X43.here hx rfl (hb hby at_172) rfl rfl k) ?_
            show Ends p e below s T43 (mkF m 174 #[.val (.int p0), .val (.int p1), .val (.int p2), .val (.int p3), .val (.int s4), .val (.int s5), .val (.int s6), .val (.int s7), .val (.int r1), .val (.int r2), .val (.int r3), .val (.int (35 : Int32)), .val (.ref b5), .val (.int (-1 : Int32)), .val (.int (-1 : Int32)), .val (.int (-1 : Int32)), .val (.int (0 : Int32)), .val (.int (5 : Int32)), .unset, .unset] [(.ref b5)]) _ _ _
            refine Ends.go (fun _ k => XS.iconst X43.here hx rfl (hb hby at_174) k) ?_
            show Ends p e below s T43 (mkF m 175 #[.val (.int p0), .val (.int p1), .val (.int p2), .val (.int p3), .val (.int s4), .val (.int s5), .val (.int s6), .val (.int s7), .val (.int r1), .val (.int r2), .val (.int r3), .val (.int (35 : Int32)), .val (.ref b5), .val (.int (-1 : Int32)), .val (.int (-1 : Int32)), .val (.int (-1 : Int32)), .val (.int (0 : Int32)), .val (.int (5 : Int32)), .unset, .unset] [(.int (1 : Int32)), (.ref b5)]) _ _ _
            refine Ends.go (fun _ k => XS.iload X43.here hx rfl (hb hby at_175) rfl k) ?_
            show Ends p e below s T43 (mkF m 177 #[.val (.int p0), .val (.int p1), .val (.int p2), .val (.int p3), .val (.int s4), .val (.int s5), .val (.int s6), .val (.int s7), .val (.int r1), .val (.int r2), .val (.int r3), .val (.int (35 : Int32)), .val (.ref b5), .val (.int (-1 : Int32)), .val (.int (-1 : Int32)), .val (.int (-1 : Int32)), .val (.int (0 : Int32)), .val (.int (5 : Int32)), .unset, .unset] [(.int r2), (.int (1 : Int32)), (.ref b5)]) _ _ _
            obtain ⟨cl44, Ar44, q44, S44, M44, H44, G44⟩ := id V43
            have hin44 := inb_of (j := (1 : Int32)) S44 ⟨by decide, by decide⟩
            obtain ⟨T44, h44, X44, e44, W44, st44⟩ := stC X43 hx hZ e43 Ar44 (j := (1 : Int32)) hin44 (g := (mkF m 177 #[.val (.int p0), .val (.int p1), .val (.int p2), .val (.int p3), .val (.int s4), .val (.int s5), .val (.int s6), .val (.int s7), .val (.int r1), .val (.int r2), .val (.int r3), .val (.int (35 : Int32)), .val (.ref b5), .val (.int (-1 : Int32)), .val (.int (-1 : Int32)), .val (.int (-1 : Int32)), .val (.int (0 : Int32)), .val (.int (5 : Int32)), .unset, .unset] [(.int r2), (.int (1 : Int32)), (.ref b5)])) rfl rfl (hb hby at_177)
            refine Ends.go st44 ?_
            have V44 : Arv Z h44 b5 k5 .char (6 : Int32) [(.int (nar .char r1)), (.int (nar .char r2)), (.int (0 : Int32)), (.int (0 : Int32)), (.int (0 : Int32)), (.int (0 : Int32))] (.int (0 : Int32)) := Arv.set Ar44 q44 S44 M44 H44 G44 (fits_nar_char _) W44 1 rfl (Nat.le_of_ble_eq_true rfl)
            have K44 := K43.wr W44 (Or.inr sz_b5)
            have O44 := O43.wr W44 g_b5
            have N44 := Fr.snoc X44 N43 g_b5
            show Ends p e below s T44 (mkF m 178 #[.val (.int p0), .val (.int p1), .val (.int p2), .val (.int p3), .val (.int s4), .val (.int s5), .val (.int s6), .val (.int s7), .val (.int r1), .val (.int r2), .val (.int r3), .val (.int (35 : Int32)), .val (.ref b5), .val (.int (-1 : Int32)), .val (.int (-1 : Int32)), .val (.int (-1 : Int32)), .val (.int (0 : Int32)), .val (.int (5 : Int32)), .unset, .unset] []) _ _ _
            refine Ends.go (fun _ k => XS.aload X44.here hx rfl (hb hby at_178) rfl rfl k) ?_
            show Ends p e below s T44 (mkF m 180 #[.val (.int p0), .val (.int p1), .val (.int p2), .val (.int p3), .val (.int s4), .val (.int s5), .val (.int s6), .val (.int s7), .val (.int r1), .val (.int r2), .val (.int r3), .val (.int (35 : Int32)), .val (.ref b5), .val (.int (-1 : Int32)), .val (.int (-1 : Int32)), .val (.int (-1 : Int32)), .val (.int (0 : Int32)), .val (.int (5 : Int32)), .unset, .unset] [(.ref b5)]) _ _ _
            refine Ends.go (fun _ k => XS.iconst X44.here hx rfl (hb hby at_180) k) ?_
            show Ends p e below s T44 (mkF m 181 #[.val (.int p0), .val (.int p1), .val (.int p2), .val (.int p3), .val (.int s4), .val (.int s5), .val (.int s6), .val (.int s7), .val (.int r1), .val (.int r2), .val (.int r3), .val (.int (35 : Int32)), .val (.ref b5), .val (.int (-1 : Int32)), .val (.int (-1 : Int32)), .val (.int (-1 : Int32)), .val (.int (0 : Int32)), .val (.int (5 : Int32)), .unset, .unset] [(.int (2 : Int32)), (.ref b5)]) _ _ _
            refine Ends.go (fun _ k => XS.bipush X44.here hx rfl (hb hby at_181) k) ?_
            show Ends p e below s T44 (mkF m 183 #[.val (.int p0), .val (.int p1), .val (.int p2), .val (.int p3), .val (.int s4), .val (.int s5), .val (.int s6), .val (.int s7), .val (.int r1), .val (.int r2), .val (.int r3), .val (.int (35 : Int32)), .val (.ref b5), .val (.int (-1 : Int32)), .val (.int (-1 : Int32)), .val (.int (-1 : Int32)), .val (.int (0 : Int32)), .val (.int (5 : Int32)), .unset, .unset] [(.int (58 : Int32)), (.int (2 : Int32)), (.ref b5)]) _ _ _
            obtain ⟨cl45, Ar45, q45, S45, M45, H45, G45⟩ := id V44
            have hin45 := inb_of (j := (2 : Int32)) S45 ⟨by decide, by decide⟩
            obtain ⟨T45, h45, X45, e45, W45, st45⟩ := stC X44 hx hZ e44 Ar45 (j := (2 : Int32)) hin45 (g := (mkF m 183 #[.val (.int p0), .val (.int p1), .val (.int p2), .val (.int p3), .val (.int s4), .val (.int s5), .val (.int s6), .val (.int s7), .val (.int r1), .val (.int r2), .val (.int r3), .val (.int (35 : Int32)), .val (.ref b5), .val (.int (-1 : Int32)), .val (.int (-1 : Int32)), .val (.int (-1 : Int32)), .val (.int (0 : Int32)), .val (.int (5 : Int32)), .unset, .unset] [(.int (58 : Int32)), (.int (2 : Int32)), (.ref b5)])) rfl rfl (hb hby at_183)
            refine Ends.go st45 ?_
            have V45 : Arv Z h45 b5 k5 .char (6 : Int32) [(.int (nar .char r1)), (.int (nar .char r2)), (.int (58 : Int32)), (.int (0 : Int32)), (.int (0 : Int32)), (.int (0 : Int32))] (.int (0 : Int32)) := Arv.set Ar45 q45 S45 M45 H45 G45 rfl W45 2 rfl (Nat.le_of_ble_eq_true rfl)
            have K45 := K44.wr W45 (Or.inr sz_b5)
            have O45 := O44.wr W45 g_b5
            have N45 := Fr.snoc X45 N44 g_b5
            show Ends p e below s T45 (mkF m 184 #[.val (.int p0), .val (.int p1), .val (.int p2), .val (.int p3), .val (.int s4), .val (.int s5), .val (.int s6), .val (.int s7), .val (.int r1), .val (.int r2), .val (.int r3), .val (.int (35 : Int32)), .val (.ref b5), .val (.int (-1 : Int32)), .val (.int (-1 : Int32)), .val (.int (-1 : Int32)), .val (.int (0 : Int32)), .val (.int (5 : Int32)), .unset, .unset] []) _ _ _
            refine Ends.go (fun _ k => XS.aload X45.here hx rfl (hb hby at_184) rfl rfl k) ?_
            show Ends p e below s T45 (mkF m 186 #[.val (.int p0), .val (.int p1), .val (.int p2), .val (.int p3), .val (.int s4), .val (.int s5), .val (.int s6), .val (.int s7), .val (.int r1), .val (.int r2), .val (.int r3), .val (.int (35 : Int32)), .val (.ref b5), .val (.int (-1 : Int32)), .val (.int (-1 : Int32)), .val (.int (-1 : Int32)), .val (.int (0 : Int32)), .val (.int (5 : Int32)), .unset, .unset] [(.ref b5)]) _ _ _
            refine Ends.go (fun _ k => XS.iconst X45.here hx rfl (hb hby at_186) k) ?_
            show Ends p e below s T45 (mkF m 187 #[.val (.int p0), .val (.int p1), .val (.int p2), .val (.int p3), .val (.int s4), .val (.int s5), .val (.int s6), .val (.int s7), .val (.int r1), .val (.int r2), .val (.int r3), .val (.int (35 : Int32)), .val (.ref b5), .val (.int (-1 : Int32)), .val (.int (-1 : Int32)), .val (.int (-1 : Int32)), .val (.int (0 : Int32)), .val (.int (5 : Int32)), .unset, .unset] [(.int (3 : Int32)), (.ref b5)]) _ _ _
            refine Ends.go (fun _ k => XS.bipush X45.here hx rfl (hb hby at_187) k) ?_
            show Ends p e below s T45 (mkF m 189 #[.val (.int p0), .val (.int p1), .val (.int p2), .val (.int p3), .val (.int s4), .val (.int s5), .val (.int s6), .val (.int s7), .val (.int r1), .val (.int r2), .val (.int r3), .val (.int (35 : Int32)), .val (.ref b5), .val (.int (-1 : Int32)), .val (.int (-1 : Int32)), .val (.int (-1 : Int32)), .val (.int (0 : Int32)), .val (.int (5 : Int32)), .unset, .unset] [(.int (47 : Int32)), (.int (3 : Int32)), (.ref b5)]) _ _ _
            obtain ⟨cl46, Ar46, q46, S46, M46, H46, G46⟩ := id V45
            have hin46 := inb_of (j := (3 : Int32)) S46 ⟨by decide, by decide⟩
            obtain ⟨T46, h46, X46, e46, W46, st46⟩ := stC X45 hx hZ e45 Ar46 (j := (3 : Int32)) hin46 (g := (mkF m 189 #[.val (.int p0), .val (.int p1), .val (.int p2), .val (.int p3), .val (.int s4), .val (.int s5), .val (.int s6), .val (.int s7), .val (.int r1), .val (.int r2), .val (.int r3), .val (.int (35 : Int32)), .val (.ref b5), .val (.int (-1 : Int32)), .val (.int (-1 : Int32)), .val (.int (-1 : Int32)), .val (.int (0 : Int32)), .val (.int (5 : Int32)), .unset, .unset] [(.int (47 : Int32)), (.int (3 : Int32)), (.ref b5)])) rfl rfl (hb hby at_189)
            refine Ends.go st46 ?_
            have V46 : Arv Z h46 b5 k5 .char (6 : Int32) [(.int (nar .char r1)), (.int (nar .char r2)), (.int (58 : Int32)), (.int (47 : Int32)), (.int (0 : Int32)), (.int (0 : Int32))] (.int (0 : Int32)) := Arv.set Ar46 q46 S46 M46 H46 G46 rfl W46 3 rfl (Nat.le_of_ble_eq_true rfl)
            have K46 := K45.wr W46 (Or.inr sz_b5)
            have O46 := O45.wr W46 g_b5
            have N46 := Fr.snoc X46 N45 g_b5
            show Ends p e below s T46 (mkF m 190 #[.val (.int p0), .val (.int p1), .val (.int p2), .val (.int p3), .val (.int s4), .val (.int s5), .val (.int s6), .val (.int s7), .val (.int r1), .val (.int r2), .val (.int r3), .val (.int (35 : Int32)), .val (.ref b5), .val (.int (-1 : Int32)), .val (.int (-1 : Int32)), .val (.int (-1 : Int32)), .val (.int (0 : Int32)), .val (.int (5 : Int32)), .unset, .unset] []) _ _ _
            refine Ends.go (fun _ k => XS.aload X46.here hx rfl (hb hby at_190) rfl rfl k) ?_
            show Ends p e below s T46 (mkF m 192 #[.val (.int p0), .val (.int p1), .val (.int p2), .val (.int p3), .val (.int s4), .val (.int s5), .val (.int s6), .val (.int s7), .val (.int r1), .val (.int r2), .val (.int r3), .val (.int (35 : Int32)), .val (.ref b5), .val (.int (-1 : Int32)), .val (.int (-1 : Int32)), .val (.int (-1 : Int32)), .val (.int (0 : Int32)), .val (.int (5 : Int32)), .unset, .unset] [(.ref b5)]) _ _ _
            refine Ends.go (fun _ k => XS.iconst X46.here hx rfl (hb hby at_192) k) ?_
            show Ends p e below s T46 (mkF m 193 #[.val (.int p0), .val (.int p1), .val (.int p2), .val (.int p3), .val (.int s4), .val (.int s5), .val (.int s6), .val (.int s7), .val (.int r1), .val (.int r2), .val (.int r3), .val (.int (35 : Int32)), .val (.ref b5), .val (.int (-1 : Int32)), .val (.int (-1 : Int32)), .val (.int (-1 : Int32)), .val (.int (0 : Int32)), .val (.int (5 : Int32)), .unset, .unset] [(.int (4 : Int32)), (.ref b5)]) _ _ _
            refine Ends.go (fun _ k => XS.iload X46.here hx rfl (hb hby at_193) rfl k) ?_
            show Ends p e below s T46 (mkF m 195 #[.val (.int p0), .val (.int p1), .val (.int p2), .val (.int p3), .val (.int s4), .val (.int s5), .val (.int s6), .val (.int s7), .val (.int r1), .val (.int r2), .val (.int r3), .val (.int (35 : Int32)), .val (.ref b5), .val (.int (-1 : Int32)), .val (.int (-1 : Int32)), .val (.int (-1 : Int32)), .val (.int (0 : Int32)), .val (.int (5 : Int32)), .unset, .unset] [(.int r3), (.int (4 : Int32)), (.ref b5)]) _ _ _
            obtain ⟨cl47, Ar47, q47, S47, M47, H47, G47⟩ := id V46
            have hin47 := inb_of (j := (4 : Int32)) S47 ⟨by decide, by decide⟩
            obtain ⟨T47, h47, X47, e47, W47, st47⟩ := stC X46 hx hZ e46 Ar47 (j := (4 : Int32)) hin47 (g := (mkF m 195 #[.val (.int p0), .val (.int p1), .val (.int p2), .val (.int p3), .val (.int s4), .val (.int s5), .val (.int s6), .val (.int s7), .val (.int r1), .val (.int r2), .val (.int r3), .val (.int (35 : Int32)), .val (.ref b5), .val (.int (-1 : Int32)), .val (.int (-1 : Int32)), .val (.int (-1 : Int32)), .val (.int (0 : Int32)), .val (.int (5 : Int32)), .unset, .unset] [(.int r3), (.int (4 : Int32)), (.ref b5)])) rfl rfl (hb hby at_195)
            refine Ends.go st47 ?_
            have V47 : Arv Z h47 b5 k5 .char (6 : Int32) [(.int (nar .char r1)), (.int (nar .char r2)), (.int (58 : Int32)), (.int (47 : Int32)), (.int (nar .char r3)), (.int (0 : Int32))] (.int (0 : Int32)) := Arv.set Ar47 q47 S47 M47 H47 G47 (fits_nar_char _) W47 4 rfl (Nat.le_of_ble_eq_true rfl)
            have K47 := K46.wr W47 (Or.inr sz_b5)
            have O47 := O46.wr W47 g_b5
            have N47 := Fr.snoc X47 N46 g_b5
            show Ends p e below s T47 (mkF m 196 #[.val (.int p0), .val (.int p1), .val (.int p2), .val (.int p3), .val (.int s4), .val (.int s5), .val (.int s6), .val (.int s7), .val (.int r1), .val (.int r2), .val (.int r3), .val (.int (35 : Int32)), .val (.ref b5), .val (.int (-1 : Int32)), .val (.int (-1 : Int32)), .val (.int (-1 : Int32)), .val (.int (0 : Int32)), .val (.int (5 : Int32)), .unset, .unset] []) _ _ _
            refine Ends.go (fun _ k => XS.iconst X47.here hx rfl (hb hby at_196) k) ?_
            show Ends p e below s T47 (mkF m 197 #[.val (.int p0), .val (.int p1), .val (.int p2), .val (.int p3), .val (.int s4), .val (.int s5), .val (.int s6), .val (.int s7), .val (.int r1), .val (.int r2), .val (.int r3), .val (.int (35 : Int32)), .val (.ref b5), .val (.int (-1 : Int32)), .val (.int (-1 : Int32)), .val (.int (-1 : Int32)), .val (.int (0 : Int32)), .val (.int (5 : Int32)), .unset, .unset] [(.int (2 : Int32))]) _ _ _
            refine Ends.go (fun _ k => XS.istore X47.here hx rfl (hb hby at_197) rfl (l' := #[.val (.int p0), .val (.int p1), .val (.int p2), .val (.int p3), .val (.int s4), .val (.int s5), .val (.int s6), .val (.int s7), .val (.int r1), .val (.int r2), .val (.int r3), .val (.int (35 : Int32)), .val (.ref b5), .val (.int (2 : Int32)), .val (.int (-1 : Int32)), .val (.int (-1 : Int32)), .val (.int (0 : Int32)), .val (.int (5 : Int32)), .unset, .unset]) rfl k) ?_
            show Ends p e below s T47 (mkF m 199 #[.val (.int p0), .val (.int p1), .val (.int p2), .val (.int p3), .val (.int s4), .val (.int s5), .val (.int s6), .val (.int s7), .val (.int r1), .val (.int r2), .val (.int r3), .val (.int (35 : Int32)), .val (.ref b5), .val (.int (2 : Int32)), .val (.int (-1 : Int32)), .val (.int (-1 : Int32)), .val (.int (0 : Int32)), .val (.int (5 : Int32)), .unset, .unset] []) _ _ _
            refine Ends.go (fun _ k => XS.iconst X47.here hx rfl (hb hby at_199) k) ?_
            show Ends p e below s T47 (mkF m 200 #[.val (.int p0), .val (.int p1), .val (.int p2), .val (.int p3), .val (.int s4), .val (.int s5), .val (.int s6), .val (.int s7), .val (.int r1), .val (.int r2), .val (.int r3), .val (.int (35 : Int32)), .val (.ref b5), .val (.int (2 : Int32)), .val (.int (-1 : Int32)), .val (.int (-1 : Int32)), .val (.int (0 : Int32)), .val (.int (5 : Int32)), .unset, .unset] [(.int (3 : Int32))]) _ _ _
            refine Ends.go (fun _ k => XS.istore X47.here hx rfl (hb hby at_200) rfl (l' := #[.val (.int p0), .val (.int p1), .val (.int p2), .val (.int p3), .val (.int s4), .val (.int s5), .val (.int s6), .val (.int s7), .val (.int r1), .val (.int r2), .val (.int r3), .val (.int (35 : Int32)), .val (.ref b5), .val (.int (2 : Int32)), .val (.int (-1 : Int32)), .val (.int (-1 : Int32)), .val (.int (3 : Int32)), .val (.int (5 : Int32)), .unset, .unset]) rfl k) ?_
            show Ends p e below s T47 (mkF m 202 #[.val (.int p0), .val (.int p1), .val (.int p2), .val (.int p3), .val (.int s4), .val (.int s5), .val (.int s6), .val (.int s7), .val (.int r1), .val (.int r2), .val (.int r3), .val (.int (35 : Int32)), .val (.ref b5), .val (.int (2 : Int32)), .val (.int (-1 : Int32)), .val (.int (-1 : Int32)), .val (.int (3 : Int32)), .val (.int (5 : Int32)), .unset, .unset] []) _ _ _
            refine Ends.go (fun _ k => XS.goto X47.here hx rfl (pc0 := 202) (pc' := 324) rfl (hb hby at_202) (by decide) (by decide) k) ?_
            show Ends p e below s T47 (mkF m 324 #[.val (.int p0), .val (.int p1), .val (.int p2), .val (.int p3), .val (.int s4), .val (.int s5), .val (.int s6), .val (.int s7), .val (.int r1), .val (.int r2), .val (.int r3), .val (.int (35 : Int32)), .val (.ref b5), .val (.int (2 : Int32)), .val (.int (-1 : Int32)), .val (.int (-1 : Int32)), .val (.int (3 : Int32)), .val (.int (5 : Int32)), .unset, .unset] []) _ _ _
            refine Ends.go (fun _ k => XS.aload X47.here hx rfl (hb hby at_324) rfl rfl k) ?_
            show Ends p e below s T47 (mkF m 326 #[.val (.int p0), .val (.int p1), .val (.int p2), .val (.int p3), .val (.int s4), .val (.int s5), .val (.int s6), .val (.int s7), .val (.int r1), .val (.int r2), .val (.int r3), .val (.int (35 : Int32)), .val (.ref b5), .val (.int (2 : Int32)), .val (.int (-1 : Int32)), .val (.int (-1 : Int32)), .val (.int (3 : Int32)), .val (.int (5 : Int32)), .unset, .unset] [(.ref b5)]) _ _ _
            refine Ends.go (fun _ k => XS.iconst X47.here hx rfl (hb hby at_326) k) ?_
            show Ends p e below s T47 (mkF m 327 #[.val (.int p0), .val (.int p1), .val (.int p2), .val (.int p3), .val (.int s4), .val (.int s5), .val (.int s6), .val (.int s7), .val (.int r1), .val (.int r2), .val (.int r3), .val (.int (35 : Int32)), .val (.ref b5), .val (.int (2 : Int32)), .val (.int (-1 : Int32)), .val (.int (-1 : Int32)), .val (.int (3 : Int32)), .val (.int (5 : Int32)), .unset, .unset] [(.int (5 : Int32)), (.ref b5)]) _ _ _
            refine Ends.go (fun _ k => XS.iload X47.here hx rfl (hb hby at_327) rfl k) ?_
            show Ends p e below s T47 (mkF m 329 #[.val (.int p0), .val (.int p1), .val (.int p2), .val (.int p3), .val (.int s4), .val (.int s5), .val (.int s6), .val (.int s7), .val (.int r1), .val (.int r2), .val (.int r3), .val (.int (35 : Int32)), .val (.ref b5), .val (.int (2 : Int32)), .val (.int (-1 : Int32)), .val (.int (-1 : Int32)), .val (.int (3 : Int32)), .val (.int (5 : Int32)), .unset, .unset] [(.int (35 : Int32)), (.int (5 : Int32)), (.ref b5)]) _ _ _
            obtain ⟨cl48, Ar48, q48, S48, M48, H48, G48⟩ := id V47
            have hin48 := inb_of (j := (5 : Int32)) S48 ⟨by decide, by decide⟩
            obtain ⟨T48, h48, X48, e48, W48, st48⟩ := stC X47 hx hZ e47 Ar48 (j := (5 : Int32)) hin48 (g := (mkF m 329 #[.val (.int p0), .val (.int p1), .val (.int p2), .val (.int p3), .val (.int s4), .val (.int s5), .val (.int s6), .val (.int s7), .val (.int r1), .val (.int r2), .val (.int r3), .val (.int (35 : Int32)), .val (.ref b5), .val (.int (2 : Int32)), .val (.int (-1 : Int32)), .val (.int (-1 : Int32)), .val (.int (3 : Int32)), .val (.int (5 : Int32)), .unset, .unset] [(.int (35 : Int32)), (.int (5 : Int32)), (.ref b5)])) rfl rfl (hb hby at_329)
            refine Ends.go st48 ?_
            have V48 : Arv Z h48 b5 k5 .char (6 : Int32) [(.int (nar .char r1)), (.int (nar .char r2)), (.int (58 : Int32)), (.int (47 : Int32)), (.int (nar .char r3)), (.int (35 : Int32))] (.int (0 : Int32)) := Arv.set Ar48 q48 S48 M48 H48 G48 rfl W48 5 rfl (Nat.le_of_ble_eq_true rfl)
            have K48 := K47.wr W48 (Or.inr sz_b5)
            have O48 := O47.wr W48 g_b5
            have N48 := Fr.snoc X48 N47 g_b5
            show Ends p e below s T48 (mkF m 330 #[.val (.int p0), .val (.int p1), .val (.int p2), .val (.int p3), .val (.int s4), .val (.int s5), .val (.int s6), .val (.int s7), .val (.int r1), .val (.int r2), .val (.int r3), .val (.int (35 : Int32)), .val (.ref b5), .val (.int (2 : Int32)), .val (.int (-1 : Int32)), .val (.int (-1 : Int32)), .val (.int (3 : Int32)), .val (.int (5 : Int32)), .unset, .unset] []) _ _ _
            refine Ends.go (fun _ k => XS.iload X48.here hx rfl (hb hby at_330) rfl k) ?_
            show Ends p e below s T48 (mkF m 332 #[.val (.int p0), .val (.int p1), .val (.int p2), .val (.int p3), .val (.int s4), .val (.int s5), .val (.int s6), .val (.int s7), .val (.int r1), .val (.int r2), .val (.int r3), .val (.int (35 : Int32)), .val (.ref b5), .val (.int (2 : Int32)), .val (.int (-1 : Int32)), .val (.int (-1 : Int32)), .val (.int (3 : Int32)), .val (.int (5 : Int32)), .unset, .unset] [(.int s6)]) _ _ _
            refine Ends.go (fun _ k => XS.ifYes X48.here hx rfl (pc0 := 332) (pc' := 340) rfl (hb hby at_332) rfl ((if0 _ _).trans (teq (hc73_4 : s6 = (0 : Int32))).1) (by decide) (by decide) k) ?_
            show Ends p e below s T48 (mkF m 340 #[.val (.int p0), .val (.int p1), .val (.int p2), .val (.int p3), .val (.int s4), .val (.int s5), .val (.int s6), .val (.int s7), .val (.int r1), .val (.int r2), .val (.int r3), .val (.int (35 : Int32)), .val (.ref b5), .val (.int (2 : Int32)), .val (.int (-1 : Int32)), .val (.int (-1 : Int32)), .val (.int (3 : Int32)), .val (.int (5 : Int32)), .unset, .unset] []) _ _ _
            refine Ends.go (fun _ k => XS.iconst X48.here hx rfl (hb hby at_340) k) ?_
            show Ends p e below s T48 (mkF m 341 #[.val (.int p0), .val (.int p1), .val (.int p2), .val (.int p3), .val (.int s4), .val (.int s5), .val (.int s6), .val (.int s7), .val (.int r1), .val (.int r2), .val (.int r3), .val (.int (35 : Int32)), .val (.ref b5), .val (.int (2 : Int32)), .val (.int (-1 : Int32)), .val (.int (-1 : Int32)), .val (.int (3 : Int32)), .val (.int (5 : Int32)), .unset, .unset] [(.int (5 : Int32))]) _ _ _
            refine Ends.go (fun _ k => XS.istore X48.here hx rfl (hb hby at_341) rfl (l' := #[.val (.int p0), .val (.int p1), .val (.int p2), .val (.int p3), .val (.int s4), .val (.int s5), .val (.int s6), .val (.int s7), .val (.int r1), .val (.int r2), .val (.int r3), .val (.int (35 : Int32)), .val (.ref b5), .val (.int (2 : Int32)), .val (.int (-1 : Int32)), .val (.int (-1 : Int32)), .val (.int (3 : Int32)), .val (.int (5 : Int32)), .val (.int (5 : Int32)), .unset]) rfl k) ?_
            show Ends p e below s T48 (mkF m 343 #[.val (.int p0), .val (.int p1), .val (.int p2), .val (.int p3), .val (.int s4), .val (.int s5), .val (.int s6), .val (.int s7), .val (.int r1), .val (.int r2), .val (.int r3), .val (.int (35 : Int32)), .val (.ref b5), .val (.int (2 : Int32)), .val (.int (-1 : Int32)), .val (.int (-1 : Int32)), .val (.int (3 : Int32)), .val (.int (5 : Int32)), .val (.int (5 : Int32)), .unset] []) _ _ _
            obtain ⟨T49, h49, X49, e49, E49, A49, D49, -, st49⟩ := newO X48 hx hZ hown (hw _ (List.mem_of_getElem? (i := 6) rfl)) (hw _ (List.mem_of_getElem? (i := 7) rfl)) (hw _ (List.mem_of_getElem? (i := 8) rfl)) e48 (g := (mkF m 343 #[.val (.int p0), .val (.int p1), .val (.int p2), .val (.int p3), .val (.int s4), .val (.int s5), .val (.int s6), .val (.int s7), .val (.int r1), .val (.int r2), .val (.int r3), .val (.int (35 : Int32)), .val (.ref b5), .val (.int (2 : Int32)), .val (.int (-1 : Int32)), .val (.int (-1 : Int32)), .val (.int (3 : Int32)), .val (.int (5 : Int32)), .val (.int (5 : Int32)), .unset] [])) rfl (hb hby at_343) (by decide) (by decide)
            obtain ⟨b49, g49⟩ : ∃ z, z = h48.size := ⟨_, rfl⟩
            rw [← g49] at A49 D49 st49
            refine Ends.go st49 ?_
            have ne_b5_b49 : b5 ≠ b49 := Nat.ne_of_lt (Nat.lt_of_lt_of_le V48.lt (Nat.le_of_eq g49.symm))
            have g_b49 : n0 ≤ b49 := Nat.le_trans (own_old_le O48) (Nat.le_of_eq g49.symm)
            have sz_b49 : h0.size ≤ b49 := Nat.le_trans K48.1 (Nat.le_of_eq g49.symm)
            have K49 := K48.ext E49
            have O49 := O48.ext E49
            have F_mText_b49 : Fld Z h49 b49 "com/example/authority/authority/UriReference" "mText" "Ljava/lang/String;" .null := D49 (Or.inr (hw _ (List.mem_of_getElem? (i := 43) rfl))) (ty := (.object "java/lang/String")) (by decide)
            have F_mSchemeEnd_b49 : Fld Z h49 b49 "com/example/authority/authority/UriReference" "mSchemeEnd" "I" (.int (0 : Int32)) := D49 (Or.inr (hw _ (List.mem_of_getElem? (i := 45) rfl))) (ty := .int) (by decide)
            have F_mHostStart_b49 : Fld Z h49 b49 "com/example/authority/authority/UriReference" "mHostStart" "I" (.int (0 : Int32)) := D49 (Or.inr (hw _ (List.mem_of_getElem? (i := 47) rfl))) (ty := .int) (by decide)
            have F_mHostEnd_b49 : Fld Z h49 b49 "com/example/authority/authority/UriReference" "mHostEnd" "I" (.int (0 : Int32)) := D49 (Or.inr (hw _ (List.mem_of_getElem? (i := 49) rfl))) (ty := .int) (by decide)
            have F_mPathStart_b49 : Fld Z h49 b49 "com/example/authority/authority/UriReference" "mPathStart" "I" (.int (0 : Int32)) := D49 (Or.inr (hw _ (List.mem_of_getElem? (i := 51) rfl))) (ty := .int) (by decide)
            have F_mPathEnd_b49 : Fld Z h49 b49 "com/example/authority/authority/UriReference" "mPathEnd" "I" (.int (0 : Int32)) := D49 (Or.inr (hw _ (List.mem_of_getElem? (i := 53) rfl))) (ty := .int) (by decide)
            have F_mQueryEnd_b49 : Fld Z h49 b49 "com/example/authority/authority/UriReference" "mQueryEnd" "I" (.int (0 : Int32)) := D49 (Or.inr (hw _ (List.mem_of_getElem? (i := 55) rfl))) (ty := .int) (by decide)
            show Ends p e below s T49 (mkF m 346 #[.val (.int p0), .val (.int p1), .val (.int p2), .val (.int p3), .val (.int s4), .val (.int s5), .val (.int s6), .val (.int s7), .val (.int r1), .val (.int r2), .val (.int r3), .val (.int (35 : Int32)), .val (.ref b5), .val (.int (2 : Int32)), .val (.int (-1 : Int32)), .val (.int (-1 : Int32)), .val (.int (3 : Int32)), .val (.int (5 : Int32)), .val (.int (5 : Int32)), .unset] [(.ref b49)]) _ _ _
            refine Ends.go (fun _ k => XS.dup X49.here hx rfl (hb hby at_346) rfl rfl k) ?_
            show Ends p e below s T49 (mkF m 347 #[.val (.int p0), .val (.int p1), .val (.int p2), .val (.int p3), .val (.int s4), .val (.int s5), .val (.int s6), .val (.int s7), .val (.int r1), .val (.int r2), .val (.int r3), .val (.int (35 : Int32)), .val (.ref b5), .val (.int (2 : Int32)), .val (.int (-1 : Int32)), .val (.int (-1 : Int32)), .val (.int (3 : Int32)), .val (.int (5 : Int32)), .val (.int (5 : Int32)), .unset] [(.ref b49), (.ref b49)]) _ _ _
            obtain ⟨T50, h50, X50, e50, E50, A50, D50, -, st50⟩ := newO X49 hx hZ hown (hw _ (List.mem_of_getElem? (i := 9) rfl)) (hw _ (List.mem_of_getElem? (i := 10) rfl)) (hw _ (List.mem_of_getElem? (i := 11) rfl)) e49 (g := (mkF m 347 #[.val (.int p0), .val (.int p1), .val (.int p2), .val (.int p3), .val (.int s4), .val (.int s5), .val (.int s6), .val (.int s7), .val (.int r1), .val (.int r2), .val (.int r3), .val (.int (35 : Int32)), .val (.ref b5), .val (.int (2 : Int32)), .val (.int (-1 : Int32)), .val (.int (-1 : Int32)), .val (.int (3 : Int32)), .val (.int (5 : Int32)), .val (.int (5 : Int32)), .unset] [(.ref b49), (.ref b49)])) rfl (hb hby at_347) (by decide) (by decide)
            obtain ⟨b50, g50⟩ : ∃ z, z = h49.size := ⟨_, rfl⟩
            rw [← g50] at A50 D50 st50
            refine Ends.go st50 ?_
            have ne_b5_b50 : b5 ≠ b50 := Nat.ne_of_lt (Nat.lt_of_lt_of_le (V48.ext E49).lt (Nat.le_of_eq g50.symm))
            have ne_b49_b50 : b49 ≠ b50 := Nat.ne_of_lt (Nat.lt_of_lt_of_le A49.lt (Nat.le_of_eq g50.symm))
            have g_b50 : n0 ≤ b50 := Nat.le_trans (own_old_le O49) (Nat.le_of_eq g50.symm)
            have sz_b50 : h0.size ≤ b50 := Nat.le_trans K49.1 (Nat.le_of_eq g50.symm)
            have K50 := K49.ext E50
            have O50 := O49.ext E50
            have F_coder_b50 : Fld Z h50 b50 "java/lang/String" "coder" "B" (.int (0 : Int32)) := D50 (Or.inr (hw _ (List.mem_of_getElem? (i := 35) rfl))) (ty := .byte) (by decide)
            have F_value_b50 : Fld Z h50 b50 "java/lang/String" "value" "[B" .null := D50 (Or.inr (hw _ (List.mem_of_getElem? (i := 37) rfl))) (ty := (.array .byte)) (by decide)
            show Ends p e below s T50 (mkF m 350 #[.val (.int p0), .val (.int p1), .val (.int p2), .val (.int p3), .val (.int s4), .val (.int s5), .val (.int s6), .val (.int s7), .val (.int r1), .val (.int r2), .val (.int r3), .val (.int (35 : Int32)), .val (.ref b5), .val (.int (2 : Int32)), .val (.int (-1 : Int32)), .val (.int (-1 : Int32)), .val (.int (3 : Int32)), .val (.int (5 : Int32)), .val (.int (5 : Int32)), .unset] [(.ref b50), (.ref b49), (.ref b49)]) _ _ _
            refine Ends.go (fun _ k => XS.dup X50.here hx rfl (hb hby at_350) rfl rfl k) ?_
            show Ends p e below s T50 (mkF m 351 #[.val (.int p0), .val (.int p1), .val (.int p2), .val (.int p3), .val (.int s4), .val (.int s5), .val (.int s6), .val (.int s7), .val (.int r1), .val (.int r2), .val (.int r3), .val (.int (35 : Int32)), .val (.ref b5), .val (.int (2 : Int32)), .val (.int (-1 : Int32)), .val (.int (-1 : Int32)), .val (.int (3 : Int32)), .val (.int (5 : Int32)), .val (.int (5 : Int32)), .unset] [(.ref b50), (.ref b50), (.ref b49), (.ref b49)]) _ _ _
            refine Ends.go (fun _ k => XS.aload X50.here hx rfl (hb hby at_351) rfl rfl k) ?_
            show Ends p e below s T50 (mkF m 353 #[.val (.int p0), .val (.int p1), .val (.int p2), .val (.int p3), .val (.int s4), .val (.int s5), .val (.int s6), .val (.int s7), .val (.int r1), .val (.int r2), .val (.int r3), .val (.int (35 : Int32)), .val (.ref b5), .val (.int (2 : Int32)), .val (.int (-1 : Int32)), .val (.int (-1 : Int32)), .val (.int (3 : Int32)), .val (.int (5 : Int32)), .val (.int (5 : Int32)), .unset] [(.ref b5), (.ref b50), (.ref b50), (.ref b49), (.ref b49)]) _ _ _
            have hp51 : ∀ c ∈ ([(nar .char r1), (nar .char r2), (58 : Int32), (47 : Int32), (nar .char r3), (35 : Int32)] : List Int32), ¬ c < 0 ∧ ¬ (255 : Int32) < c := by
              intro c hc
              simp only [List.mem_cons, List.not_mem_nil, or_false] at hc
              rcases hc with rfl | rfl | rfl | rfl | rfl | rfl
              · exact own_nar hr1
              · exact own_nar hr2
              · exact (by decide)
              · exact (by decide)
              · exact own_nar hr3
              · exact (by decide)
            obtain ⟨_, _, ⟨T51, L51, k51, n51⟩, -, X51, ⟨Lc51, hQ51, l51, y51, z51⟩, st51⟩ := X50.specialBack hx (y := (⟨"java/lang/String", "<init>", "([C)V"⟩ : MethodName)) rfl hown (mvT hZ (hw _ (List.mem_of_getElem? (i := 12) rfl))) (mvT hZ (hw _ (List.mem_of_getElem? (i := 13) rfl))) (mvT hZ (hw _ (List.mem_of_getElem? (i := 14) rfl))) (by decide) (StrChars.Road.backV (W := 3) hZ hws (kI := 4) (hw _ (List.mem_of_getElem? (i := 10) rfl)) (cs := ([(nar .char r1), (nar .char r2), (58 : Int32), (47 : Int32), (nar .char r3), (35 : Int32)] : List Int32)) (bs := ([(nar .char r1), (nar .char r2), (58 : Int32), (47 : Int32), (nar .char r3), (35 : Int32)] : List Int32).map (fun c => c.toInt8.toInt32)) (n := 6) g_b50 (own_old_le O50) A50 F_value_b50 F_coder_b50 ((V48.ext E49).ext E50) (O2.ext O50.2) P5 rfl rfl (by decide) (by decide) hp51 rfl (by decide) (by decide)) (g := (mkF m 353 #[.val (.int p0), .val (.int p1), .val (.int p2), .val (.int p3), .val (.int s4), .val (.int s5), .val (.int s6), .val (.int s7), .val (.int r1), .val (.int r2), .val (.int r3), .val (.int (35 : Int32)), .val (.ref b5), .val (.int (2 : Int32)), .val (.int (-1 : Int32)), .val (.int (-1 : Int32)), .val (.int (3 : Int32)), .val (.int (5 : Int32)), .val (.int (5 : Int32)), .unset] [(.ref b5), (.ref b50), (.ref b50), (.ref b49), (.ref b49)])) rfl (by rw [hml]; rfl) (Steps.refl _) (a := b50) (argsL := [(.ref b5)]) (rest := [(.ref b50), (.ref b49), (.ref b49)]) (lenOf pd0_1 rfl) rfl (by show 2 * 0 + _ ≤ _; exact Nat.le_of_eq rfl) (hb hby at_353) (fun _ _ => ⟨rfl, e50, (by decide : 3 + 1 ≤ _), (by decide : 17 + 6 ≤ _)⟩)
            dsimp only [Pt.U, Pt.locs, Pt.cells, Pt.slots] at X51 l51 y51 z51 st51 hQ51
            subst l51 y51 z51
            obtain ⟨rfl, N51q, K51c, Eq51, Cq51, t51, kb51, -, ht51, ht51', Vq51, Aq51⟩ := hQ51
            have N51 := Fr.app N48 N51q
            refine Ends.go (fun _ k => st51.trans k) ?_
            have ne_b5_t51 : b5 ≠ t51 := Nat.ne_of_lt (Nat.lt_of_lt_of_le ((V48.ext E49).ext E50).lt ht51)
            have ne_b49_t51 : b49 ≠ t51 := Nat.ne_of_lt (Nat.lt_of_lt_of_le (A49.ext E50).lt ht51)
            have ne_b50_t51 : b50 ≠ t51 := Nat.ne_of_lt (Nat.lt_of_lt_of_le A50.lt ht51)
            have g_t51 : n0 ≤ t51 := Nat.le_trans (own_old_le O50) ht51
            have sz_t51 : h0.size ≤ t51 := Nat.le_trans K50.1 ht51
            obtain ⟨h51, e51⟩ : ∃ z, T51.heap = z := ⟨_, rfl⟩
            rw [e51] at K51c Eq51 Cq51 Vq51 Aq51
            have K51 := K50.trans K51c (allS (Or.inr sz_b50) all0)
            have O51 := O50.keep K51c (allS g_b50 all0)
            show Ends p e below s T51 (mkF m 356 #[.val (.int p0), .val (.int p1), .val (.int p2), .val (.int p3), .val (.int s4), .val (.int s5), .val (.int s6), .val (.int s7), .val (.int r1), .val (.int r2), .val (.int r3), .val (.int (35 : Int32)), .val (.ref b5), .val (.int (2 : Int32)), .val (.int (-1 : Int32)), .val (.int (-1 : Int32)), .val (.int (3 : Int32)), .val (.int (5 : Int32)), .val (.int (5 : Int32)), .unset] [(.ref b50), (.ref b49), (.ref b49)]) _ _ _
            refine Ends.go (fun _ k => XS.iload X51.here hx rfl (hb hby at_356) rfl k) ?_
            show Ends p e below s T51 (mkF m 358 #[.val (.int p0), .val (.int p1), .val (.int p2), .val (.int p3), .val (.int s4), .val (.int s5), .val (.int s6), .val (.int s7), .val (.int r1), .val (.int r2), .val (.int r3), .val (.int (35 : Int32)), .val (.ref b5), .val (.int (2 : Int32)), .val (.int (-1 : Int32)), .val (.int (-1 : Int32)), .val (.int (3 : Int32)), .val (.int (5 : Int32)), .val (.int (5 : Int32)), .unset] [(.int (2 : Int32)), (.ref b50), (.ref b49), (.ref b49)]) _ _ _
            refine Ends.go (fun _ k => XS.iload X51.here hx rfl (hb hby at_358) rfl k) ?_
            show Ends p e below s T51 (mkF m 360 #[.val (.int p0), .val (.int p1), .val (.int p2), .val (.int p3), .val (.int s4), .val (.int s5), .val (.int s6), .val (.int s7), .val (.int r1), .val (.int r2), .val (.int r3), .val (.int (35 : Int32)), .val (.ref b5), .val (.int (2 : Int32)), .val (.int (-1 : Int32)), .val (.int (-1 : Int32)), .val (.int (3 : Int32)), .val (.int (5 : Int32)), .val (.int (5 : Int32)), .unset] [(.int (-1 : Int32)), (.int (2 : Int32)), (.ref b50), (.ref b49), (.ref b49)]) _ _ _
            refine Ends.go (fun _ k => XS.iload X51.here hx rfl (hb hby at_360) rfl k) ?_
            show Ends p e below s T51 (mkF m 362 #[.val (.int p0), .val (.int p1), .val (.int p2), .val (.int p3), .val (.int s4), .val (.int s5), .val (.int s6), .val (.int s7), .val (.int r1), .val (.int r2), .val (.int r3), .val (.int (35 : Int32)), .val (.ref b5), .val (.int (2 : Int32)), .val (.int (-1 : Int32)), .val (.int (-1 : Int32)), .val (.int (3 : Int32)), .val (.int (5 : Int32)), .val (.int (5 : Int32)), .unset] [(.int (-1 : Int32)), (.int (-1 : Int32)), (.int (2 : Int32)), (.ref b50), (.ref b49), (.ref b49)]) _ _ _
            refine Ends.go (fun _ k => XS.iload X51.here hx rfl (hb hby at_362) rfl k) ?_
            show Ends p e below s T51 (mkF m 364 #[.val (.int p0), .val (.int p1), .val (.int p2), .val (.int p3), .val (.int s4), .val (.int s5), .val (.int s6), .val (.int s7), .val (.int r1), .val (.int r2), .val (.int r3), .val (.int (35 : Int32)), .val (.ref b5), .val (.int (2 : Int32)), .val (.int (-1 : Int32)), .val (.int (-1 : Int32)), .val (.int (3 : Int32)), .val (.int (5 : Int32)), .val (.int (5 : Int32)), .unset] [(.int (3 : Int32)), (.int (-1 : Int32)), (.int (-1 : Int32)), (.int (2 : Int32)), (.ref b50), (.ref b49), (.ref b49)]) _ _ _
            refine Ends.go (fun _ k => XS.iload X51.here hx rfl (hb hby at_364) rfl k) ?_
            show Ends p e below s T51 (mkF m 366 #[.val (.int p0), .val (.int p1), .val (.int p2), .val (.int p3), .val (.int s4), .val (.int s5), .val (.int s6), .val (.int s7), .val (.int r1), .val (.int r2), .val (.int r3), .val (.int (35 : Int32)), .val (.ref b5), .val (.int (2 : Int32)), .val (.int (-1 : Int32)), .val (.int (-1 : Int32)), .val (.int (3 : Int32)), .val (.int (5 : Int32)), .val (.int (5 : Int32)), .unset] [(.int (5 : Int32)), (.int (3 : Int32)), (.int (-1 : Int32)), (.int (-1 : Int32)), (.int (2 : Int32)), (.ref b50), (.ref b49), (.ref b49)]) _ _ _
            refine Ends.go (fun _ k => XS.iload X51.here hx rfl (hb hby at_366) rfl k) ?_
            show Ends p e below s T51 (mkF m 368 #[.val (.int p0), .val (.int p1), .val (.int p2), .val (.int p3), .val (.int s4), .val (.int s5), .val (.int s6), .val (.int s7), .val (.int r1), .val (.int r2), .val (.int r3), .val (.int (35 : Int32)), .val (.ref b5), .val (.int (2 : Int32)), .val (.int (-1 : Int32)), .val (.int (-1 : Int32)), .val (.int (3 : Int32)), .val (.int (5 : Int32)), .val (.int (5 : Int32)), .unset] [(.int (5 : Int32)), (.int (5 : Int32)), (.int (3 : Int32)), (.int (-1 : Int32)), (.int (-1 : Int32)), (.int (2 : Int32)), (.ref b50), (.ref b49), (.ref b49)]) _ _ _
            obtain ⟨_, _, ⟨T52, L52, k52, n52⟩, -, X52, ⟨Lc52, hQ52, l52, y52, z52⟩, st52⟩ := X51.specialBack hx (y := (⟨"com/example/authority/authority/UriReference", "<init>", "(Ljava/lang/String;IIIIII)V"⟩ : MethodName)) rfl hown (mvT hZ (hw _ (List.mem_of_getElem? (i := 38) rfl))) (mvT hZ (hw _ (List.mem_of_getElem? (i := 39) rfl))) (mvT hZ (hw _ (List.mem_of_getElem? (i := 40) rfl))) (by decide) (own_backOf (W := 1) (rmI l Z a0 hw [] n0 h51 O51 b49 b50 (2 : Int32) (-1 : Int32) (-1 : Int32) (3 : Int32) (5 : Int32) (5 : Int32) g_b49 ((A49.ext E50).keep K51c) ((F_mText_b49.ext E50).keep K51c (ninS ne_b49_b50 nin0)) ((F_mSchemeEnd_b49.ext E50).keep K51c (ninS ne_b49_b50 nin0)) ((F_mHostStart_b49.ext E50).keep K51c (ninS ne_b49_b50 nin0)) ((F_mHostEnd_b49.ext E50).keep K51c (ninS ne_b49_b50 nin0)) ((F_mPathStart_b49.ext E50).keep K51c (ninS ne_b49_b50 nin0)) ((F_mPathEnd_b49.ext E50).keep K51c (ninS ne_b49_b50 nin0)) ((F_mQueryEnd_b49.ext E50).keep K51c (ninS ne_b49_b50 nin0))) hZ (hw _ (List.mem_of_getElem? (i := 40) rfl)) (hw _ (List.mem_of_getElem? (i := 8) rfl)) (by decide) (by decide)) (g := (mkF m 368 #[.val (.int p0), .val (.int p1), .val (.int p2), .val (.int p3), .val (.int s4), .val (.int s5), .val (.int s6), .val (.int s7), .val (.int r1), .val (.int r2), .val (.int r3), .val (.int (35 : Int32)), .val (.ref b5), .val (.int (2 : Int32)), .val (.int (-1 : Int32)), .val (.int (-1 : Int32)), .val (.int (3 : Int32)), .val (.int (5 : Int32)), .val (.int (5 : Int32)), .unset] [(.int (5 : Int32)), (.int (5 : Int32)), (.int (3 : Int32)), (.int (-1 : Int32)), (.int (-1 : Int32)), (.int (2 : Int32)), (.ref b50), (.ref b49), (.ref b49)])) rfl (by rw [hml]; rfl) (Steps.refl _) (a := b49) (argsL := [(.ref b50), (.int (2 : Int32)), (.int (-1 : Int32)), (.int (-1 : Int32)), (.int (3 : Int32)), (.int (5 : Int32)), (.int (5 : Int32))]) (rest := [(.ref b49)]) (lenOf pd0_2 rfl) rfl (by show 2 * 0 + _ ≤ _; exact Nat.le_of_eq rfl) (hb hby at_368) (fun _ _ => ⟨rfl, e51, (by decide : 4 + 0 ≤ _), (by decide : 23 + 0 ≤ _)⟩)
            dsimp only [Pt.U, Pt.locs, Pt.cells, Pt.slots] at X52 l52 y52 z52 st52 hQ52
            subst l52 y52 z52
            obtain ⟨rfl, N52q, K52c, Eq52, Fq52_mText, Fq52_mSchemeEnd, Fq52_mHostStart, Fq52_mHostEnd, Fq52_mPathStart, Fq52_mPathEnd, Fq52_mQueryEnd⟩ := hQ52
            have N52 := Fr.app N51 N52q
            refine Ends.go (fun _ k => st52.trans k) ?_
            obtain ⟨h52, e52⟩ : ∃ z, T52.heap = z := ⟨_, rfl⟩
            rw [e52] at K52c Eq52 Fq52_mText Fq52_mSchemeEnd Fq52_mHostStart Fq52_mHostEnd Fq52_mPathStart Fq52_mPathEnd Fq52_mQueryEnd
            have K52 := K51.trans K52c (allS (Or.inr sz_b49) all0)
            have O52 := O51.keep K52c (allS g_b49 all0)
            show Ends p e below s T52 (mkF m 371 #[.val (.int p0), .val (.int p1), .val (.int p2), .val (.int p3), .val (.int s4), .val (.int s5), .val (.int s6), .val (.int s7), .val (.int r1), .val (.int r2), .val (.int r3), .val (.int (35 : Int32)), .val (.ref b5), .val (.int (2 : Int32)), .val (.int (-1 : Int32)), .val (.int (-1 : Int32)), .val (.int (3 : Int32)), .val (.int (5 : Int32)), .val (.int (5 : Int32)), .unset] [(.ref b49)]) _ _ _
            refine Ends.go (fun _ k => XS.astore X52.here hx rfl (hb hby at_371) rfl rfl (l' := #[.val (.int p0), .val (.int p1), .val (.int p2), .val (.int p3), .val (.int s4), .val (.int s5), .val (.int s6), .val (.int s7), .val (.int r1), .val (.int r2), .val (.int r3), .val (.int (35 : Int32)), .val (.ref b5), .val (.int (2 : Int32)), .val (.int (-1 : Int32)), .val (.int (-1 : Int32)), .val (.int (3 : Int32)), .val (.int (5 : Int32)), .val (.int (5 : Int32)), .val (.ref b49)]) rfl k) ?_
            show Ends p e below s T52 (mkF m 373 #[.val (.int p0), .val (.int p1), .val (.int p2), .val (.int p3), .val (.int s4), .val (.int s5), .val (.int s6), .val (.int s7), .val (.int r1), .val (.int r2), .val (.int r3), .val (.int (35 : Int32)), .val (.ref b5), .val (.int (2 : Int32)), .val (.int (-1 : Int32)), .val (.int (-1 : Int32)), .val (.int (3 : Int32)), .val (.int (5 : Int32)), .val (.int (5 : Int32)), .val (.ref b49)] []) _ _ _
            refine Ends.go (fun _ k => XS.aload X52.here hx rfl (hb hby at_373) rfl rfl k) ?_
            show Ends p e below s T52 (mkF m 375 #[.val (.int p0), .val (.int p1), .val (.int p2), .val (.int p3), .val (.int s4), .val (.int s5), .val (.int s6), .val (.int s7), .val (.int r1), .val (.int r2), .val (.int r3), .val (.int (35 : Int32)), .val (.ref b5), .val (.int (2 : Int32)), .val (.int (-1 : Int32)), .val (.int (-1 : Int32)), .val (.int (3 : Int32)), .val (.int (5 : Int32)), .val (.int (5 : Int32)), .val (.ref b49)] [(.ref b49)]) _ _ _
            obtain ⟨cq53, kq53, q53a, q53b, q53c⟩ := isOf hZ e52 Eq52
            obtain ⟨_, _, ⟨T53, L53, k53, n53⟩, -, X53, ⟨Lc53, hQ53, l53, y53, z53⟩, st53⟩ := X52.virtualBack hx (y := (⟨"com/example/authority/authority/UriReference", "isUri", "()Z"⟩ : MethodName)) (z := (⟨"com/example/authority/authority/UriReference", "isUri", "()Z"⟩ : MethodName)) hown (mvT hZ (hw _ (List.mem_of_getElem? (i := 56) rfl))) (mvT hZ (hw _ (List.mem_of_getElem? (i := 57) rfl))) (notFace_of_selects (args := #[]) (mvT hZ (hw _ (List.mem_of_getElem? (i := 59) rfl)))) (mvT hZ (hw _ (List.mem_of_getElem? (i := 59) rfl))) (mvT hZ (hw _ (List.mem_of_getElem? (i := 58) rfl))) (by decide) (own_backOf (W := 0) (rmQ l Z a0 hw [] n0 h52 O52 b49 (2 : Int32) Fq52_mSchemeEnd (1 : Int32) (by decide)) hZ (hw _ (List.mem_of_getElem? (i := 60) rfl)) (hw _ (List.mem_of_getElem? (i := 8) rfl)) (by decide) (by decide)) q53a q53c (g := (mkF m 375 #[.val (.int p0), .val (.int p1), .val (.int p2), .val (.int p3), .val (.int s4), .val (.int s5), .val (.int s6), .val (.int s7), .val (.int r1), .val (.int r2), .val (.int r3), .val (.int (35 : Int32)), .val (.ref b5), .val (.int (2 : Int32)), .val (.int (-1 : Int32)), .val (.int (-1 : Int32)), .val (.int (3 : Int32)), .val (.int (5 : Int32)), .val (.int (5 : Int32)), .val (.ref b49)] [(.ref b49)])) rfl (by rw [hml]; rfl) (Steps.refl _) (argsL := []) (rest := []) (lenOf pd0_3 rfl) rfl (by show 2 * 0 + _ ≤ _; exact Nat.le_of_eq rfl) (hb hby at_375) (fun _ _ => ⟨rfl, e52, (by decide : 4 + 0 ≤ _), (by decide : 23 + 0 ≤ _)⟩)
            dsimp only [Pt.U, Pt.locs, Pt.cells, Pt.slots] at X53 l53 y53 z53 st53 hQ53
            subst l53 y53 z53
            obtain ⟨rfl, N53q, e53q⟩ := hQ53
            have N53 := Fr.app N52 N53q
            refine Ends.go (fun _ k => st53.trans k) ?_
            show Ends p e below s T53 (mkF m 378 #[.val (.int p0), .val (.int p1), .val (.int p2), .val (.int p3), .val (.int s4), .val (.int s5), .val (.int s6), .val (.int s7), .val (.int r1), .val (.int r2), .val (.int r3), .val (.int (35 : Int32)), .val (.ref b5), .val (.int (2 : Int32)), .val (.int (-1 : Int32)), .val (.int (-1 : Int32)), .val (.int (3 : Int32)), .val (.int (5 : Int32)), .val (.int (5 : Int32)), .val (.ref b49)] [(.int (1 : Int32))]) _ _ _
            refine Ends.go (fun _ k => XS.iload X53.here hx rfl (hb hby at_378) rfl k) ?_
            show Ends p e below s T53 (mkF m 380 #[.val (.int p0), .val (.int p1), .val (.int p2), .val (.int p3), .val (.int s4), .val (.int s5), .val (.int s6), .val (.int s7), .val (.int r1), .val (.int r2), .val (.int r3), .val (.int (35 : Int32)), .val (.ref b5), .val (.int (2 : Int32)), .val (.int (-1 : Int32)), .val (.int (-1 : Int32)), .val (.int (3 : Int32)), .val (.int (5 : Int32)), .val (.int (5 : Int32)), .val (.ref b49)] [(.int s4), (.int (1 : Int32))]) _ _ _
            refine Ends.go (fun _ k => XS.icmpNo X53.here hx rfl (hb hby at_380) rfl (teq ((h4.resolve_left hc108_6).symm : (1 : Int32) = s4)).2 k) ?_
            show Ends p e below s T53 (mkF m 383 #[.val (.int p0), .val (.int p1), .val (.int p2), .val (.int p3), .val (.int s4), .val (.int s5), .val (.int s6), .val (.int s7), .val (.int r1), .val (.int r2), .val (.int r3), .val (.int (35 : Int32)), .val (.ref b5), .val (.int (2 : Int32)), .val (.int (-1 : Int32)), .val (.int (-1 : Int32)), .val (.int (3 : Int32)), .val (.int (5 : Int32)), .val (.int (5 : Int32)), .val (.ref b49)] []) _ _ _
            refine Ends.go (fun _ k => XS.iconst X53.here hx rfl (hb hby at_383) k) ?_
            show Ends p e below s T53 (mkF m 384 #[.val (.int p0), .val (.int p1), .val (.int p2), .val (.int p3), .val (.int s4), .val (.int s5), .val (.int s6), .val (.int s7), .val (.int r1), .val (.int r2), .val (.int r3), .val (.int (35 : Int32)), .val (.ref b5), .val (.int (2 : Int32)), .val (.int (-1 : Int32)), .val (.int (-1 : Int32)), .val (.int (3 : Int32)), .val (.int (5 : Int32)), .val (.int (5 : Int32)), .val (.ref b49)] [(.int (1 : Int32))]) _ _ _
            refine Ends.go (fun _ k => XS.goto X53.here hx rfl (pc0 := 384) (pc' := 388) rfl (hb hby at_384) (by decide) (by decide) k) ?_
            show Ends p e below s T53 (mkF m 388 #[.val (.int p0), .val (.int p1), .val (.int p2), .val (.int p3), .val (.int s4), .val (.int s5), .val (.int s6), .val (.int s7), .val (.int r1), .val (.int r2), .val (.int r3), .val (.int (35 : Int32)), .val (.ref b5), .val (.int (2 : Int32)), .val (.int (-1 : Int32)), .val (.int (-1 : Int32)), .val (.int (3 : Int32)), .val (.int (5 : Int32)), .val (.int (5 : Int32)), .val (.ref b49)] [(.int (1 : Int32))]) _ _ _
            refine Ends.retZ X53 hx Bd.notSynchronized (t := .boolean) Bd.returns (by simp) (hb hby at_388) (by decide) (by decide) ?_
            exact ⟨rfl, N53⟩
        · refine Ends.go (fun _ k => XS.ifNo X5.here hx rfl (hb hby at_113) rfl ((if0 _ _).trans (feq hc113_30).1) k) ?_
          show Ends p e below s T5 (mkF m 116 #[.val (.int p0), .val (.int p1), .val (.int p2), .val (.int p3), .val (.int s4), .val (.int s5), .val (.int s6), .val (.int s7), .val (.int r1), .val (.int r2), .val (.int r3), .val (.int (35 : Int32)), .val (.ref b5), .val (.int (-1 : Int32)), .val (.int (-1 : Int32)), .val (.int (-1 : Int32)), .val (.int (0 : Int32)), .val (.int (5 : Int32)), .unset, .unset] []) _ _ _
          refine Ends.go (fun _ k => XS.aload X5.here hx rfl (hb hby at_116) rfl rfl k) ?_
          show Ends p e below s T5 (mkF m 118 #[.val (.int p0), .val (.int p1), .val (.int p2), .val (.int p3), .val (.int s4), .val (.int s5), .val (.int s6), .val (.int s7), .val (.int r1), .val (.int r2), .val (.int r3), .val (.int (35 : Int32)), .val (.ref b5), .val (.int (-1 : Int32)), .val (.int (-1 : Int32)), .val (.int (-1 : Int32)), .val (.int (0 : Int32)), .val (.int (5 : Int32)), .unset, .unset] [(.ref b5)]) _ _ _
          refine Ends.go (fun _ k => XS.iconst X5.here hx rfl (hb hby at_118) k) ?_
          show Ends p e below s T5 (mkF m 119 #[.val (.int p0), .val (.int p1), .val (.int p2), .val (.int p3), .val (.int s4), .val (.int s5), .val (.int s6), .val (.int s7), .val (.int r1), .val (.int r2), .val (.int r3), .val (.int (35 : Int32)), .val (.ref b5), .val (.int (-1 : Int32)), .val (.int (-1 : Int32)), .val (.int (-1 : Int32)), .val (.int (0 : Int32)), .val (.int (5 : Int32)), .unset, .unset] [(.int (0 : Int32)), (.ref b5)]) _ _ _
          refine Ends.go (fun _ k => XS.iload X5.here hx rfl (hb hby at_119) rfl k) ?_
          show Ends p e below s T5 (mkF m 121 #[.val (.int p0), .val (.int p1), .val (.int p2), .val (.int p3), .val (.int s4), .val (.int s5), .val (.int s6), .val (.int s7), .val (.int r1), .val (.int r2), .val (.int r3), .val (.int (35 : Int32)), .val (.ref b5), .val (.int (-1 : Int32)), .val (.int (-1 : Int32)), .val (.int (-1 : Int32)), .val (.int (0 : Int32)), .val (.int (5 : Int32)), .unset, .unset] [(.int r1), (.int (0 : Int32)), (.ref b5)]) _ _ _
          obtain ⟨cl54, Ar54, q54, S54, M54, H54, G54⟩ := id V_b5
          have hin54 := inb_of (j := (0 : Int32)) S54 ⟨by decide, by decide⟩
          obtain ⟨T54, h54, X54, e54, W54, st54⟩ := stC X5 hx hZ e5 Ar54 (j := (0 : Int32)) hin54 (g := (mkF m 121 #[.val (.int p0), .val (.int p1), .val (.int p2), .val (.int p3), .val (.int s4), .val (.int s5), .val (.int s6), .val (.int s7), .val (.int r1), .val (.int r2), .val (.int r3), .val (.int (35 : Int32)), .val (.ref b5), .val (.int (-1 : Int32)), .val (.int (-1 : Int32)), .val (.int (-1 : Int32)), .val (.int (0 : Int32)), .val (.int (5 : Int32)), .unset, .unset] [(.int r1), (.int (0 : Int32)), (.ref b5)])) rfl rfl (hb hby at_121)
          refine Ends.go st54 ?_
          have V54 : Arv Z h54 b5 k5 .char (6 : Int32) [(.int (nar .char r1)), (.int (0 : Int32)), (.int (0 : Int32)), (.int (0 : Int32)), (.int (0 : Int32)), (.int (0 : Int32))] (.int (0 : Int32)) := Arv.set Ar54 q54 S54 M54 H54 G54 (fits_nar_char _) W54 0 rfl (Nat.le_of_ble_eq_true rfl)
          have K54 := K5.wr W54 (Or.inr sz_b5)
          have O54 := O5.wr W54 g_b5
          have N54 := Fr.snoc X54 N3 g_b5
          show Ends p e below s T54 (mkF m 122 #[.val (.int p0), .val (.int p1), .val (.int p2), .val (.int p3), .val (.int s4), .val (.int s5), .val (.int s6), .val (.int s7), .val (.int r1), .val (.int r2), .val (.int r3), .val (.int (35 : Int32)), .val (.ref b5), .val (.int (-1 : Int32)), .val (.int (-1 : Int32)), .val (.int (-1 : Int32)), .val (.int (0 : Int32)), .val (.int (5 : Int32)), .unset, .unset] []) _ _ _
          refine Ends.go (fun _ k => XS.aload X54.here hx rfl (hb hby at_122) rfl rfl k) ?_
          show Ends p e below s T54 (mkF m 124 #[.val (.int p0), .val (.int p1), .val (.int p2), .val (.int p3), .val (.int s4), .val (.int s5), .val (.int s6), .val (.int s7), .val (.int r1), .val (.int r2), .val (.int r3), .val (.int (35 : Int32)), .val (.ref b5), .val (.int (-1 : Int32)), .val (.int (-1 : Int32)), .val (.int (-1 : Int32)), .val (.int (0 : Int32)), .val (.int (5 : Int32)), .unset, .unset] [(.ref b5)]) _ _ _
          refine Ends.go (fun _ k => XS.iconst X54.here hx rfl (hb hby at_124) k) ?_
          show Ends p e below s T54 (mkF m 125 #[.val (.int p0), .val (.int p1), .val (.int p2), .val (.int p3), .val (.int s4), .val (.int s5), .val (.int s6), .val (.int s7), .val (.int r1), .val (.int r2), .val (.int r3), .val (.int (35 : Int32)), .val (.ref b5), .val (.int (-1 : Int32)), .val (.int (-1 : Int32)), .val (.int (-1 : Int32)), .val (.int (0 : Int32)), .val (.int (5 : Int32)), .unset, .unset] [(.int (1 : Int32)), (.ref b5)]) _ _ _
          refine Ends.go (fun _ k => XS.bipush X54.here hx rfl (hb hby at_125) k) ?_
          show Ends p e below s T54 (mkF m 127 #[.val (.int p0), .val (.int p1), .val (.int p2), .val (.int p3), .val (.int s4), .val (.int s5), .val (.int s6), .val (.int s7), .val (.int r1), .val (.int r2), .val (.int r3), .val (.int (35 : Int32)), .val (.ref b5), .val (.int (-1 : Int32)), .val (.int (-1 : Int32)), .val (.int (-1 : Int32)), .val (.int (0 : Int32)), .val (.int (5 : Int32)), .unset, .unset] [(.int (58 : Int32)), (.int (1 : Int32)), (.ref b5)]) _ _ _
          obtain ⟨cl55, Ar55, q55, S55, M55, H55, G55⟩ := id V54
          have hin55 := inb_of (j := (1 : Int32)) S55 ⟨by decide, by decide⟩
          obtain ⟨T55, h55, X55, e55, W55, st55⟩ := stC X54 hx hZ e54 Ar55 (j := (1 : Int32)) hin55 (g := (mkF m 127 #[.val (.int p0), .val (.int p1), .val (.int p2), .val (.int p3), .val (.int s4), .val (.int s5), .val (.int s6), .val (.int s7), .val (.int r1), .val (.int r2), .val (.int r3), .val (.int (35 : Int32)), .val (.ref b5), .val (.int (-1 : Int32)), .val (.int (-1 : Int32)), .val (.int (-1 : Int32)), .val (.int (0 : Int32)), .val (.int (5 : Int32)), .unset, .unset] [(.int (58 : Int32)), (.int (1 : Int32)), (.ref b5)])) rfl rfl (hb hby at_127)
          refine Ends.go st55 ?_
          have V55 : Arv Z h55 b5 k5 .char (6 : Int32) [(.int (nar .char r1)), (.int (58 : Int32)), (.int (0 : Int32)), (.int (0 : Int32)), (.int (0 : Int32)), (.int (0 : Int32))] (.int (0 : Int32)) := Arv.set Ar55 q55 S55 M55 H55 G55 rfl W55 1 rfl (Nat.le_of_ble_eq_true rfl)
          have K55 := K54.wr W55 (Or.inr sz_b5)
          have O55 := O54.wr W55 g_b5
          have N55 := Fr.snoc X55 N54 g_b5
          show Ends p e below s T55 (mkF m 128 #[.val (.int p0), .val (.int p1), .val (.int p2), .val (.int p3), .val (.int s4), .val (.int s5), .val (.int s6), .val (.int s7), .val (.int r1), .val (.int r2), .val (.int r3), .val (.int (35 : Int32)), .val (.ref b5), .val (.int (-1 : Int32)), .val (.int (-1 : Int32)), .val (.int (-1 : Int32)), .val (.int (0 : Int32)), .val (.int (5 : Int32)), .unset, .unset] []) _ _ _
          refine Ends.go (fun _ k => XS.aload X55.here hx rfl (hb hby at_128) rfl rfl k) ?_
          show Ends p e below s T55 (mkF m 130 #[.val (.int p0), .val (.int p1), .val (.int p2), .val (.int p3), .val (.int s4), .val (.int s5), .val (.int s6), .val (.int s7), .val (.int r1), .val (.int r2), .val (.int r3), .val (.int (35 : Int32)), .val (.ref b5), .val (.int (-1 : Int32)), .val (.int (-1 : Int32)), .val (.int (-1 : Int32)), .val (.int (0 : Int32)), .val (.int (5 : Int32)), .unset, .unset] [(.ref b5)]) _ _ _
          refine Ends.go (fun _ k => XS.iconst X55.here hx rfl (hb hby at_130) k) ?_
          show Ends p e below s T55 (mkF m 131 #[.val (.int p0), .val (.int p1), .val (.int p2), .val (.int p3), .val (.int s4), .val (.int s5), .val (.int s6), .val (.int s7), .val (.int r1), .val (.int r2), .val (.int r3), .val (.int (35 : Int32)), .val (.ref b5), .val (.int (-1 : Int32)), .val (.int (-1 : Int32)), .val (.int (-1 : Int32)), .val (.int (0 : Int32)), .val (.int (5 : Int32)), .unset, .unset] [(.int (2 : Int32)), (.ref b5)]) _ _ _
          refine Ends.go (fun _ k => XS.bipush X55.here hx rfl (hb hby at_131) k) ?_
          show Ends p e below s T55 (mkF m 133 #[.val (.int p0), .val (.int p1), .val (.int p2), .val (.int p3), .val (.int s4), .val (.int s5), .val (.int s6), .val (.int s7), .val (.int r1), .val (.int r2), .val (.int r3), .val (.int (35 : Int32)), .val (.ref b5), .val (.int (-1 : Int32)), .val (.int (-1 : Int32)), .val (.int (-1 : Int32)), .val (.int (0 : Int32)), .val (.int (5 : Int32)), .unset, .unset] [(.int (47 : Int32)), (.int (2 : Int32)), (.ref b5)]) _ _ _
          obtain ⟨cl56, Ar56, q56, S56, M56, H56, G56⟩ := id V55
          have hin56 := inb_of (j := (2 : Int32)) S56 ⟨by decide, by decide⟩
          obtain ⟨T56, h56, X56, e56, W56, st56⟩ := stC X55 hx hZ e55 Ar56 (j := (2 : Int32)) hin56 (g := (mkF m 133 #[.val (.int p0), .val (.int p1), .val (.int p2), .val (.int p3), .val (.int s4), .val (.int s5), .val (.int s6), .val (.int s7), .val (.int r1), .val (.int r2), .val (.int r3), .val (.int (35 : Int32)), .val (.ref b5), .val (.int (-1 : Int32)), .val (.int (-1 : Int32)), .val (.int (-1 : Int32)), .val (.int (0 : Int32)), .val (.int (5 : Int32)), .unset, .unset] [(.int (47 : Int32)), (.int (2 : Int32)), (.ref b5)])) rfl rfl (hb hby at_133)
          refine Ends.go st56 ?_
          have V56 : Arv Z h56 b5 k5 .char (6 : Int32) [(.int (nar .char r1)), (.int (58 : Int32)), (.int (47 : Int32)), (.int (0 : Int32)), (.int (0 : Int32)), (.int (0 : Int32))] (.int (0 : Int32)) := Arv.set Ar56 q56 S56 M56 H56 G56 rfl W56 2 rfl (Nat.le_of_ble_eq_true rfl)
          have K56 := K55.wr W56 (Or.inr sz_b5)
          have O56 := O55.wr W56 g_b5
          have N56 := Fr.snoc X56 N55 g_b5
          show Ends p e below s T56 (mkF m 134 #[.val (.int p0), .val (.int p1), .val (.int p2), .val (.int p3), .val (.int s4), .val (.int s5), .val (.int s6), .val (.int s7), .val (.int r1), .val (.int r2), .val (.int r3), .val (.int (35 : Int32)), .val (.ref b5), .val (.int (-1 : Int32)), .val (.int (-1 : Int32)), .val (.int (-1 : Int32)), .val (.int (0 : Int32)), .val (.int (5 : Int32)), .unset, .unset] []) _ _ _
          refine Ends.go (fun _ k => XS.aload X56.here hx rfl (hb hby at_134) rfl rfl k) ?_
          show Ends p e below s T56 (mkF m 136 #[.val (.int p0), .val (.int p1), .val (.int p2), .val (.int p3), .val (.int s4), .val (.int s5), .val (.int s6), .val (.int s7), .val (.int r1), .val (.int r2), .val (.int r3), .val (.int (35 : Int32)), .val (.ref b5), .val (.int (-1 : Int32)), .val (.int (-1 : Int32)), .val (.int (-1 : Int32)), .val (.int (0 : Int32)), .val (.int (5 : Int32)), .unset, .unset] [(.ref b5)]) _ _ _
          refine Ends.go (fun _ k => XS.iconst X56.here hx rfl (hb hby at_136) k) ?_
          show Ends p e below s T56 (mkF m 137 #[.val (.int p0), .val (.int p1), .val (.int p2), .val (.int p3), .val (.int s4), .val (.int s5), .val (.int s6), .val (.int s7), .val (.int r1), .val (.int r2), .val (.int r3), .val (.int (35 : Int32)), .val (.ref b5), .val (.int (-1 : Int32)), .val (.int (-1 : Int32)), .val (.int (-1 : Int32)), .val (.int (0 : Int32)), .val (.int (5 : Int32)), .unset, .unset] [(.int (3 : Int32)), (.ref b5)]) _ _ _
          refine Ends.go (fun _ k => XS.bipush X56.here hx rfl (hb hby at_137) k) ?_
          show Ends p e below s T56 (mkF m 139 #[.val (.int p0), .val (.int p1), .val (.int p2), .val (.int p3), .val (.int s4), .val (.int s5), .val (.int s6), .val (.int s7), .val (.int r1), .val (.int r2), .val (.int r3), .val (.int (35 : Int32)), .val (.ref b5), .val (.int (-1 : Int32)), .val (.int (-1 : Int32)), .val (.int (-1 : Int32)), .val (.int (0 : Int32)), .val (.int (5 : Int32)), .unset, .unset] [(.int (47 : Int32)), (.int (3 : Int32)), (.ref b5)]) _ _ _
          obtain ⟨cl57, Ar57, q57, S57, M57, H57, G57⟩ := id V56
          have hin57 := inb_of (j := (3 : Int32)) S57 ⟨by decide, by decide⟩
          obtain ⟨T57, h57, X57, e57, W57, st57⟩ := stC X56 hx hZ e56 Ar57 (j := (3 : Int32)) hin57 (g := (mkF m 139 #[.val (.int p0), .val (.int p1), .val (.int p2), .val (.int p3), .val (.int s4), .val (.int s5), .val (.int s6), .val (.int s7), .val (.int r1), .val (.int r2), .val (.int r3), .val (.int (35 : Int32)), .val (.ref b5), .val (.int (-1 : Int32)), .val (.int (-1 : Int32)), .val (.int (-1 : Int32)), .val (.int (0 : Int32)), .val (.int (5 : Int32)), .unset, .unset] [(.int (47 : Int32)), (.int (3 : Int32)), (.ref b5)])) rfl rfl (hb hby at_139)
          refine Ends.go st57 ?_
          have V57 : Arv Z h57 b5 k5 .char (6 : Int32) [(.int (nar .char r1)), (.int (58 : Int32)), (.int (47 : Int32)), (.int (47 : Int32)), (.int (0 : Int32)), (.int (0 : Int32))] (.int (0 : Int32)) := Arv.set Ar57 q57 S57 M57 H57 G57 rfl W57 3 rfl (Nat.le_of_ble_eq_true rfl)
          have K57 := K56.wr W57 (Or.inr sz_b5)
          have O57 := O56.wr W57 g_b5
          have N57 := Fr.snoc X57 N56 g_b5
          show Ends p e below s T57 (mkF m 140 #[.val (.int p0), .val (.int p1), .val (.int p2), .val (.int p3), .val (.int s4), .val (.int s5), .val (.int s6), .val (.int s7), .val (.int r1), .val (.int r2), .val (.int r3), .val (.int (35 : Int32)), .val (.ref b5), .val (.int (-1 : Int32)), .val (.int (-1 : Int32)), .val (.int (-1 : Int32)), .val (.int (0 : Int32)), .val (.int (5 : Int32)), .unset, .unset] []) _ _ _
          refine Ends.go (fun _ k => XS.aload X57.here hx rfl (hb hby at_140) rfl rfl k) ?_
          show Ends p e below s T57 (mkF m 142 #[.val (.int p0), .val (.int p1), .val (.int p2), .val (.int p3), .val (.int s4), .val (.int s5), .val (.int s6), .val (.int s7), .val (.int r1), .val (.int r2), .val (.int r3), .val (.int (35 : Int32)), .val (.ref b5), .val (.int (-1 : Int32)), .val (.int (-1 : Int32)), .val (.int (-1 : Int32)), .val (.int (0 : Int32)), .val (.int (5 : Int32)), .unset, .unset] [(.ref b5)]) _ _ _
          refine Ends.go (fun _ k => XS.iconst X57.here hx rfl (hb hby at_142) k) ?_
          show Ends p e below s T57 (mkF m 143 #[.val (.int p0), .val (.int p1), .val (.int p2), .val (.int p3), .val (.int s4), .val (.int s5), .val (.int s6), .val (.int s7), .val (.int r1), .val (.int r2), .val (.int r3), .val (.int (35 : Int32)), .val (.ref b5), .val (.int (-1 : Int32)), .val (.int (-1 : Int32)), .val (.int (-1 : Int32)), .val (.int (0 : Int32)), .val (.int (5 : Int32)), .unset, .unset] [(.int (4 : Int32)), (.ref b5)]) _ _ _
          refine Ends.go (fun _ k => XS.iload X57.here hx rfl (hb hby at_143) rfl k) ?_
          show Ends p e below s T57 (mkF m 145 #[.val (.int p0), .val (.int p1), .val (.int p2), .val (.int p3), .val (.int s4), .val (.int s5), .val (.int s6), .val (.int s7), .val (.int r1), .val (.int r2), .val (.int r3), .val (.int (35 : Int32)), .val (.ref b5), .val (.int (-1 : Int32)), .val (.int (-1 : Int32)), .val (.int (-1 : Int32)), .val (.int (0 : Int32)), .val (.int (5 : Int32)), .unset, .unset] [(.int r2), (.int (4 : Int32)), (.ref b5)]) _ _ _
          obtain ⟨cl58, Ar58, q58, S58, M58, H58, G58⟩ := id V57
          have hin58 := inb_of (j := (4 : Int32)) S58 ⟨by decide, by decide⟩
          obtain ⟨T58, h58, X58, e58, W58, st58⟩ := stC X57 hx hZ e57 Ar58 (j := (4 : Int32)) hin58 (g := (mkF m 145 #[.val (.int p0), .val (.int p1), .val (.int p2), .val (.int p3), .val (.int s4), .val (.int s5), .val (.int s6), .val (.int s7), .val (.int r1), .val (.int r2), .val (.int r3), .val (.int (35 : Int32)), .val (.ref b5), .val (.int (-1 : Int32)), .val (.int (-1 : Int32)), .val (.int (-1 : Int32)), .val (.int (0 : Int32)), .val (.int (5 : Int32)), .unset, .unset] [(.int r2), (.int (4 : Int32)), (.ref b5)])) rfl rfl (hb hby at_145)
          refine Ends.go st58 ?_
          have V58 : Arv Z h58 b5 k5 .char (6 : Int32) [(.int (nar .char r1)), (.int (58 : Int32)), (.int (47 : Int32)), (.int (47 : Int32)), (.int (nar .char r2)), (.int (0 : Int32))] (.int (0 : Int32)) := Arv.set Ar58 q58 S58 M58 H58 G58 (fits_nar_char _) W58 4 rfl (Nat.le_of_ble_eq_true rfl)
          have K58 := K57.wr W58 (Or.inr sz_b5)
          have O58 := O57.wr W58 g_b5
          have N58 := Fr.snoc X58 N57 g_b5
          show Ends p e below s T58 (mkF m 146 #[.val (.int p0), .val (.int p1), .val (.int p2), .val (.int p3), .val (.int s4), .val (.int s5), .val (.int s6), .val (.int s7), .val (.int r1), .val (.int r2), .val (.int r3), .val (.int (35 : Int32)), .val (.ref b5), .val (.int (-1 : Int32)), .val (.int (-1 : Int32)), .val (.int (-1 : Int32)), .val (.int (0 : Int32)), .val (.int (5 : Int32)), .unset, .unset] []) _ _ _
          refine Ends.go (fun _ k => XS.iconst X58.here hx rfl (hb hby at_146) k) ?_
          show Ends p e below s T58 (mkF m 147 #[.val (.int p0), .val (.int p1), .val (.int p2), .val (.int p3), .val (.int s4), .val (.int s5), .val (.int s6), .val (.int s7), .val (.int r1), .val (.int r2), .val (.int r3), .val (.int (35 : Int32)), .val (.ref b5), .val (.int (-1 : Int32)), .val (.int (-1 : Int32)), .val (.int (-1 : Int32)), .val (.int (0 : Int32)), .val (.int (5 : Int32)), .unset, .unset] [(.int (1 : Int32))]) _ _ _
          refine Ends.go (fun _ k => XS.istore X58.here hx rfl (hb hby at_147) rfl (l' := #[.val (.int p0), .val (.int p1), .val (.int p2), .val (.int p3), .val (.int s4), .val (.int s5), .val (.int s6), .val (.int s7), .val (.int r1), .val (.int r2), .val (.int r3), .val (.int (35 : Int32)), .val (.ref b5), .val (.int (1 : Int32)), .val (.int (-1 : Int32)), .val (.int (-1 : Int32)), .val (.int (0 : Int32)), .val (.int (5 : Int32)), .unset, .unset]) rfl k) ?_
          show Ends p e below s T58 (mkF m 149 #[.val (.int p0), .val (.int p1), .val (.int p2), .val (.int p3), .val (.int s4), .val (.int s5), .val (.int s6), .val (.int s7), .val (.int r1), .val (.int r2), .val (.int r3), .val (.int (35 : Int32)), .val (.ref b5), .val (.int (1 : Int32)), .val (.int (-1 : Int32)), .val (.int (-1 : Int32)), .val (.int (0 : Int32)), .val (.int (5 : Int32)), .unset, .unset] []) _ _ _
          refine Ends.go (fun _ k => XS.iconst X58.here hx rfl (hb hby at_149) k) ?_
          show Ends p e below s T58 (mkF m 150 #[.val (.int p0), .val (.int p1), .val (.int p2), .val (.int p3), .val (.int s4), .val (.int s5), .val (.int s6), .val (.int s7), .val (.int r1), .val (.int r2), .val (.int r3), .val (.int (35 : Int32)), .val (.ref b5), .val (.int (1 : Int32)), .val (.int (-1 : Int32)), .val (.int (-1 : Int32)), .val (.int (0 : Int32)), .val (.int (5 : Int32)), .unset, .unset] [(.int (4 : Int32))]) _ _ _
          refine Ends.go (fun _ k => XS.istore X58.here hx rfl (hb hby at_150) rfl (l' := #[.val (.int p0), .val (.int p1), .val (.int p2), .val (.int p3), .val (.int s4), .val (.int s5), .val (.int s6), .val (.int s7), .val (.int r1), .val (.int r2), .val (.int r3), .val (.int (35 : Int32)), .val (.ref b5), .val (.int (1 : Int32)), .val (.int (4 : Int32)), .val (.int (-1 : Int32)), .val (.int (0 : Int32)), .val (.int (5 : Int32)), .unset, .unset]) rfl k) ?_
          show Ends p e below s T58 (mkF m 152 #[.val (.int p0), .val (.int p1), .val (.int p2), .val (.int p3), .val (.int s4), .val (.int s5), .val (.int s6), .val (.int s7), .val (.int r1), .val (.int r2), .val (.int r3), .val (.int (35 : Int32)), .val (.ref b5), .val (.int (1 : Int32)), .val (.int (4 : Int32)), .val (.int (-1 : Int32)), .val (.int (0 : Int32)), .val (.int (5 : Int32)), .unset, .unset] []) _ _ _
          refine Ends.go (fun _ k => XS.iconst X58.here hx rfl (hb hby at_152) k) ?_
          show Ends p e below s T58 (mkF m 153 #[.val (.int p0), .val (.int p1), .val (.int p2), .val (.int p3), .val (.int s4), .val (.int s5), .val (.int s6), .val (.int s7), .val (.int r1), .val (.int r2), .val (.int r3), .val (.int (35 : Int32)), .val (.ref b5), .val (.int (1 : Int32)), .val (.int (4 : Int32)), .val (.int (-1 : Int32)), .val (.int (0 : Int32)), .val (.int (5 : Int32)), .unset, .unset] [(.int (5 : Int32))]) _ _ _
          refine Ends.go (fun _ k => XS.istore X58.here hx rfl (hb hby at_153) rfl (l' := #[.val (.int p0), .val (.int p1), .val (.int p2), .val (.int p3), .val (.int s4), .val (.int s5), .val (.int s6), .val (.int s7), .val (.int r1), .val (.int r2), .val (.int r3), .val (.int (35 : Int32)), .val (.ref b5), .val (.int (1 : Int32)), .val (.int (4 : Int32)), .val (.int (5 : Int32)), .val (.int (0 : Int32)), .val (.int (5 : Int32)), .unset, .unset]) rfl k) ?_
          show Ends p e below s T58 (mkF m 155 #[.val (.int p0), .val (.int p1), .val (.int p2), .val (.int p3), .val (.int s4), .val (.int s5), .val (.int s6), .val (.int s7), .val (.int r1), .val (.int r2), .val (.int r3), .val (.int (35 : Int32)), .val (.ref b5), .val (.int (1 : Int32)), .val (.int (4 : Int32)), .val (.int (5 : Int32)), .val (.int (0 : Int32)), .val (.int (5 : Int32)), .unset, .unset] []) _ _ _
          refine Ends.go (fun _ k => XS.iconst X58.here hx rfl (hb hby at_155) k) ?_
          show Ends p e below s T58 (mkF m 156 #[.val (.int p0), .val (.int p1), .val (.int p2), .val (.int p3), .val (.int s4), .val (.int s5), .val (.int s6), .val (.int s7), .val (.int r1), .val (.int r2), .val (.int r3), .val (.int (35 : Int32)), .val (.ref b5), .val (.int (1 : Int32)), .val (.int (4 : Int32)), .val (.int (5 : Int32)), .val (.int (0 : Int32)), .val (.int (5 : Int32)), .unset, .unset] [(.int (5 : Int32))]) _ _ _
          refine Ends.go (fun _ k => XS.istore X58.here hx rfl (hb hby at_156) rfl (l' := #[.val (.int p0), .val (.int p1), .val (.int p2), .val (.int p3), .val (.int s4), .val (.int s5), .val (.int s6), .val (.int s7), .val (.int r1), .val (.int r2), .val (.int r3), .val (.int (35 : Int32)), .val (.ref b5), .val (.int (1 : Int32)), .val (.int (4 : Int32)), .val (.int (5 : Int32)), .val (.int (5 : Int32)), .val (.int (5 : Int32)), .unset, .unset]) rfl k) ?_
          show Ends p e below s T58 (mkF m 158 #[.val (.int p0), .val (.int p1), .val (.int p2), .val (.int p3), .val (.int s4), .val (.int s5), .val (.int s6), .val (.int s7), .val (.int r1), .val (.int r2), .val (.int r3), .val (.int (35 : Int32)), .val (.ref b5), .val (.int (1 : Int32)), .val (.int (4 : Int32)), .val (.int (5 : Int32)), .val (.int (5 : Int32)), .val (.int (5 : Int32)), .unset, .unset] []) _ _ _
          refine Ends.go (fun _ k => XS.goto X58.here hx rfl (pc0 := 158) (pc' := 324) rfl (hb hby at_158) (by decide) (by decide) k) ?_
          show Ends p e below s T58 (mkF m 324 #[.val (.int p0), .val (.int p1), .val (.int p2), .val (.int p3), .val (.int s4), .val (.int s5), .val (.int s6), .val (.int s7), .val (.int r1), .val (.int r2), .val (.int r3), .val (.int (35 : Int32)), .val (.ref b5), .val (.int (1 : Int32)), .val (.int (4 : Int32)), .val (.int (5 : Int32)), .val (.int (5 : Int32)), .val (.int (5 : Int32)), .unset, .unset] []) _ _ _
          refine Ends.go (fun _ k => XS.aload X58.here hx rfl (hb hby at_324) rfl rfl k) ?_
          show Ends p e below s T58 (mkF m 326 #[.val (.int p0), .val (.int p1), .val (.int p2), .val (.int p3), .val (.int s4), .val (.int s5), .val (.int s6), .val (.int s7), .val (.int r1), .val (.int r2), .val (.int r3), .val (.int (35 : Int32)), .val (.ref b5), .val (.int (1 : Int32)), .val (.int (4 : Int32)), .val (.int (5 : Int32)), .val (.int (5 : Int32)), .val (.int (5 : Int32)), .unset, .unset] [(.ref b5)]) _ _ _
          refine Ends.go (fun _ k => XS.iconst X58.here hx rfl (hb hby at_326) k) ?_
          show Ends p e below s T58 (mkF m 327 #[.val (.int p0), .val (.int p1), .val (.int p2), .val (.int p3), .val (.int s4), .val (.int s5), .val (.int s6), .val (.int s7), .val (.int r1), .val (.int r2), .val (.int r3), .val (.int (35 : Int32)), .val (.ref b5), .val (.int (1 : Int32)), .val (.int (4 : Int32)), .val (.int (5 : Int32)), .val (.int (5 : Int32)), .val (.int (5 : Int32)), .unset, .unset] [(.int (5 : Int32)), (.ref b5)]) _ _ _
          refine Ends.go (fun _ k => XS.iload X58.here hx rfl (hb hby at_327) rfl k) ?_
          show Ends p e below s T58 (mkF m 329 #[.val (.int p0), .val (.int p1), .val (.int p2), .val (.int p3), .val (.int s4), .val (.int s5), .val (.int s6), .val (.int s7), .val (.int r1), .val (.int r2), .val (.int r3), .val (.int (35 : Int32)), .val (.ref b5), .val (.int (1 : Int32)), .val (.int (4 : Int32)), .val (.int (5 : Int32)), .val (.int (5 : Int32)), .val (.int (5 : Int32)), .unset, .unset] [(.int (35 : Int32)), (.int (5 : Int32)), (.ref b5)]) _ _ _
          obtain ⟨cl59, Ar59, q59, S59, M59, H59, G59⟩ := id V58
          have hin59 := inb_of (j := (5 : Int32)) S59 ⟨by decide, by decide⟩
          obtain ⟨T59, h59, X59, e59, W59, st59⟩ := stC X58 hx hZ e58 Ar59 (j := (5 : Int32)) hin59 (g := (mkF m 329 #[.val (.int p0), .val (.int p1), .val (.int p2), .val (.int p3), .val (.int s4), .val (.int s5), .val (.int s6), .val (.int s7), .val (.int r1), .val (.int r2), .val (.int r3), .val (.int (35 : Int32)), .val (.ref b5), .val (.int (1 : Int32)), .val (.int (4 : Int32)), .val (.int (5 : Int32)), .val (.int (5 : Int32)), .val (.int (5 : Int32)), .unset, .unset] [(.int (35 : Int32)), (.int (5 : Int32)), (.ref b5)])) rfl rfl (hb hby at_329)
          refine Ends.go st59 ?_
          have V59 : Arv Z h59 b5 k5 .char (6 : Int32) [(.int (nar .char r1)), (.int (58 : Int32)), (.int (47 : Int32)), (.int (47 : Int32)), (.int (nar .char r2)), (.int (35 : Int32))] (.int (0 : Int32)) := Arv.set Ar59 q59 S59 M59 H59 G59 rfl W59 5 rfl (Nat.le_of_ble_eq_true rfl)
          have K59 := K58.wr W59 (Or.inr sz_b5)
          have O59 := O58.wr W59 g_b5
          have N59 := Fr.snoc X59 N58 g_b5
          show Ends p e below s T59 (mkF m 330 #[.val (.int p0), .val (.int p1), .val (.int p2), .val (.int p3), .val (.int s4), .val (.int s5), .val (.int s6), .val (.int s7), .val (.int r1), .val (.int r2), .val (.int r3), .val (.int (35 : Int32)), .val (.ref b5), .val (.int (1 : Int32)), .val (.int (4 : Int32)), .val (.int (5 : Int32)), .val (.int (5 : Int32)), .val (.int (5 : Int32)), .unset, .unset] []) _ _ _
          refine Ends.go (fun _ k => XS.iload X59.here hx rfl (hb hby at_330) rfl k) ?_
          show Ends p e below s T59 (mkF m 332 #[.val (.int p0), .val (.int p1), .val (.int p2), .val (.int p3), .val (.int s4), .val (.int s5), .val (.int s6), .val (.int s7), .val (.int r1), .val (.int r2), .val (.int r3), .val (.int (35 : Int32)), .val (.ref b5), .val (.int (1 : Int32)), .val (.int (4 : Int32)), .val (.int (5 : Int32)), .val (.int (5 : Int32)), .val (.int (5 : Int32)), .unset, .unset] [(.int s6)]) _ _ _
          refine Ends.go (fun _ k => XS.ifYes X59.here hx rfl (pc0 := 332) (pc' := 340) rfl (hb hby at_332) rfl ((if0 _ _).trans (teq (hc73_4 : s6 = (0 : Int32))).1) (by decide) (by decide) k) ?_
          show Ends p e below s T59 (mkF m 340 #[.val (.int p0), .val (.int p1), .val (.int p2), .val (.int p3), .val (.int s4), .val (.int s5), .val (.int s6), .val (.int s7), .val (.int r1), .val (.int r2), .val (.int r3), .val (.int (35 : Int32)), .val (.ref b5), .val (.int (1 : Int32)), .val (.int (4 : Int32)), .val (.int (5 : Int32)), .val (.int (5 : Int32)), .val (.int (5 : Int32)), .unset, .unset] []) _ _ _
          refine Ends.go (fun _ k => XS.iconst X59.here hx rfl (hb hby at_340) k) ?_
          show Ends p e below s T59 (mkF m 341 #[.val (.int p0), .val (.int p1), .val (.int p2), .val (.int p3), .val (.int s4), .val (.int s5), .val (.int s6), .val (.int s7), .val (.int r1), .val (.int r2), .val (.int r3), .val (.int (35 : Int32)), .val (.ref b5), .val (.int (1 : Int32)), .val (.int (4 : Int32)), .val (.int (5 : Int32)), .val (.int (5 : Int32)), .val (.int (5 : Int32)), .unset, .unset] [(.int (5 : Int32))]) _ _ _
          refine Ends.go (fun _ k => XS.istore X59.here hx rfl (hb hby at_341) rfl (l' := #[.val (.int p0), .val (.int p1), .val (.int p2), .val (.int p3), .val (.int s4), .val (.int s5), .val (.int s6), .val (.int s7), .val (.int r1), .val (.int r2), .val (.int r3), .val (.int (35 : Int32)), .val (.ref b5), .val (.int (1 : Int32)), .val (.int (4 : Int32)), .val (.int (5 : Int32)), .val (.int (5 : Int32)), .val (.int (5 : Int32)), .val (.int (5 : Int32)), .unset]) rfl k) ?_
          show Ends p e below s T59 (mkF m 343 #[.val (.int p0), .val (.int p1), .val (.int p2), .val (.int p3), .val (.int s4), .val (.int s5), .val (.int s6), .val (.int s7), .val (.int r1), .val (.int r2), .val (.int r3), .val (.int (35 : Int32)), .val (.ref b5), .val (.int (1 : Int32)), .val (.int (4 : Int32)), .val (.int (5 : Int32)), .val (.int (5 : Int32)), .val (.int (5 : Int32)), .val (.int (5 : Int32)), .unset] []) _ _ _
          obtain ⟨T60, h60, X60, e60, E60, A60, D60, -, st60⟩ := newO X59 hx hZ hown (hw _ (List.mem_of_getElem? (i := 6) rfl)) (hw _ (List.mem_of_getElem? (i := 7) rfl)) (hw _ (List.mem_of_getElem? (i := 8) rfl)) e59 (g := (mkF m 343 #[.val (.int p0), .val (.int p1), .val (.int p2), .val (.int p3), .val (.int s4), .val (.int s5), .val (.int s6), .val (.int s7), .val (.int r1), .val (.int r2), .val (.int r3), .val (.int (35 : Int32)), .val (.ref b5), .val (.int (1 : Int32)), .val (.int (4 : Int32)), .val (.int (5 : Int32)), .val (.int (5 : Int32)), .val (.int (5 : Int32)), .val (.int (5 : Int32)), .unset] [])) rfl (hb hby at_343) (by decide) (by decide)
          obtain ⟨b60, g60⟩ : ∃ z, z = h59.size := ⟨_, rfl⟩
          rw [← g60] at A60 D60 st60
          refine Ends.go st60 ?_
          have ne_b5_b60 : b5 ≠ b60 := Nat.ne_of_lt (Nat.lt_of_lt_of_le V59.lt (Nat.le_of_eq g60.symm))
          have g_b60 : n0 ≤ b60 := Nat.le_trans (own_old_le O59) (Nat.le_of_eq g60.symm)
          have sz_b60 : h0.size ≤ b60 := Nat.le_trans K59.1 (Nat.le_of_eq g60.symm)
          have K60 := K59.ext E60
          have O60 := O59.ext E60
          have F_mText_b60 : Fld Z h60 b60 "com/example/authority/authority/UriReference" "mText" "Ljava/lang/String;" .null := D60 (Or.inr (hw _ (List.mem_of_getElem? (i := 43) rfl))) (ty := (.object "java/lang/String")) (by decide)
          have F_mSchemeEnd_b60 : Fld Z h60 b60 "com/example/authority/authority/UriReference" "mSchemeEnd" "I" (.int (0 : Int32)) := D60 (Or.inr (hw _ (List.mem_of_getElem? (i := 45) rfl))) (ty := .int) (by decide)
          have F_mHostStart_b60 : Fld Z h60 b60 "com/example/authority/authority/UriReference" "mHostStart" "I" (.int (0 : Int32)) := D60 (Or.inr (hw _ (List.mem_of_getElem? (i := 47) rfl))) (ty := .int) (by decide)
          have F_mHostEnd_b60 : Fld Z h60 b60 "com/example/authority/authority/UriReference" "mHostEnd" "I" (.int (0 : Int32)) := D60 (Or.inr (hw _ (List.mem_of_getElem? (i := 49) rfl))) (ty := .int) (by decide)
          have F_mPathStart_b60 : Fld Z h60 b60 "com/example/authority/authority/UriReference" "mPathStart" "I" (.int (0 : Int32)) := D60 (Or.inr (hw _ (List.mem_of_getElem? (i := 51) rfl))) (ty := .int) (by decide)
          have F_mPathEnd_b60 : Fld Z h60 b60 "com/example/authority/authority/UriReference" "mPathEnd" "I" (.int (0 : Int32)) := D60 (Or.inr (hw _ (List.mem_of_getElem? (i := 53) rfl))) (ty := .int) (by decide)
          have F_mQueryEnd_b60 : Fld Z h60 b60 "com/example/authority/authority/UriReference" "mQueryEnd" "I" (.int (0 : Int32)) := D60 (Or.inr (hw _ (List.mem_of_getElem? (i := 55) rfl))) (ty := .int) (by decide)
          show Ends p e below s T60 (mkF m 346 #[.val (.int p0), .val (.int p1), .val (.int p2), .val (.int p3), .val (.int s4), .val (.int s5), .val (.int s6), .val (.int s7), .val (.int r1), .val (.int r2), .val (.int r3), .val (.int (35 : Int32)), .val (.ref b5), .val (.int (1 : Int32)), .val (.int (4 : Int32)), .val (.int (5 : Int32)), .val (.int (5 : Int32)), .val (.int (5 : Int32)), .val (.int (5 : Int32)), .unset] [(.ref b60)]) _ _ _
          refine Ends.go (fun _ k => XS.dup X60.here hx rfl (hb hby at_346) rfl rfl k) ?_
          show Ends p e below s T60 (mkF m 347 #[.val (.int p0), .val (.int p1), .val (.int p2), .val (.int p3), .val (.int s4), .val (.int s5), .val (.int s6), .val (.int s7), .val (.int r1), .val (.int r2), .val (.int r3), .val (.int (35 : Int32)), .val (.ref b5), .val (.int (1 : Int32)), .val (.int (4 : Int32)), .val (.int (5 : Int32)), .val (.int (5 : Int32)), .val (.int (5 : Int32)), .val (.int (5 : Int32)), .unset] [(.ref b60), (.ref b60)]) _ _ _
          obtain ⟨T61, h61, X61, e61, E61, A61, D61, -, st61⟩ := newO X60 hx hZ hown (hw _ (List.mem_of_getElem? (i := 9) rfl)) (hw _ (List.mem_of_getElem? (i := 10) rfl)) (hw _ (List.mem_of_getElem? (i := 11) rfl)) e60 (g := (mkF m 347 #[.val (.int p0), .val (.int p1), .val (.int p2), .val (.int p3), .val (.int s4), .val (.int s5), .val (.int s6), .val (.int s7), .val (.int r1), .val (.int r2), .val (.int r3), .val (.int (35 : Int32)), .val (.ref b5), .val (.int (1 : Int32)), .val (.int (4 : Int32)), .val (.int (5 : Int32)), .val (.int (5 : Int32)), .val (.int (5 : Int32)), .val (.int (5 : Int32)), .unset] [(.ref b60), (.ref b60)])) rfl (hb hby at_347) (by decide) (by decide)
          obtain ⟨b61, g61⟩ : ∃ z, z = h60.size := ⟨_, rfl⟩
          rw [← g61] at A61 D61 st61
          refine Ends.go st61 ?_
          have ne_b5_b61 : b5 ≠ b61 := Nat.ne_of_lt (Nat.lt_of_lt_of_le (V59.ext E60).lt (Nat.le_of_eq g61.symm))
          have ne_b60_b61 : b60 ≠ b61 := Nat.ne_of_lt (Nat.lt_of_lt_of_le A60.lt (Nat.le_of_eq g61.symm))
          have g_b61 : n0 ≤ b61 := Nat.le_trans (own_old_le O60) (Nat.le_of_eq g61.symm)
          have sz_b61 : h0.size ≤ b61 := Nat.le_trans K60.1 (Nat.le_of_eq g61.symm)
          have K61 := K60.ext E61
          have O61 := O60.ext E61
          have F_coder_b61 : Fld Z h61 b61 "java/lang/String" "coder" "B" (.int (0 : Int32)) := D61 (Or.inr (hw _ (List.mem_of_getElem? (i := 35) rfl))) (ty := .byte) (by decide)
          have F_value_b61 : Fld Z h61 b61 "java/lang/String" "value" "[B" .null := D61 (Or.inr (hw _ (List.mem_of_getElem? (i := 37) rfl))) (ty := (.array .byte)) (by decide)
          show Ends p e below s T61 (mkF m 350 #[.val (.int p0), .val (.int p1), .val (.int p2), .val (.int p3), .val (.int s4), .val (.int s5), .val (.int s6), .val (.int s7), .val (.int r1), .val (.int r2), .val (.int r3), .val (.int (35 : Int32)), .val (.ref b5), .val (.int (1 : Int32)), .val (.int (4 : Int32)), .val (.int (5 : Int32)), .val (.int (5 : Int32)), .val (.int (5 : Int32)), .val (.int (5 : Int32)), .unset] [(.ref b61), (.ref b60), (.ref b60)]) _ _ _
          refine Ends.go (fun _ k => XS.dup X61.here hx rfl (hb hby at_350) rfl rfl k) ?_
          show Ends p e below s T61 (mkF m 351 #[.val (.int p0), .val (.int p1), .val (.int p2), .val (.int p3), .val (.int s4), .val (.int s5), .val (.int s6), .val (.int s7), .val (.int r1), .val (.int r2), .val (.int r3), .val (.int (35 : Int32)), .val (.ref b5), .val (.int (1 : Int32)), .val (.int (4 : Int32)), .val (.int (5 : Int32)), .val (.int (5 : Int32)), .val (.int (5 : Int32)), .val (.int (5 : Int32)), .unset] [(.ref b61), (.ref b61), (.ref b60), (.ref b60)]) _ _ _
          refine Ends.go (fun _ k => XS.aload X61.here hx rfl (hb hby at_351) rfl rfl k) ?_
          show Ends p e below s T61 (mkF m 353 #[.val (.int p0), .val (.int p1), .val (.int p2), .val (.int p3), .val (.int s4), .val (.int s5), .val (.int s6), .val (.int s7), .val (.int r1), .val (.int r2), .val (.int r3), .val (.int (35 : Int32)), .val (.ref b5), .val (.int (1 : Int32)), .val (.int (4 : Int32)), .val (.int (5 : Int32)), .val (.int (5 : Int32)), .val (.int (5 : Int32)), .val (.int (5 : Int32)), .unset] [(.ref b5), (.ref b61), (.ref b61), (.ref b60), (.ref b60)]) _ _ _
          have hp62 : ∀ c ∈ ([(nar .char r1), (58 : Int32), (47 : Int32), (47 : Int32), (nar .char r2), (35 : Int32)] : List Int32), ¬ c < 0 ∧ ¬ (255 : Int32) < c := by
            intro c hc
            simp only [List.mem_cons, List.not_mem_nil, or_false] at hc
            rcases hc with rfl | rfl | rfl | rfl | rfl | rfl
            · exact own_nar hr1
            · exact (by decide)
            · exact (by decide)
            · exact (by decide)
            · exact own_nar hr2
            · exact (by decide)
          obtain ⟨_, _, ⟨T62, L62, k62, n62⟩, -, X62, ⟨Lc62, hQ62, l62, y62, z62⟩, st62⟩ := X61.specialBack hx (y := (⟨"java/lang/String", "<init>", "([C)V"⟩ : MethodName)) rfl hown (mvT hZ (hw _ (List.mem_of_getElem? (i := 12) rfl))) (mvT hZ (hw _ (List.mem_of_getElem? (i := 13) rfl))) (mvT hZ (hw _ (List.mem_of_getElem? (i := 14) rfl))) (by decide) (StrChars.Road.backV (W := 3) hZ hws (kI := 4) (hw _ (List.mem_of_getElem? (i := 10) rfl)) (cs := ([(nar .char r1), (58 : Int32), (47 : Int32), (47 : Int32), (nar .char r2), (35 : Int32)] : List Int32)) (bs := ([(nar .char r1), (58 : Int32), (47 : Int32), (47 : Int32), (nar .char r2), (35 : Int32)] : List Int32).map (fun c => c.toInt8.toInt32)) (n := 6) g_b61 (own_old_le O61) A61 F_value_b61 F_coder_b61 ((V59.ext E60).ext E61) (O2.ext O61.2) P5 rfl rfl (by decide) (by decide) hp62 rfl (by decide) (by decide)) (g := (mkF m 353 #[.val (.int p0), .val (.int p1), .val (.int p2), .val (.int p3), .val (.int s4), .val (.int s5), .val (.int s6), .val (.int s7), .val (.int r1), .val (.int r2), .val (.int r3), .val (.int (35 : Int32)), .val (.ref b5), .val (.int (1 : Int32)), .val (.int (4 : Int32)), .val (.int (5 : Int32)), .val (.int (5 : Int32)), .val (.int (5 : Int32)), .val (.int (5 : Int32)), .unset] [(.ref b5), (.ref b61), (.ref b61), (.ref b60), (.ref b60)])) rfl (by rw [hml]; rfl) (Steps.refl _) (a := b61) (argsL := [(.ref b5)]) (rest := [(.ref b61), (.ref b60), (.ref b60)]) (lenOf pd0_1 rfl) rfl (by show 2 * 0 + _ ≤ _; exact Nat.le_of_eq rfl) (hb hby at_353) (fun _ _ => ⟨rfl, e61, (by decide : 3 + 1 ≤ _), (by decide : 17 + 6 ≤ _)⟩)
          dsimp only [Pt.U, Pt.locs, Pt.cells, Pt.slots] at X62 l62 y62 z62 st62 hQ62
          subst l62 y62 z62
          obtain ⟨rfl, N62q, K62c, Eq62, Cq62, t62, kb62, -, ht62, ht62', Vq62, Aq62⟩ := hQ62
          have N62 := Fr.app N59 N62q
          refine Ends.go (fun _ k => st62.trans k) ?_
          have ne_b5_t62 : b5 ≠ t62 := Nat.ne_of_lt (Nat.lt_of_lt_of_le ((V59.ext E60).ext E61).lt ht62)
          have ne_b60_t62 : b60 ≠ t62 := Nat.ne_of_lt (Nat.lt_of_lt_of_le (A60.ext E61).lt ht62)
          have ne_b61_t62 : b61 ≠ t62 := Nat.ne_of_lt (Nat.lt_of_lt_of_le A61.lt ht62)
          have g_t62 : n0 ≤ t62 := Nat.le_trans (own_old_le O61) ht62
          have sz_t62 : h0.size ≤ t62 := Nat.le_trans K61.1 ht62
          obtain ⟨h62, e62⟩ : ∃ z, T62.heap = z := ⟨_, rfl⟩
          rw [e62] at K62c Eq62 Cq62 Vq62 Aq62
          have K62 := K61.trans K62c (allS (Or.inr sz_b61) all0)
          have O62 := O61.keep K62c (allS g_b61 all0)
          show Ends p e below s T62 (mkF m 356 #[.val (.int p0), .val (.int p1), .val (.int p2), .val (.int p3), .val (.int s4), .val (.int s5), .val (.int s6), .val (.int s7), .val (.int r1), .val (.int r2), .val (.int r3), .val (.int (35 : Int32)), .val (.ref b5), .val (.int (1 : Int32)), .val (.int (4 : Int32)), .val (.int (5 : Int32)), .val (.int (5 : Int32)), .val (.int (5 : Int32)), .val (.int (5 : Int32)), .unset] [(.ref b61), (.ref b60), (.ref b60)]) _ _ _
          refine Ends.go (fun _ k => XS.iload X62.here hx rfl (hb hby at_356) rfl k) ?_
          show Ends p e below s T62 (mkF m 358 #[.val (.int p0), .val (.int p1), .val (.int p2), .val (.int p3), .val (.int s4), .val (.int s5), .val (.int s6), .val (.int s7), .val (.int r1), .val (.int r2), .val (.int r3), .val (.int (35 : Int32)), .val (.ref b5), .val (.int (1 : Int32)), .val (.int (4 : Int32)), .val (.int (5 : Int32)), .val (.int (5 : Int32)), .val (.int (5 : Int32)), .val (.int (5 : Int32)), .unset] [(.int (1 : Int32)), (.ref b61), (.ref b60), (.ref b60)]) _ _ _
          refine Ends.go (fun _ k => XS.iload X62.here hx rfl (hb hby at_358) rfl k) ?_
          show Ends p e below s T62 (mkF m 360 #[.val (.int p0), .val (.int p1), .val (.int p2), .val (.int p3), .val (.int s4), .val (.int s5), .val (.int s6), .val (.int s7), .val (.int r1), .val (.int r2), .val (.int r3), .val (.int (35 : Int32)), .val (.ref b5), .val (.int (1 : Int32)), .val (.int (4 : Int32)), .val (.int (5 : Int32)), .val (.int (5 : Int32)), .val (.int (5 : Int32)), .val (.int (5 : Int32)), .unset] [(.int (4 : Int32)), (.int (1 : Int32)), (.ref b61), (.ref b60), (.ref b60)]) _ _ _
          refine Ends.go (fun _ k => XS.iload X62.here hx rfl (hb hby at_360) rfl k) ?_
          show Ends p e below s T62 (mkF m 362 #[.val (.int p0), .val (.int p1), .val (.int p2), .val (.int p3), .val (.int s4), .val (.int s5), .val (.int s6), .val (.int s7), .val (.int r1), .val (.int r2), .val (.int r3), .val (.int (35 : Int32)), .val (.ref b5), .val (.int (1 : Int32)), .val (.int (4 : Int32)), .val (.int (5 : Int32)), .val (.int (5 : Int32)), .val (.int (5 : Int32)), .val (.int (5 : Int32)), .unset] [(.int (5 : Int32)), (.int (4 : Int32)), (.int (1 : Int32)), (.ref b61), (.ref b60), (.ref b60)]) _ _ _
          refine Ends.go (fun _ k => XS.iload X62.here hx rfl (hb hby at_362) rfl k) ?_
          show Ends p e below s T62 (mkF m 364 #[.val (.int p0), .val (.int p1), .val (.int p2), .val (.int p3), .val (.int s4), .val (.int s5), .val (.int s6), .val (.int s7), .val (.int r1), .val (.int r2), .val (.int r3), .val (.int (35 : Int32)), .val (.ref b5), .val (.int (1 : Int32)), .val (.int (4 : Int32)), .val (.int (5 : Int32)), .val (.int (5 : Int32)), .val (.int (5 : Int32)), .val (.int (5 : Int32)), .unset] [(.int (5 : Int32)), (.int (5 : Int32)), (.int (4 : Int32)), (.int (1 : Int32)), (.ref b61), (.ref b60), (.ref b60)]) _ _ _
          refine Ends.go (fun _ k => XS.iload X62.here hx rfl (hb hby at_364) rfl k) ?_
          show Ends p e below s T62 (mkF m 366 #[.val (.int p0), .val (.int p1), .val (.int p2), .val (.int p3), .val (.int s4), .val (.int s5), .val (.int s6), .val (.int s7), .val (.int r1), .val (.int r2), .val (.int r3), .val (.int (35 : Int32)), .val (.ref b5), .val (.int (1 : Int32)), .val (.int (4 : Int32)), .val (.int (5 : Int32)), .val (.int (5 : Int32)), .val (.int (5 : Int32)), .val (.int (5 : Int32)), .unset] [(.int (5 : Int32)), (.int (5 : Int32)), (.int (5 : Int32)), (.int (4 : Int32)), (.int (1 : Int32)), (.ref b61), (.ref b60), (.ref b60)]) _ _ _
          refine Ends.go (fun _ k => XS.iload X62.here hx rfl (hb hby at_366) rfl k) ?_
          show Ends p e below s T62 (mkF m 368 #[.val (.int p0), .val (.int p1), .val (.int p2), .val (.int p3), .val (.int s4), .val (.int s5), .val (.int s6), .val (.int s7), .val (.int r1), .val (.int r2), .val (.int r3), .val (.int (35 : Int32)), .val (.ref b5), .val (.int (1 : Int32)), .val (.int (4 : Int32)), .val (.int (5 : Int32)), .val (.int (5 : Int32)), .val (.int (5 : Int32)), .val (.int (5 : Int32)), .unset] [(.int (5 : Int32)), (.int (5 : Int32)), (.int (5 : Int32)), (.int (5 : Int32)), (.int (4 : Int32)), (.int (1 : Int32)), (.ref b61), (.ref b60), (.ref b60)]) _ _ _
          obtain ⟨_, _, ⟨T63, L63, k63, n63⟩, -, X63, ⟨Lc63, hQ63, l63, y63, z63⟩, st63⟩ := X62.specialBack hx (y := (⟨"com/example/authority/authority/UriReference", "<init>", "(Ljava/lang/String;IIIIII)V"⟩ : MethodName)) rfl hown (mvT hZ (hw _ (List.mem_of_getElem? (i := 38) rfl))) (mvT hZ (hw _ (List.mem_of_getElem? (i := 39) rfl))) (mvT hZ (hw _ (List.mem_of_getElem? (i := 40) rfl))) (by decide) (own_backOf (W := 1) (rmI l Z a0 hw [] n0 h62 O62 b60 b61 (1 : Int32) (4 : Int32) (5 : Int32) (5 : Int32) (5 : Int32) (5 : Int32) g_b60 ((A60.ext E61).keep K62c) ((F_mText_b60.ext E61).keep K62c (ninS ne_b60_b61 nin0)) ((F_mSchemeEnd_b60.ext E61).keep K62c (ninS ne_b60_b61 nin0)) ((F_mHostStart_b60.ext E61).keep K62c (ninS ne_b60_b61 nin0)) ((F_mHostEnd_b60.ext E61).keep K62c (ninS ne_b60_b61 nin0)) ((F_mPathStart_b60.ext E61).keep K62c (ninS ne_b60_b61 nin0)) ((F_mPathEnd_b60.ext E61).keep K62c (ninS ne_b60_b61 nin0)) ((F_mQueryEnd_b60.ext E61).keep K62c (ninS ne_b60_b61 nin0))) hZ (hw _ (List.mem_of_getElem? (i := 40) rfl)) (hw _ (List.mem_of_getElem? (i := 8) rfl)) (by decide) (by decide)) (g := (mkF m 368 #[.val (.int p0), .val (.int p1), .val (.int p2), .val (.int p3), .val (.int s4), .val (.int s5), .val (.int s6), .val (.int s7), .val (.int r1), .val (.int r2), .val (.int r3), .val (.int (35 : Int32)), .val (.ref b5), .val (.int (1 : Int32)), .val (.int (4 : Int32)), .val (.int (5 : Int32)), .val (.int (5 : Int32)), .val (.int (5 : Int32)), .val (.int (5 : Int32)), .unset] [(.int (5 : Int32)), (.int (5 : Int32)), (.int (5 : Int32)), (.int (5 : Int32)), (.int (4 : Int32)), (.int (1 : Int32)), (.ref b61), (.ref b60), (.ref b60)])) rfl (by rw [hml]; rfl) (Steps.refl _) (a := b60) (argsL := [(.ref b61), (.int (1 : Int32)), (.int (4 : Int32)), (.int (5 : Int32)), (.int (5 : Int32)), (.int (5 : Int32)), (.int (5 : Int32))]) (rest := [(.ref b60)]) (lenOf pd0_2 rfl) rfl (by show 2 * 0 + _ ≤ _; exact Nat.le_of_eq rfl) (hb hby at_368) (fun _ _ => ⟨rfl, e62, (by decide : 4 + 0 ≤ _), (by decide : 23 + 0 ≤ _)⟩)
          dsimp only [Pt.U, Pt.locs, Pt.cells, Pt.slots] at X63 l63 y63 z63 st63 hQ63
          subst l63 y63 z63
          obtain ⟨rfl, N63q, K63c, Eq63, Fq63_mText, Fq63_mSchemeEnd, Fq63_mHostStart, Fq63_mHostEnd, Fq63_mPathStart, Fq63_mPathEnd, Fq63_mQueryEnd⟩ := hQ63
          have N63 := Fr.app N62 N63q
          refine Ends.go (fun _ k => st63.trans k) ?_
          obtain ⟨h63, e63⟩ : ∃ z, T63.heap = z := ⟨_, rfl⟩
          rw [e63] at K63c Eq63 Fq63_mText Fq63_mSchemeEnd Fq63_mHostStart Fq63_mHostEnd Fq63_mPathStart Fq63_mPathEnd Fq63_mQueryEnd
          have K63 := K62.trans K63c (allS (Or.inr sz_b60) all0)
          have O63 := O62.keep K63c (allS g_b60 all0)
          show Ends p e below s T63 (mkF m 371 #[.val (.int p0), .val (.int p1), .val (.int p2), .val (.int p3), .val (.int s4), .val (.int s5), .val (.int s6), .val (.int s7), .val (.int r1), .val (.int r2), .val (.int r3), .val (.int (35 : Int32)), .val (.ref b5), .val (.int (1 : Int32)), .val (.int (4 : Int32)), .val (.int (5 : Int32)), .val (.int (5 : Int32)), .val (.int (5 : Int32)), .val (.int (5 : Int32)), .unset] [(.ref b60)]) _ _ _
          refine Ends.go (fun _ k => XS.astore X63.here hx rfl (hb hby at_371) rfl rfl (l' := #[.val (.int p0), .val (.int p1), .val (.int p2), .val (.int p3), .val (.int s4), .val (.int s5), .val (.int s6), .val (.int s7), .val (.int r1), .val (.int r2), .val (.int r3), .val (.int (35 : Int32)), .val (.ref b5), .val (.int (1 : Int32)), .val (.int (4 : Int32)), .val (.int (5 : Int32)), .val (.int (5 : Int32)), .val (.int (5 : Int32)), .val (.int (5 : Int32)), .val (.ref b60)]) rfl k) ?_
          show Ends p e below s T63 (mkF m 373 #[.val (.int p0), .val (.int p1), .val (.int p2), .val (.int p3), .val (.int s4), .val (.int s5), .val (.int s6), .val (.int s7), .val (.int r1), .val (.int r2), .val (.int r3), .val (.int (35 : Int32)), .val (.ref b5), .val (.int (1 : Int32)), .val (.int (4 : Int32)), .val (.int (5 : Int32)), .val (.int (5 : Int32)), .val (.int (5 : Int32)), .val (.int (5 : Int32)), .val (.ref b60)] []) _ _ _
          refine Ends.go (fun _ k => XS.aload X63.here hx rfl (hb hby at_373) rfl rfl k) ?_
          show Ends p e below s T63 (mkF m 375 #[.val (.int p0), .val (.int p1), .val (.int p2), .val (.int p3), .val (.int s4), .val (.int s5), .val (.int s6), .val (.int s7), .val (.int r1), .val (.int r2), .val (.int r3), .val (.int (35 : Int32)), .val (.ref b5), .val (.int (1 : Int32)), .val (.int (4 : Int32)), .val (.int (5 : Int32)), .val (.int (5 : Int32)), .val (.int (5 : Int32)), .val (.int (5 : Int32)), .val (.ref b60)] [(.ref b60)]) _ _ _
          obtain ⟨cq64, kq64, q64a, q64b, q64c⟩ := isOf hZ e63 Eq63
          obtain ⟨_, _, ⟨T64, L64, k64, n64⟩, -, X64, ⟨Lc64, hQ64, l64, y64, z64⟩, st64⟩ := X63.virtualBack hx (y := (⟨"com/example/authority/authority/UriReference", "isUri", "()Z"⟩ : MethodName)) (z := (⟨"com/example/authority/authority/UriReference", "isUri", "()Z"⟩ : MethodName)) hown (mvT hZ (hw _ (List.mem_of_getElem? (i := 56) rfl))) (mvT hZ (hw _ (List.mem_of_getElem? (i := 57) rfl))) (notFace_of_selects (args := #[]) (mvT hZ (hw _ (List.mem_of_getElem? (i := 59) rfl)))) (mvT hZ (hw _ (List.mem_of_getElem? (i := 59) rfl))) (mvT hZ (hw _ (List.mem_of_getElem? (i := 58) rfl))) (by decide) (own_backOf (W := 0) (rmQ l Z a0 hw [] n0 h63 O63 b60 (1 : Int32) Fq63_mSchemeEnd (1 : Int32) (by decide)) hZ (hw _ (List.mem_of_getElem? (i := 60) rfl)) (hw _ (List.mem_of_getElem? (i := 8) rfl)) (by decide) (by decide)) q64a q64c (g := (mkF m 375 #[.val (.int p0), .val (.int p1), .val (.int p2), .val (.int p3), .val (.int s4), .val (.int s5), .val (.int s6), .val (.int s7), .val (.int r1), .val (.int r2), .val (.int r3), .val (.int (35 : Int32)), .val (.ref b5), .val (.int (1 : Int32)), .val (.int (4 : Int32)), .val (.int (5 : Int32)), .val (.int (5 : Int32)), .val (.int (5 : Int32)), .val (.int (5 : Int32)), .val (.ref b60)] [(.ref b60)])) rfl (by rw [hml]; rfl) (Steps.refl _) (argsL := []) (rest := []) (lenOf pd0_3 rfl) rfl (by show 2 * 0 + _ ≤ _; exact Nat.le_of_eq rfl) (hb hby at_375) (fun _ _ => ⟨rfl, e63, (by decide : 4 + 0 ≤ _), (by decide : 23 + 0 ≤ _)⟩)
          dsimp only [Pt.U, Pt.locs, Pt.cells, Pt.slots] at X64 l64 y64 z64 st64 hQ64
          subst l64 y64 z64
          obtain ⟨rfl, N64q, e64q⟩ := hQ64
          have N64 := Fr.app N63 N64q
          refine Ends.go (fun _ k => st64.trans k) ?_
          show Ends p e below s T64 (mkF m 378 #[.val (.int p0), .val (.int p1), .val (.int p2), .val (.int p3), .val (.int s4), .val (.int s5), .val (.int s6), .val (.int s7), .val (.int r1), .val (.int r2), .val (.int r3), .val (.int (35 : Int32)), .val (.ref b5), .val (.int (1 : Int32)), .val (.int (4 : Int32)), .val (.int (5 : Int32)), .val (.int (5 : Int32)), .val (.int (5 : Int32)), .val (.int (5 : Int32)), .val (.ref b60)] [(.int (1 : Int32))]) _ _ _
          refine Ends.go (fun _ k => XS.iload X64.here hx rfl (hb hby at_378) rfl k) ?_
          show Ends p e below s T64 (mkF m 380 #[.val (.int p0), .val (.int p1), .val (.int p2), .val (.int p3), .val (.int s4), .val (.int s5), .val (.int s6), .val (.int s7), .val (.int r1), .val (.int r2), .val (.int r3), .val (.int (35 : Int32)), .val (.ref b5), .val (.int (1 : Int32)), .val (.int (4 : Int32)), .val (.int (5 : Int32)), .val (.int (5 : Int32)), .val (.int (5 : Int32)), .val (.int (5 : Int32)), .val (.ref b60)] [(.int s4), (.int (1 : Int32))]) _ _ _
          refine Ends.go (fun _ k => XS.icmpNo X64.here hx rfl (hb hby at_380) rfl (teq ((h4.resolve_left hc108_6).symm : (1 : Int32) = s4)).2 k) ?_
          show Ends p e below s T64 (mkF m 383 #[.val (.int p0), .val (.int p1), .val (.int p2), .val (.int p3), .val (.int s4), .val (.int s5), .val (.int s6), .val (.int s7), .val (.int r1), .val (.int r2), .val (.int r3), .val (.int (35 : Int32)), .val (.ref b5), .val (.int (1 : Int32)), .val (.int (4 : Int32)), .val (.int (5 : Int32)), .val (.int (5 : Int32)), .val (.int (5 : Int32)), .val (.int (5 : Int32)), .val (.ref b60)] []) _ _ _
          refine Ends.go (fun _ k => XS.iconst X64.here hx rfl (hb hby at_383) k) ?_
          show Ends p e below s T64 (mkF m 384 #[.val (.int p0), .val (.int p1), .val (.int p2), .val (.int p3), .val (.int s4), .val (.int s5), .val (.int s6), .val (.int s7), .val (.int r1), .val (.int r2), .val (.int r3), .val (.int (35 : Int32)), .val (.ref b5), .val (.int (1 : Int32)), .val (.int (4 : Int32)), .val (.int (5 : Int32)), .val (.int (5 : Int32)), .val (.int (5 : Int32)), .val (.int (5 : Int32)), .val (.ref b60)] [(.int (1 : Int32))]) _ _ _
          refine Ends.go (fun _ k => XS.goto X64.here hx rfl (pc0 := 384) (pc' := 388) rfl (hb hby at_384) (by decide) (by decide) k) ?_
          show Ends p e below s T64 (mkF m 388 #[.val (.int p0), .val (.int p1), .val (.int p2), .val (.int p3), .val (.int s4), .val (.int s5), .val (.int s6), .val (.int s7), .val (.int r1), .val (.int r2), .val (.int r3), .val (.int (35 : Int32)), .val (.ref b5), .val (.int (1 : Int32)), .val (.int (4 : Int32)), .val (.int (5 : Int32)), .val (.int (5 : Int32)), .val (.int (5 : Int32)), .val (.int (5 : Int32)), .val (.ref b60)] [(.int (1 : Int32))]) _ _ _
          refine Ends.retZ X64 hx Bd.notSynchronized (t := .boolean) Bd.returns (by simp) (hb hby at_388) (by decide) (by decide) ?_
          exact ⟨rfl, N64⟩
    · refine Ends.go (fun _ k => XS.ifNo X3.here hx rfl (hb hby at_73) rfl ((if0 _ _).trans (feq hc73_4).1) k) ?_
      show Ends p e below s T3 (mkF m 76 #[.val (.int p0), .val (.int p1), .val (.int p2), .val (.int p3), .val (.int s4), .val (.int s5), .val (.int s6), .val (.int s7), .val (.int r1), .val (.int r2), .val (.int r3), .unset, .unset, .unset, .unset, .unset, .unset, .unset, .unset, .unset] []) _ _ _
      refine Ends.go (fun _ k => XS.bipush X3.here hx rfl (hb hby at_76) k) ?_
      show Ends p e below s T3 (mkF m 78 #[.val (.int p0), .val (.int p1), .val (.int p2), .val (.int p3), .val (.int s4), .val (.int s5), .val (.int s6), .val (.int s7), .val (.int r1), .val (.int r2), .val (.int r3), .unset, .unset, .unset, .unset, .unset, .unset, .unset, .unset, .unset] [(.int (63 : Int32))]) _ _ _
      refine Ends.go (fun _ k => XS.goto X3.here hx rfl (pc0 := 78) (pc' := 83) rfl (hb hby at_78) (by decide) (by decide) k) ?_
      show Ends p e below s T3 (mkF m 83 #[.val (.int p0), .val (.int p1), .val (.int p2), .val (.int p3), .val (.int s4), .val (.int s5), .val (.int s6), .val (.int s7), .val (.int r1), .val (.int r2), .val (.int r3), .unset, .unset, .unset, .unset, .unset, .unset, .unset, .unset, .unset] [(.int (63 : Int32))]) _ _ _
      refine Ends.go (fun _ k => XS.istore X3.here hx rfl (hb hby at_83) rfl (l' := #[.val (.int p0), .val (.int p1), .val (.int p2), .val (.int p3), .val (.int s4), .val (.int s5), .val (.int s6), .val (.int s7), .val (.int r1), .val (.int r2), .val (.int r3), .val (.int (63 : Int32)), .unset, .unset, .unset, .unset, .unset, .unset, .unset, .unset]) rfl k) ?_
      show Ends p e below s T3 (mkF m 85 #[.val (.int p0), .val (.int p1), .val (.int p2), .val (.int p3), .val (.int s4), .val (.int s5), .val (.int s6), .val (.int s7), .val (.int r1), .val (.int r2), .val (.int r3), .val (.int (63 : Int32)), .unset, .unset, .unset, .unset, .unset, .unset, .unset, .unset] []) _ _ _
      refine Ends.go (fun _ k => XS.bipush X3.here hx rfl (hb hby at_85) k) ?_
      show Ends p e below s T3 (mkF m 87 #[.val (.int p0), .val (.int p1), .val (.int p2), .val (.int p3), .val (.int s4), .val (.int s5), .val (.int s6), .val (.int s7), .val (.int r1), .val (.int r2), .val (.int r3), .val (.int (63 : Int32)), .unset, .unset, .unset, .unset, .unset, .unset, .unset, .unset] [(.int (6 : Int32))]) _ _ _
      obtain ⟨T65, h65, k65, X65, e65, E65, A65, st65⟩ := newP X3 hx hZ (hw _ (List.mem_of_getElem? (i := 5) rfl)) e3q (g := (mkF m 87 #[.val (.int p0), .val (.int p1), .val (.int p2), .val (.int p3), .val (.int s4), .val (.int s5), .val (.int s6), .val (.int s7), .val (.int r1), .val (.int r2), .val (.int r3), .val (.int (63 : Int32)), .unset, .unset, .unset, .unset, .unset, .unset, .unset, .unset] [(.int (6 : Int32))])) rfl (hb hby at_87) rfl (by decide) (cap := 6) (by decide) (by decide) (by decide) (by decide)
      obtain ⟨b65, g65⟩ : ∃ z, z = h0.size := ⟨_, rfl⟩
      rw [← g65] at A65 st65
      refine Ends.go st65 ?_
      have g_b65 : n0 ≤ b65 := Nat.le_trans (own_old_le O0) (Nat.le_of_eq g65.symm)
      have sz_b65 : h0.size ≤ b65 := Nat.le_trans K0.1 (Nat.le_of_eq g65.symm)
      have K65 := K0.ext E65
      have O65 := O0.ext E65
      have V_b65 : Arv Z h65 b65 k65 .char (6 : Int32) [(.int (0 : Int32)), (.int (0 : Int32)), (.int (0 : Int32)), (.int (0 : Int32)), (.int (0 : Int32)), (.int (0 : Int32))] (.int (0 : Int32)) := (Arv.new A65 (by decide)).pad (pad_rep [] (.int (0 : Int32)) 6)
      show Ends p e below s T65 (mkF m 89 #[.val (.int p0), .val (.int p1), .val (.int p2), .val (.int p3), .val (.int s4), .val (.int s5), .val (.int s6), .val (.int s7), .val (.int r1), .val (.int r2), .val (.int r3), .val (.int (63 : Int32)), .unset, .unset, .unset, .unset, .unset, .unset, .unset, .unset] [(.ref b65)]) _ _ _
      refine Ends.go (fun _ k => XS.astore X65.here hx rfl (hb hby at_89) rfl rfl (l' := #[.val (.int p0), .val (.int p1), .val (.int p2), .val (.int p3), .val (.int s4), .val (.int s5), .val (.int s6), .val (.int s7), .val (.int r1), .val (.int r2), .val (.int r3), .val (.int (63 : Int32)), .val (.ref b65), .unset, .unset, .unset, .unset, .unset, .unset, .unset]) rfl k) ?_
      show Ends p e below s T65 (mkF m 91 #[.val (.int p0), .val (.int p1), .val (.int p2), .val (.int p3), .val (.int s4), .val (.int s5), .val (.int s6), .val (.int s7), .val (.int r1), .val (.int r2), .val (.int r3), .val (.int (63 : Int32)), .val (.ref b65), .unset, .unset, .unset, .unset, .unset, .unset, .unset] []) _ _ _
      refine Ends.go (fun _ k => XS.iconst X65.here hx rfl (hb hby at_91) k) ?_
      show Ends p e below s T65 (mkF m 92 #[.val (.int p0), .val (.int p1), .val (.int p2), .val (.int p3), .val (.int s4), .val (.int s5), .val (.int s6), .val (.int s7), .val (.int r1), .val (.int r2), .val (.int r3), .val (.int (63 : Int32)), .val (.ref b65), .unset, .unset, .unset, .unset, .unset, .unset, .unset] [(.int (-1 : Int32))]) _ _ _
      refine Ends.go (fun _ k => XS.istore X65.here hx rfl (hb hby at_92) rfl (l' := #[.val (.int p0), .val (.int p1), .val (.int p2), .val (.int p3), .val (.int s4), .val (.int s5), .val (.int s6), .val (.int s7), .val (.int r1), .val (.int r2), .val (.int r3), .val (.int (63 : Int32)), .val (.ref b65), .val (.int (-1 : Int32)), .unset, .unset, .unset, .unset, .unset, .unset]) rfl k) ?_
      show Ends p e below s T65 (mkF m 94 #[.val (.int p0), .val (.int p1), .val (.int p2), .val (.int p3), .val (.int s4), .val (.int s5), .val (.int s6), .val (.int s7), .val (.int r1), .val (.int r2), .val (.int r3), .val (.int (63 : Int32)), .val (.ref b65), .val (.int (-1 : Int32)), .unset, .unset, .unset, .unset, .unset, .unset] []) _ _ _
      refine Ends.go (fun _ k => XS.iconst X65.here hx rfl (hb hby at_94) k) ?_
      show Ends p e below s T65 (mkF m 95 #[.val (.int p0), .val (.int p1), .val (.int p2), .val (.int p3), .val (.int s4), .val (.int s5), .val (.int s6), .val (.int s7), .val (.int r1), .val (.int r2), .val (.int r3), .val (.int (63 : Int32)), .val (.ref b65), .val (.int (-1 : Int32)), .unset, .unset, .unset, .unset, .unset, .unset] [(.int (-1 : Int32))]) _ _ _
      refine Ends.go (fun _ k => XS.istore X65.here hx rfl (hb hby at_95) rfl (l' := #[.val (.int p0), .val (.int p1), .val (.int p2), .val (.int p3), .val (.int s4), .val (.int s5), .val (.int s6), .val (.int s7), .val (.int r1), .val (.int r2), .val (.int r3), .val (.int (63 : Int32)), .val (.ref b65), .val (.int (-1 : Int32)), .val (.int (-1 : Int32)), .unset, .unset, .unset, .unset, .unset]) rfl k) ?_
      show Ends p e below s T65 (mkF m 97 #[.val (.int p0), .val (.int p1), .val (.int p2), .val (.int p3), .val (.int s4), .val (.int s5), .val (.int s6), .val (.int s7), .val (.int r1), .val (.int r2), .val (.int r3), .val (.int (63 : Int32)), .val (.ref b65), .val (.int (-1 : Int32)), .val (.int (-1 : Int32)), .unset, .unset, .unset, .unset, .unset] []) _ _ _
      refine Ends.go (fun _ k => XS.iconst X65.here hx rfl (hb hby at_97) k) ?_
      show Ends p e below s T65 (mkF m 98 #[.val (.int p0), .val (.int p1), .val (.int p2), .val (.int p3), .val (.int s4), .val (.int s5), .val (.int s6), .val (.int s7), .val (.int r1), .val (.int r2), .val (.int r3), .val (.int (63 : Int32)), .val (.ref b65), .val (.int (-1 : Int32)), .val (.int (-1 : Int32)), .unset, .unset, .unset, .unset, .unset] [(.int (-1 : Int32))]) _ _ _
      refine Ends.go (fun _ k => XS.istore X65.here hx rfl (hb hby at_98) rfl (l' := #[.val (.int p0), .val (.int p1), .val (.int p2), .val (.int p3), .val (.int s4), .val (.int s5), .val (.int s6), .val (.int s7), .val (.int r1), .val (.int r2), .val (.int r3), .val (.int (63 : Int32)), .val (.ref b65), .val (.int (-1 : Int32)), .val (.int (-1 : Int32)), .val (.int (-1 : Int32)), .unset, .unset, .unset, .unset]) rfl k) ?_
      show Ends p e below s T65 (mkF m 100 #[.val (.int p0), .val (.int p1), .val (.int p2), .val (.int p3), .val (.int s4), .val (.int s5), .val (.int s6), .val (.int s7), .val (.int r1), .val (.int r2), .val (.int r3), .val (.int (63 : Int32)), .val (.ref b65), .val (.int (-1 : Int32)), .val (.int (-1 : Int32)), .val (.int (-1 : Int32)), .unset, .unset, .unset, .unset] []) _ _ _
      refine Ends.go (fun _ k => XS.iconst X65.here hx rfl (hb hby at_100) k) ?_
      show Ends p e below s T65 (mkF m 101 #[.val (.int p0), .val (.int p1), .val (.int p2), .val (.int p3), .val (.int s4), .val (.int s5), .val (.int s6), .val (.int s7), .val (.int r1), .val (.int r2), .val (.int r3), .val (.int (63 : Int32)), .val (.ref b65), .val (.int (-1 : Int32)), .val (.int (-1 : Int32)), .val (.int (-1 : Int32)), .unset, .unset, .unset, .unset] [(.int (0 : Int32))]) _ _ _
      refine Ends.go (fun _ k => XS.istore X65.here hx rfl (hb hby at_101) rfl (l' := #[.val (.int p0), .val (.int p1), .val (.int p2), .val (.int p3), .val (.int s4), .val (.int s5), .val (.int s6), .val (.int s7), .val (.int r1), .val (.int r2), .val (.int r3), .val (.int (63 : Int32)), .val (.ref b65), .val (.int (-1 : Int32)), .val (.int (-1 : Int32)), .val (.int (-1 : Int32)), .val (.int (0 : Int32)), .unset, .unset, .unset]) rfl k) ?_
      show Ends p e below s T65 (mkF m 103 #[.val (.int p0), .val (.int p1), .val (.int p2), .val (.int p3), .val (.int s4), .val (.int s5), .val (.int s6), .val (.int s7), .val (.int r1), .val (.int r2), .val (.int r3), .val (.int (63 : Int32)), .val (.ref b65), .val (.int (-1 : Int32)), .val (.int (-1 : Int32)), .val (.int (-1 : Int32)), .val (.int (0 : Int32)), .unset, .unset, .unset] []) _ _ _
      refine Ends.go (fun _ k => XS.iconst X65.here hx rfl (hb hby at_103) k) ?_
      show Ends p e below s T65 (mkF m 104 #[.val (.int p0), .val (.int p1), .val (.int p2), .val (.int p3), .val (.int s4), .val (.int s5), .val (.int s6), .val (.int s7), .val (.int r1), .val (.int r2), .val (.int r3), .val (.int (63 : Int32)), .val (.ref b65), .val (.int (-1 : Int32)), .val (.int (-1 : Int32)), .val (.int (-1 : Int32)), .val (.int (0 : Int32)), .unset, .unset, .unset] [(.int (5 : Int32))]) _ _ _
      refine Ends.go (fun _ k => XS.istore X65.here hx rfl (hb hby at_104) rfl (l' := #[.val (.int p0), .val (.int p1), .val (.int p2), .val (.int p3), .val (.int s4), .val (.int s5), .val (.int s6), .val (.int s7), .val (.int r1), .val (.int r2), .val (.int r3), .val (.int (63 : Int32)), .val (.ref b65), .val (.int (-1 : Int32)), .val (.int (-1 : Int32)), .val (.int (-1 : Int32)), .val (.int (0 : Int32)), .val (.int (5 : Int32)), .unset, .unset]) rfl k) ?_
      show Ends p e below s T65 (mkF m 106 #[.val (.int p0), .val (.int p1), .val (.int p2), .val (.int p3), .val (.int s4), .val (.int s5), .val (.int s6), .val (.int s7), .val (.int r1), .val (.int r2), .val (.int r3), .val (.int (63 : Int32)), .val (.ref b65), .val (.int (-1 : Int32)), .val (.int (-1 : Int32)), .val (.int (-1 : Int32)), .val (.int (0 : Int32)), .val (.int (5 : Int32)), .unset, .unset] []) _ _ _
      refine Ends.go (fun _ k => XS.iload X65.here hx rfl (hb hby at_106) rfl k) ?_
      show Ends p e below s T65 (mkF m 108 #[.val (.int p0), .val (.int p1), .val (.int p2), .val (.int p3), .val (.int s4), .val (.int s5), .val (.int s6), .val (.int s7), .val (.int r1), .val (.int r2), .val (.int r3), .val (.int (63 : Int32)), .val (.ref b65), .val (.int (-1 : Int32)), .val (.int (-1 : Int32)), .val (.int (-1 : Int32)), .val (.int (0 : Int32)), .val (.int (5 : Int32)), .unset, .unset] [(.int s4)]) _ _ _
      by_cases hc108_66 : s4 = (0 : Int32)
      · refine Ends.go (fun _ k => XS.ifYes X65.here hx rfl (pc0 := 108) (pc' := 244) rfl (hb hby at_108) rfl ((if0 _ _).trans (teq hc108_66).1) (by decide) (by decide) k) ?_
        show Ends p e below s T65 (mkF m 244 #[.val (.int p0), .val (.int p1), .val (.int p2), .val (.int p3), .val (.int s4), .val (.int s5), .val (.int s6), .val (.int s7), .val (.int r1), .val (.int r2), .val (.int r3), .val (.int (63 : Int32)), .val (.ref b65), .val (.int (-1 : Int32)), .val (.int (-1 : Int32)), .val (.int (-1 : Int32)), .val (.int (0 : Int32)), .val (.int (5 : Int32)), .unset, .unset] []) _ _ _
        refine Ends.go (fun _ k => XS.iload X65.here hx rfl (hb hby at_244) rfl k) ?_
        show Ends p e below s T65 (mkF m 246 #[.val (.int p0), .val (.int p1), .val (.int p2), .val (.int p3), .val (.int s4), .val (.int s5), .val (.int s6), .val (.int s7), .val (.int r1), .val (.int r2), .val (.int r3), .val (.int (63 : Int32)), .val (.ref b65), .val (.int (-1 : Int32)), .val (.int (-1 : Int32)), .val (.int (-1 : Int32)), .val (.int (0 : Int32)), .val (.int (5 : Int32)), .unset, .unset] [(.int s5)]) _ _ _
        by_cases hc246_67 : s5 = (0 : Int32)
        · refine Ends.go (fun _ k => XS.ifYes X65.here hx rfl (pc0 := 246) (pc' := 291) rfl (hb hby at_246) rfl ((if0 _ _).trans (teq hc246_67).1) (by decide) (by decide) k) ?_
          show Ends p e below s T65 (mkF m 291 #[.val (.int p0), .val (.int p1), .val (.int p2), .val (.int p3), .val (.int s4), .val (.int s5), .val (.int s6), .val (.int s7), .val (.int r1), .val (.int r2), .val (.int r3), .val (.int (63 : Int32)), .val (.ref b65), .val (.int (-1 : Int32)), .val (.int (-1 : Int32)), .val (.int (-1 : Int32)), .val (.int (0 : Int32)), .val (.int (5 : Int32)), .unset, .unset] []) _ _ _
          refine Ends.go (fun _ k => XS.aload X65.here hx rfl (hb hby at_291) rfl rfl k) ?_
          show Ends p e below s T65 (mkF m 293 #[.val (.int p0), .val (.int p1), .val (.int p2), .val (.int p3), .val (.int s4), .val (.int s5), .val (.int s6), .val (.int s7), .val (.int r1), .val (.int r2), .val (.int r3), .val (.int (63 : Int32)), .val (.ref b65), .val (.int (-1 : Int32)), .val (.int (-1 : Int32)), .val (.int (-1 : Int32)), .val (.int (0 : Int32)), .val (.int (5 : Int32)), .unset, .unset] [(.ref b65)]) _ _ _
          refine Ends.go (fun _ k => XS.iconst X65.here hx rfl (hb hby at_293) k) ?_
          show Ends p e below s T65 (mkF m 294 #[.val (.int p0), .val (.int p1), .val (.int p2), .val (.int p3), .val (.int s4), .val (.int s5), .val (.int s6), .val (.int s7), .val (.int r1), .val (.int r2), .val (.int r3), .val (.int (63 : Int32)), .val (.ref b65), .val (.int (-1 : Int32)), .val (.int (-1 : Int32)), .val (.int (-1 : Int32)), .val (.int (0 : Int32)), .val (.int (5 : Int32)), .unset, .unset] [(.int (0 : Int32)), (.ref b65)]) _ _ _
          refine Ends.go (fun _ k => XS.bipush X65.here hx rfl (hb hby at_294) k) ?_
          show Ends p e below s T65 (mkF m 296 #[.val (.int p0), .val (.int p1), .val (.int p2), .val (.int p3), .val (.int s4), .val (.int s5), .val (.int s6), .val (.int s7), .val (.int r1), .val (.int r2), .val (.int r3), .val (.int (63 : Int32)), .val (.ref b65), .val (.int (-1 : Int32)), .val (.int (-1 : Int32)), .val (.int (-1 : Int32)), .val (.int (0 : Int32)), .val (.int (5 : Int32)), .unset, .unset] [(.int (47 : Int32)), (.int (0 : Int32)), (.ref b65)]) _ _ _
          obtain ⟨cl68, Ar68, q68, S68, M68, H68, G68⟩ := id V_b65
          have hin68 := inb_of (j := (0 : Int32)) S68 ⟨by decide, by decide⟩
          obtain ⟨T68, h68, X68, e68, W68, st68⟩ := stC X65 hx hZ e65 Ar68 (j := (0 : Int32)) hin68 (g := (mkF m 296 #[.val (.int p0), .val (.int p1), .val (.int p2), .val (.int p3), .val (.int s4), .val (.int s5), .val (.int s6), .val (.int s7), .val (.int r1), .val (.int r2), .val (.int r3), .val (.int (63 : Int32)), .val (.ref b65), .val (.int (-1 : Int32)), .val (.int (-1 : Int32)), .val (.int (-1 : Int32)), .val (.int (0 : Int32)), .val (.int (5 : Int32)), .unset, .unset] [(.int (47 : Int32)), (.int (0 : Int32)), (.ref b65)])) rfl rfl (hb hby at_296)
          refine Ends.go st68 ?_
          have V68 : Arv Z h68 b65 k65 .char (6 : Int32) [(.int (47 : Int32)), (.int (0 : Int32)), (.int (0 : Int32)), (.int (0 : Int32)), (.int (0 : Int32)), (.int (0 : Int32))] (.int (0 : Int32)) := Arv.set Ar68 q68 S68 M68 H68 G68 rfl W68 0 rfl (Nat.le_of_ble_eq_true rfl)
          have K68 := K65.wr W68 (Or.inr sz_b65)
          have O68 := O65.wr W68 g_b65
          have N68 := Fr.snoc X68 N3 g_b65
          show Ends p e below s T68 (mkF m 297 #[.val (.int p0), .val (.int p1), .val (.int p2), .val (.int p3), .val (.int s4), .val (.int s5), .val (.int s6), .val (.int s7), .val (.int r1), .val (.int r2), .val (.int r3), .val (.int (63 : Int32)), .val (.ref b65), .val (.int (-1 : Int32)), .val (.int (-1 : Int32)), .val (.int (-1 : Int32)), .val (.int (0 : Int32)), .val (.int (5 : Int32)), .unset, .unset] []) _ _ _
          refine Ends.go (fun _ k => XS.aload X68.here hx rfl (hb hby at_297) rfl rfl k) ?_
          show Ends p e below s T68 (mkF m 299 #[.val (.int p0), .val (.int p1), .val (.int p2), .val (.int p3), .val (.int s4), .val (.int s5), .val (.int s6), .val (.int s7), .val (.int r1), .val (.int r2), .val (.int r3), .val (.int (63 : Int32)), .val (.ref b65), .val (.int (-1 : Int32)), .val (.int (-1 : Int32)), .val (.int (-1 : Int32)), .val (.int (0 : Int32)), .val (.int (5 : Int32)), .unset, .unset] [(.ref b65)]) _ _ _
          refine Ends.go (fun _ k => XS.iconst X68.here hx rfl (hb hby at_299) k) ?_
          show Ends p e below s T68 (mkF m 300 #[.val (.int p0), .val (.int p1), .val (.int p2), .val (.int p3), .val (.int s4), .val (.int s5), .val (.int s6), .val (.int s7), .val (.int r1), .val (.int r2), .val (.int r3), .val (.int (63 : Int32)), .val (.ref b65), .val (.int (-1 : Int32)), .val (.int (-1 : Int32)), .val (.int (-1 : Int32)), .val (.int (0 : Int32)), .val (.int (5 : Int32)), .unset, .unset] [(.int (1 : Int32)), (.ref b65)]) _ _ _
          refine Ends.go (fun _ k => XS.iload X68.here hx rfl (hb hby at_300) rfl k) ?_
          show Ends p e below s T68 (mkF m 302 #[.val (.int p0), .val (.int p1), .val (.int p2), .val (.int p3), .val (.int s4), .val (.int s5), .val (.int s6), .val (.int s7), .val (.int r1), .val (.int r2), .val (.int r3), .val (.int (63 : Int32)), .val (.ref b65), .val (.int (-1 : Int32)), .val (.int (-1 : Int32)), .val (.int (-1 : Int32)), .val (.int (0 : Int32)), .val (.int (5 : Int32)), .unset, .unset] [(.int r1), (.int (1 : Int32)), (.ref b65)]) _ _ _
          obtain ⟨cl69, Ar69, q69, S69, M69, H69, G69⟩ := id V68
          have hin69 := inb_of (j := (1 : Int32)) S69 ⟨by decide, by decide⟩
          obtain ⟨T69, h69, X69, e69, W69, st69⟩ := stC X68 hx hZ e68 Ar69 (j := (1 : Int32)) hin69 (g := (mkF m 302 #[.val (.int p0), .val (.int p1), .val (.int p2), .val (.int p3), .val (.int s4), .val (.int s5), .val (.int s6), .val (.int s7), .val (.int r1), .val (.int r2), .val (.int r3), .val (.int (63 : Int32)), .val (.ref b65), .val (.int (-1 : Int32)), .val (.int (-1 : Int32)), .val (.int (-1 : Int32)), .val (.int (0 : Int32)), .val (.int (5 : Int32)), .unset, .unset] [(.int r1), (.int (1 : Int32)), (.ref b65)])) rfl rfl (hb hby at_302)
          refine Ends.go st69 ?_
          have V69 : Arv Z h69 b65 k65 .char (6 : Int32) [(.int (47 : Int32)), (.int (nar .char r1)), (.int (0 : Int32)), (.int (0 : Int32)), (.int (0 : Int32)), (.int (0 : Int32))] (.int (0 : Int32)) := Arv.set Ar69 q69 S69 M69 H69 G69 (fits_nar_char _) W69 1 rfl (Nat.le_of_ble_eq_true rfl)
          have K69 := K68.wr W69 (Or.inr sz_b65)
          have O69 := O68.wr W69 g_b65
          have N69 := Fr.snoc X69 N68 g_b65
          show Ends p e below s T69 (mkF m 303 #[.val (.int p0), .val (.int p1), .val (.int p2), .val (.int p3), .val (.int s4), .val (.int s5), .val (.int s6), .val (.int s7), .val (.int r1), .val (.int r2), .val (.int r3), .val (.int (63 : Int32)), .val (.ref b65), .val (.int (-1 : Int32)), .val (.int (-1 : Int32)), .val (.int (-1 : Int32)), .val (.int (0 : Int32)), .val (.int (5 : Int32)), .unset, .unset] []) _ _ _
          refine Ends.go (fun _ k => XS.aload X69.here hx rfl (hb hby at_303) rfl rfl k) ?_
          show Ends p e below s T69 (mkF m 305 #[.val (.int p0), .val (.int p1), .val (.int p2), .val (.int p3), .val (.int s4), .val (.int s5), .val (.int s6), .val (.int s7), .val (.int r1), .val (.int r2), .val (.int r3), .val (.int (63 : Int32)), .val (.ref b65), .val (.int (-1 : Int32)), .val (.int (-1 : Int32)), .val (.int (-1 : Int32)), .val (.int (0 : Int32)), .val (.int (5 : Int32)), .unset, .unset] [(.ref b65)]) _ _ _
          refine Ends.go (fun _ k => XS.iconst X69.here hx rfl (hb hby at_305) k) ?_
          show Ends p e below s T69 (mkF m 306 #[.val (.int p0), .val (.int p1), .val (.int p2), .val (.int p3), .val (.int s4), .val (.int s5), .val (.int s6), .val (.int s7), .val (.int r1), .val (.int r2), .val (.int r3), .val (.int (63 : Int32)), .val (.ref b65), .val (.int (-1 : Int32)), .val (.int (-1 : Int32)), .val (.int (-1 : Int32)), .val (.int (0 : Int32)), .val (.int (5 : Int32)), .unset, .unset] [(.int (2 : Int32)), (.ref b65)]) _ _ _
          refine Ends.go (fun _ k => XS.iload X69.here hx rfl (hb hby at_306) rfl k) ?_
          show Ends p e below s T69 (mkF m 308 #[.val (.int p0), .val (.int p1), .val (.int p2), .val (.int p3), .val (.int s4), .val (.int s5), .val (.int s6), .val (.int s7), .val (.int r1), .val (.int r2), .val (.int r3), .val (.int (63 : Int32)), .val (.ref b65), .val (.int (-1 : Int32)), .val (.int (-1 : Int32)), .val (.int (-1 : Int32)), .val (.int (0 : Int32)), .val (.int (5 : Int32)), .unset, .unset] [(.int r2), (.int (2 : Int32)), (.ref b65)]) _ _ _
          obtain ⟨cl70, Ar70, q70, S70, M70, H70, G70⟩ := id V69
          have hin70 := inb_of (j := (2 : Int32)) S70 ⟨by decide, by decide⟩
          obtain ⟨T70, h70, X70, e70, W70, st70⟩ := stC X69 hx hZ e69 Ar70 (j := (2 : Int32)) hin70 (g := (mkF m 308 #[.val (.int p0), .val (.int p1), .val (.int p2), .val (.int p3), .val (.int s4), .val (.int s5), .val (.int s6), .val (.int s7), .val (.int r1), .val (.int r2), .val (.int r3), .val (.int (63 : Int32)), .val (.ref b65), .val (.int (-1 : Int32)), .val (.int (-1 : Int32)), .val (.int (-1 : Int32)), .val (.int (0 : Int32)), .val (.int (5 : Int32)), .unset, .unset] [(.int r2), (.int (2 : Int32)), (.ref b65)])) rfl rfl (hb hby at_308)
          refine Ends.go st70 ?_
          have V70 : Arv Z h70 b65 k65 .char (6 : Int32) [(.int (47 : Int32)), (.int (nar .char r1)), (.int (nar .char r2)), (.int (0 : Int32)), (.int (0 : Int32)), (.int (0 : Int32))] (.int (0 : Int32)) := Arv.set Ar70 q70 S70 M70 H70 G70 (fits_nar_char _) W70 2 rfl (Nat.le_of_ble_eq_true rfl)
          have K70 := K69.wr W70 (Or.inr sz_b65)
          have O70 := O69.wr W70 g_b65
          have N70 := Fr.snoc X70 N69 g_b65
          show Ends p e below s T70 (mkF m 309 #[.val (.int p0), .val (.int p1), .val (.int p2), .val (.int p3), .val (.int s4), .val (.int s5), .val (.int s6), .val (.int s7), .val (.int r1), .val (.int r2), .val (.int r3), .val (.int (63 : Int32)), .val (.ref b65), .val (.int (-1 : Int32)), .val (.int (-1 : Int32)), .val (.int (-1 : Int32)), .val (.int (0 : Int32)), .val (.int (5 : Int32)), .unset, .unset] []) _ _ _
          refine Ends.go (fun _ k => XS.aload X70.here hx rfl (hb hby at_309) rfl rfl k) ?_
          show Ends p e below s T70 (mkF m 311 #[.val (.int p0), .val (.int p1), .val (.int p2), .val (.int p3), .val (.int s4), .val (.int s5), .val (.int s6), .val (.int s7), .val (.int r1), .val (.int r2), .val (.int r3), .val (.int (63 : Int32)), .val (.ref b65), .val (.int (-1 : Int32)), .val (.int (-1 : Int32)), .val (.int (-1 : Int32)), .val (.int (0 : Int32)), .val (.int (5 : Int32)), .unset, .unset] [(.ref b65)]) _ _ _
          refine Ends.go (fun _ k => XS.iconst X70.here hx rfl (hb hby at_311) k) ?_
          show Ends p e below s T70 (mkF m 312 #[.val (.int p0), .val (.int p1), .val (.int p2), .val (.int p3), .val (.int s4), .val (.int s5), .val (.int s6), .val (.int s7), .val (.int r1), .val (.int r2), .val (.int r3), .val (.int (63 : Int32)), .val (.ref b65), .val (.int (-1 : Int32)), .val (.int (-1 : Int32)), .val (.int (-1 : Int32)), .val (.int (0 : Int32)), .val (.int (5 : Int32)), .unset, .unset] [(.int (3 : Int32)), (.ref b65)]) _ _ _
          refine Ends.go (fun _ k => XS.bipush X70.here hx rfl (hb hby at_312) k) ?_
          show Ends p e below s T70 (mkF m 314 #[.val (.int p0), .val (.int p1), .val (.int p2), .val (.int p3), .val (.int s4), .val (.int s5), .val (.int s6), .val (.int s7), .val (.int r1), .val (.int r2), .val (.int r3), .val (.int (63 : Int32)), .val (.ref b65), .val (.int (-1 : Int32)), .val (.int (-1 : Int32)), .val (.int (-1 : Int32)), .val (.int (0 : Int32)), .val (.int (5 : Int32)), .unset, .unset] [(.int (47 : Int32)), (.int (3 : Int32)), (.ref b65)]) _ _ _
          obtain ⟨cl71, Ar71, q71, S71, M71, H71, G71⟩ := id V70
          have hin71 := inb_of (j := (3 : Int32)) S71 ⟨by decide, by decide⟩
          obtain ⟨T71, h71, X71, e71, W71, st71⟩ := stC X70 hx hZ e70 Ar71 (j := (3 : Int32)) hin71 (g := (mkF m 314 #[.val (.int p0), .val (.int p1), .val (.int p2), .val (.int p3), .val (.int s4), .val (.int s5), .val (.int s6), .val (.int s7), .val (.int r1), .val (.int r2), .val (.int r3), .val (.int (63 : Int32)), .val (.ref b65), .val (.int (-1 : Int32)), .val (.int (-1 : Int32)), .val (.int (-1 : Int32)), .val (.int (0 : Int32)), .val (.int (5 : Int32)), .unset, .unset] [(.int (47 : Int32)), (.int (3 : Int32)), (.ref b65)])) rfl rfl (hb hby at_314)
          refine Ends.go st71 ?_
          have V71 : Arv Z h71 b65 k65 .char (6 : Int32) [(.int (47 : Int32)), (.int (nar .char r1)), (.int (nar .char r2)), (.int (47 : Int32)), (.int (0 : Int32)), (.int (0 : Int32))] (.int (0 : Int32)) := Arv.set Ar71 q71 S71 M71 H71 G71 rfl W71 3 rfl (Nat.le_of_ble_eq_true rfl)
          have K71 := K70.wr W71 (Or.inr sz_b65)
          have O71 := O70.wr W71 g_b65
          have N71 := Fr.snoc X71 N70 g_b65
          show Ends p e below s T71 (mkF m 315 #[.val (.int p0), .val (.int p1), .val (.int p2), .val (.int p3), .val (.int s4), .val (.int s5), .val (.int s6), .val (.int s7), .val (.int r1), .val (.int r2), .val (.int r3), .val (.int (63 : Int32)), .val (.ref b65), .val (.int (-1 : Int32)), .val (.int (-1 : Int32)), .val (.int (-1 : Int32)), .val (.int (0 : Int32)), .val (.int (5 : Int32)), .unset, .unset] []) _ _ _
          refine Ends.go (fun _ k => XS.aload X71.here hx rfl (hb hby at_315) rfl rfl k) ?_
          show Ends p e below s T71 (mkF m 317 #[.val (.int p0), .val (.int p1), .val (.int p2), .val (.int p3), .val (.int s4), .val (.int s5), .val (.int s6), .val (.int s7), .val (.int r1), .val (.int r2), .val (.int r3), .val (.int (63 : Int32)), .val (.ref b65), .val (.int (-1 : Int32)), .val (.int (-1 : Int32)), .val (.int (-1 : Int32)), .val (.int (0 : Int32)), .val (.int (5 : Int32)), .unset, .unset] [(.ref b65)]) _ _ _
          refine Ends.go (fun _ k => XS.iconst X71.here hx rfl (hb hby at_317) k) ?_
          show Ends p e below s T71 (mkF m 318 #[.val (.int p0), .val (.int p1), .val (.int p2), .val (.int p3), .val (.int s4), .val (.int s5), .val (.int s6), .val (.int s7), .val (.int r1), .val (.int r2), .val (.int r3), .val (.int (63 : Int32)), .val (.ref b65), .val (.int (-1 : Int32)), .val (.int (-1 : Int32)), .val (.int (-1 : Int32)), .val (.int (0 : Int32)), .val (.int (5 : Int32)), .unset, .unset] [(.int (4 : Int32)), (.ref b65)]) _ _ _
          refine Ends.go (fun _ k => XS.iload X71.here hx rfl (hb hby at_318) rfl k) ?_
          show Ends p e below s T71 (mkF m 320 #[.val (.int p0), .val (.int p1), .val (.int p2), .val (.int p3), .val (.int s4), .val (.int s5), .val (.int s6), .val (.int s7), .val (.int r1), .val (.int r2), .val (.int r3), .val (.int (63 : Int32)), .val (.ref b65), .val (.int (-1 : Int32)), .val (.int (-1 : Int32)), .val (.int (-1 : Int32)), .val (.int (0 : Int32)), .val (.int (5 : Int32)), .unset, .unset] [(.int r3), (.int (4 : Int32)), (.ref b65)]) _ _ _
          obtain ⟨cl72, Ar72, q72, S72, M72, H72, G72⟩ := id V71
          have hin72 := inb_of (j := (4 : Int32)) S72 ⟨by decide, by decide⟩
          obtain ⟨T72, h72, X72, e72, W72, st72⟩ := stC X71 hx hZ e71 Ar72 (j := (4 : Int32)) hin72 (g := (mkF m 320 #[.val (.int p0), .val (.int p1), .val (.int p2), .val (.int p3), .val (.int s4), .val (.int s5), .val (.int s6), .val (.int s7), .val (.int r1), .val (.int r2), .val (.int r3), .val (.int (63 : Int32)), .val (.ref b65), .val (.int (-1 : Int32)), .val (.int (-1 : Int32)), .val (.int (-1 : Int32)), .val (.int (0 : Int32)), .val (.int (5 : Int32)), .unset, .unset] [(.int r3), (.int (4 : Int32)), (.ref b65)])) rfl rfl (hb hby at_320)
          refine Ends.go st72 ?_
          have V72 : Arv Z h72 b65 k65 .char (6 : Int32) [(.int (47 : Int32)), (.int (nar .char r1)), (.int (nar .char r2)), (.int (47 : Int32)), (.int (nar .char r3)), (.int (0 : Int32))] (.int (0 : Int32)) := Arv.set Ar72 q72 S72 M72 H72 G72 (fits_nar_char _) W72 4 rfl (Nat.le_of_ble_eq_true rfl)
          have K72 := K71.wr W72 (Or.inr sz_b65)
          have O72 := O71.wr W72 g_b65
          have N72 := Fr.snoc X72 N71 g_b65
          show Ends p e below s T72 (mkF m 321 #[.val (.int p0), .val (.int p1), .val (.int p2), .val (.int p3), .val (.int s4), .val (.int s5), .val (.int s6), .val (.int s7), .val (.int r1), .val (.int r2), .val (.int r3), .val (.int (63 : Int32)), .val (.ref b65), .val (.int (-1 : Int32)), .val (.int (-1 : Int32)), .val (.int (-1 : Int32)), .val (.int (0 : Int32)), .val (.int (5 : Int32)), .unset, .unset] []) _ _ _
          refine Ends.go (fun _ k => XS.iconst X72.here hx rfl (hb hby at_321) k) ?_
          show Ends p e below s T72 (mkF m 322 #[.val (.int p0), .val (.int p1), .val (.int p2), .val (.int p3), .val (.int s4), .val (.int s5), .val (.int s6), .val (.int s7), .val (.int r1), .val (.int r2), .val (.int r3), .val (.int (63 : Int32)), .val (.ref b65), .val (.int (-1 : Int32)), .val (.int (-1 : Int32)), .val (.int (-1 : Int32)), .val (.int (0 : Int32)), .val (.int (5 : Int32)), .unset, .unset] [(.int (0 : Int32))]) _ _ _
          refine Ends.go (fun _ k => XS.istore X72.here hx rfl (hb hby at_322) rfl (l' := #[.val (.int p0), .val (.int p1), .val (.int p2), .val (.int p3), .val (.int s4), .val (.int s5), .val (.int s6), .val (.int s7), .val (.int r1), .val (.int r2), .val (.int r3), .val (.int (63 : Int32)), .val (.ref b65), .val (.int (-1 : Int32)), .val (.int (-1 : Int32)), .val (.int (-1 : Int32)), .val (.int (0 : Int32)), .val (.int (5 : Int32)), .unset, .unset]) rfl k) ?_
          show Ends p e below s T72 (mkF m 324 #[.val (.int p0), .val (.int p1), .val (.int p2), .val (.int p3), .val (.int s4), .val (.int s5), .val (.int s6), .val (.int s7), .val (.int r1), .val (.int r2), .val (.int r3), .val (.int (63 : Int32)), .val (.ref b65), .val (.int (-1 : Int32)), .val (.int (-1 : Int32)), .val (.int (-1 : Int32)), .val (.int (0 : Int32)), .val (.int (5 : Int32)), .unset, .unset] []) _ _ _
          refine Ends.go (fun _ k => XS.aload X72.here hx rfl (hb hby at_324) rfl rfl k) ?_
          show Ends p e below s T72 (mkF m 326 #[.val (.int p0), .val (.int p1), .val (.int p2), .val (.int p3), .val (.int s4), .val (.int s5), .val (.int s6), .val (.int s7), .val (.int r1), .val (.int r2), .val (.int r3), .val (.int (63 : Int32)), .val (.ref b65), .val (.int (-1 : Int32)), .val (.int (-1 : Int32)), .val (.int (-1 : Int32)), .val (.int (0 : Int32)), .val (.int (5 : Int32)), .unset, .unset] [(.ref b65)]) _ _ _
          refine Ends.go (fun _ k => XS.iconst X72.here hx rfl (hb hby at_326) k) ?_
          show Ends p e below s T72 (mkF m 327 #[.val (.int p0), .val (.int p1), .val (.int p2), .val (.int p3), .val (.int s4), .val (.int s5), .val (.int s6), .val (.int s7), .val (.int r1), .val (.int r2), .val (.int r3), .val (.int (63 : Int32)), .val (.ref b65), .val (.int (-1 : Int32)), .val (.int (-1 : Int32)), .val (.int (-1 : Int32)), .val (.int (0 : Int32)), .val (.int (5 : Int32)), .unset, .unset] [(.int (5 : Int32)), (.ref b65)]) _ _ _
          refine Ends.go (fun _ k => XS.iload X72.here hx rfl (hb hby at_327) rfl k) ?_
          show Ends p e below s T72 (mkF m 329 #[.val (.int p0), .val (.int p1), .val (.int p2), .val (.int p3), .val (.int s4), .val (.int s5), .val (.int s6), .val (.int s7), .val (.int r1), .val (.int r2), .val (.int r3), .val (.int (63 : Int32)), .val (.ref b65), .val (.int (-1 : Int32)), .val (.int (-1 : Int32)), .val (.int (-1 : Int32)), .val (.int (0 : Int32)), .val (.int (5 : Int32)), .unset, .unset] [(.int (63 : Int32)), (.int (5 : Int32)), (.ref b65)]) _ _ _
          obtain ⟨cl73, Ar73, q73, S73, M73, H73, G73⟩ := id V72
          have hin73 := inb_of (j := (5 : Int32)) S73 ⟨by decide, by decide⟩
          obtain ⟨T73, h73, X73, e73, W73, st73⟩ := stC X72 hx hZ e72 Ar73 (j := (5 : Int32)) hin73 (g := (mkF m 329 #[.val (.int p0), .val (.int p1), .val (.int p2), .val (.int p3), .val (.int s4), .val (.int s5), .val (.int s6), .val (.int s7), .val (.int r1), .val (.int r2), .val (.int r3), .val (.int (63 : Int32)), .val (.ref b65), .val (.int (-1 : Int32)), .val (.int (-1 : Int32)), .val (.int (-1 : Int32)), .val (.int (0 : Int32)), .val (.int (5 : Int32)), .unset, .unset] [(.int (63 : Int32)), (.int (5 : Int32)), (.ref b65)])) rfl rfl (hb hby at_329)
          refine Ends.go st73 ?_
          have V73 : Arv Z h73 b65 k65 .char (6 : Int32) [(.int (47 : Int32)), (.int (nar .char r1)), (.int (nar .char r2)), (.int (47 : Int32)), (.int (nar .char r3)), (.int (63 : Int32))] (.int (0 : Int32)) := Arv.set Ar73 q73 S73 M73 H73 G73 rfl W73 5 rfl (Nat.le_of_ble_eq_true rfl)
          have K73 := K72.wr W73 (Or.inr sz_b65)
          have O73 := O72.wr W73 g_b65
          have N73 := Fr.snoc X73 N72 g_b65
          show Ends p e below s T73 (mkF m 330 #[.val (.int p0), .val (.int p1), .val (.int p2), .val (.int p3), .val (.int s4), .val (.int s5), .val (.int s6), .val (.int s7), .val (.int r1), .val (.int r2), .val (.int r3), .val (.int (63 : Int32)), .val (.ref b65), .val (.int (-1 : Int32)), .val (.int (-1 : Int32)), .val (.int (-1 : Int32)), .val (.int (0 : Int32)), .val (.int (5 : Int32)), .unset, .unset] []) _ _ _
          refine Ends.go (fun _ k => XS.iload X73.here hx rfl (hb hby at_330) rfl k) ?_
          show Ends p e below s T73 (mkF m 332 #[.val (.int p0), .val (.int p1), .val (.int p2), .val (.int p3), .val (.int s4), .val (.int s5), .val (.int s6), .val (.int s7), .val (.int r1), .val (.int r2), .val (.int r3), .val (.int (63 : Int32)), .val (.ref b65), .val (.int (-1 : Int32)), .val (.int (-1 : Int32)), .val (.int (-1 : Int32)), .val (.int (0 : Int32)), .val (.int (5 : Int32)), .unset, .unset] [(.int s6)]) _ _ _
          refine Ends.go (fun _ k => XS.ifNo X73.here hx rfl (hb hby at_332) rfl ((if0 _ _).trans (feq (hc73_4 : ¬ (s6 = (0 : Int32)))).1) k) ?_
          show Ends p e below s T73 (mkF m 335 #[.val (.int p0), .val (.int p1), .val (.int p2), .val (.int p3), .val (.int s4), .val (.int s5), .val (.int s6), .val (.int s7), .val (.int r1), .val (.int r2), .val (.int r3), .val (.int (63 : Int32)), .val (.ref b65), .val (.int (-1 : Int32)), .val (.int (-1 : Int32)), .val (.int (-1 : Int32)), .val (.int (0 : Int32)), .val (.int (5 : Int32)), .unset, .unset] []) _ _ _
          refine Ends.go (fun _ k => XS.bipush X73.here hx rfl (hb hby at_335) k) ?_
          show Ends p e below s T73 (mkF m 337 #[.val (.int p0), .val (.int p1), .val (.int p2), .val (.int p3), .val (.int s4), .val (.int s5), .val (.int s6), .val (.int s7), .val (.int r1), .val (.int r2), .val (.int r3), .val (.int (63 : Int32)), .val (.ref b65), .val (.int (-1 : Int32)), .val (.int (-1 : Int32)), .val (.int (-1 : Int32)), .val (.int (0 : Int32)), .val (.int (5 : Int32)), .unset, .unset] [(.int (6 : Int32))]) _ _ _
          refine Ends.go (fun _ k => XS.goto X73.here hx rfl (pc0 := 337) (pc' := 341) rfl (hb hby at_337) (by decide) (by decide) k) ?_
          show Ends p e below s T73 (mkF m 341 #[.val (.int p0), .val (.int p1), .val (.int p2), .val (.int p3), .val (.int s4), .val (.int s5), .val (.int s6), .val (.int s7), .val (.int r1), .val (.int r2), .val (.int r3), .val (.int (63 : Int32)), .val (.ref b65), .val (.int (-1 : Int32)), .val (.int (-1 : Int32)), .val (.int (-1 : Int32)), .val (.int (0 : Int32)), .val (.int (5 : Int32)), .unset, .unset] [(.int (6 : Int32))]) _ _ _
          refine Ends.go (fun _ k => XS.istore X73.here hx rfl (hb hby at_341) rfl (l' := #[.val (.int p0), .val (.int p1), .val (.int p2), .val (.int p3), .val (.int s4), .val (.int s5), .val (.int s6), .val (.int s7), .val (.int r1), .val (.int r2), .val (.int r3), .val (.int (63 : Int32)), .val (.ref b65), .val (.int (-1 : Int32)), .val (.int (-1 : Int32)), .val (.int (-1 : Int32)), .val (.int (0 : Int32)), .val (.int (5 : Int32)), .val (.int (6 : Int32)), .unset]) rfl k) ?_
          show Ends p e below s T73 (mkF m 343 #[.val (.int p0), .val (.int p1), .val (.int p2), .val (.int p3), .val (.int s4), .val (.int s5), .val (.int s6), .val (.int s7), .val (.int r1), .val (.int r2), .val (.int r3), .val (.int (63 : Int32)), .val (.ref b65), .val (.int (-1 : Int32)), .val (.int (-1 : Int32)), .val (.int (-1 : Int32)), .val (.int (0 : Int32)), .val (.int (5 : Int32)), .val (.int (6 : Int32)), .unset] []) _ _ _
          obtain ⟨T74, h74, X74, e74, E74, A74, D74, -, st74⟩ := newO X73 hx hZ hown (hw _ (List.mem_of_getElem? (i := 6) rfl)) (hw _ (List.mem_of_getElem? (i := 7) rfl)) (hw _ (List.mem_of_getElem? (i := 8) rfl)) e73 (g := (mkF m 343 #[.val (.int p0), .val (.int p1), .val (.int p2), .val (.int p3), .val (.int s4), .val (.int s5), .val (.int s6), .val (.int s7), .val (.int r1), .val (.int r2), .val (.int r3), .val (.int (63 : Int32)), .val (.ref b65), .val (.int (-1 : Int32)), .val (.int (-1 : Int32)), .val (.int (-1 : Int32)), .val (.int (0 : Int32)), .val (.int (5 : Int32)), .val (.int (6 : Int32)), .unset] [])) rfl (hb hby at_343) (by decide) (by decide)
          obtain ⟨b74, g74⟩ : ∃ z, z = h73.size := ⟨_, rfl⟩
          rw [← g74] at A74 D74 st74
          refine Ends.go st74 ?_
          have ne_b65_b74 : b65 ≠ b74 := Nat.ne_of_lt (Nat.lt_of_lt_of_le V73.lt (Nat.le_of_eq g74.symm))
          have g_b74 : n0 ≤ b74 := Nat.le_trans (own_old_le O73) (Nat.le_of_eq g74.symm)
          have sz_b74 : h0.size ≤ b74 := Nat.le_trans K73.1 (Nat.le_of_eq g74.symm)
          have K74 := K73.ext E74
          have O74 := O73.ext E74
          have F_mText_b74 : Fld Z h74 b74 "com/example/authority/authority/UriReference" "mText" "Ljava/lang/String;" .null := D74 (Or.inr (hw _ (List.mem_of_getElem? (i := 43) rfl))) (ty := (.object "java/lang/String")) (by decide)
          have F_mSchemeEnd_b74 : Fld Z h74 b74 "com/example/authority/authority/UriReference" "mSchemeEnd" "I" (.int (0 : Int32)) := D74 (Or.inr (hw _ (List.mem_of_getElem? (i := 45) rfl))) (ty := .int) (by decide)
          have F_mHostStart_b74 : Fld Z h74 b74 "com/example/authority/authority/UriReference" "mHostStart" "I" (.int (0 : Int32)) := D74 (Or.inr (hw _ (List.mem_of_getElem? (i := 47) rfl))) (ty := .int) (by decide)
          have F_mHostEnd_b74 : Fld Z h74 b74 "com/example/authority/authority/UriReference" "mHostEnd" "I" (.int (0 : Int32)) := D74 (Or.inr (hw _ (List.mem_of_getElem? (i := 49) rfl))) (ty := .int) (by decide)
          have F_mPathStart_b74 : Fld Z h74 b74 "com/example/authority/authority/UriReference" "mPathStart" "I" (.int (0 : Int32)) := D74 (Or.inr (hw _ (List.mem_of_getElem? (i := 51) rfl))) (ty := .int) (by decide)
          have F_mPathEnd_b74 : Fld Z h74 b74 "com/example/authority/authority/UriReference" "mPathEnd" "I" (.int (0 : Int32)) := D74 (Or.inr (hw _ (List.mem_of_getElem? (i := 53) rfl))) (ty := .int) (by decide)
          have F_mQueryEnd_b74 : Fld Z h74 b74 "com/example/authority/authority/UriReference" "mQueryEnd" "I" (.int (0 : Int32)) := D74 (Or.inr (hw _ (List.mem_of_getElem? (i := 55) rfl))) (ty := .int) (by decide)
          show Ends p e below s T74 (mkF m 346 #[.val (.int p0), .val (.int p1), .val (.int p2), .val (.int p3), .val (.int s4), .val (.int s5), .val (.int s6), .val (.int s7), .val (.int r1), .val (.int r2), .val (.int r3), .val (.int (63 : Int32)), .val (.ref b65), .val (.int (-1 : Int32)), .val (.int (-1 : Int32)), .val (.int (-1 : Int32)), .val (.int (0 : Int32)), .val (.int (5 : Int32)), .val (.int (6 : Int32)), .unset] [(.ref b74)]) _ _ _
          refine Ends.go (fun _ k => XS.dup X74.here hx rfl (hb hby at_346) rfl rfl k) ?_
          show Ends p e below s T74 (mkF m 347 #[.val (.int p0), .val (.int p1), .val (.int p2), .val (.int p3), .val (.int s4), .val (.int s5), .val (.int s6), .val (.int s7), .val (.int r1), .val (.int r2), .val (.int r3), .val (.int (63 : Int32)), .val (.ref b65), .val (.int (-1 : Int32)), .val (.int (-1 : Int32)), .val (.int (-1 : Int32)), .val (.int (0 : Int32)), .val (.int (5 : Int32)), .val (.int (6 : Int32)), .unset] [(.ref b74), (.ref b74)]) _ _ _
          obtain ⟨T75, h75, X75, e75, E75, A75, D75, -, st75⟩ := newO X74 hx hZ hown (hw _ (List.mem_of_getElem? (i := 9) rfl)) (hw _ (List.mem_of_getElem? (i := 10) rfl)) (hw _ (List.mem_of_getElem? (i := 11) rfl)) e74 (g := (mkF m 347 #[.val (.int p0), .val (.int p1), .val (.int p2), .val (.int p3), .val (.int s4), .val (.int s5), .val (.int s6), .val (.int s7), .val (.int r1), .val (.int r2), .val (.int r3), .val (.int (63 : Int32)), .val (.ref b65), .val (.int (-1 : Int32)), .val (.int (-1 : Int32)), .val (.int (-1 : Int32)), .val (.int (0 : Int32)), .val (.int (5 : Int32)), .val (.int (6 : Int32)), .unset] [(.ref b74), (.ref b74)])) rfl (hb hby at_347) (by decide) (by decide)
          obtain ⟨b75, g75⟩ : ∃ z, z = h74.size := ⟨_, rfl⟩
          rw [← g75] at A75 D75 st75
          refine Ends.go st75 ?_
          have ne_b65_b75 : b65 ≠ b75 := Nat.ne_of_lt (Nat.lt_of_lt_of_le (V73.ext E74).lt (Nat.le_of_eq g75.symm))
          have ne_b74_b75 : b74 ≠ b75 := Nat.ne_of_lt (Nat.lt_of_lt_of_le A74.lt (Nat.le_of_eq g75.symm))
          have g_b75 : n0 ≤ b75 := Nat.le_trans (own_old_le O74) (Nat.le_of_eq g75.symm)
          have sz_b75 : h0.size ≤ b75 := Nat.le_trans K74.1 (Nat.le_of_eq g75.symm)
          have K75 := K74.ext E75
          have O75 := O74.ext E75
          have F_coder_b75 : Fld Z h75 b75 "java/lang/String" "coder" "B" (.int (0 : Int32)) := D75 (Or.inr (hw _ (List.mem_of_getElem? (i := 35) rfl))) (ty := .byte) (by decide)
          have F_value_b75 : Fld Z h75 b75 "java/lang/String" "value" "[B" .null := D75 (Or.inr (hw _ (List.mem_of_getElem? (i := 37) rfl))) (ty := (.array .byte)) (by decide)
          show Ends p e below s T75 (mkF m 350 #[.val (.int p0), .val (.int p1), .val (.int p2), .val (.int p3), .val (.int s4), .val (.int s5), .val (.int s6), .val (.int s7), .val (.int r1), .val (.int r2), .val (.int r3), .val (.int (63 : Int32)), .val (.ref b65), .val (.int (-1 : Int32)), .val (.int (-1 : Int32)), .val (.int (-1 : Int32)), .val (.int (0 : Int32)), .val (.int (5 : Int32)), .val (.int (6 : Int32)), .unset] [(.ref b75), (.ref b74), (.ref b74)]) _ _ _
          refine Ends.go (fun _ k => XS.dup X75.here hx rfl (hb hby at_350) rfl rfl k) ?_
          show Ends p e below s T75 (mkF m 351 #[.val (.int p0), .val (.int p1), .val (.int p2), .val (.int p3), .val (.int s4), .val (.int s5), .val (.int s6), .val (.int s7), .val (.int r1), .val (.int r2), .val (.int r3), .val (.int (63 : Int32)), .val (.ref b65), .val (.int (-1 : Int32)), .val (.int (-1 : Int32)), .val (.int (-1 : Int32)), .val (.int (0 : Int32)), .val (.int (5 : Int32)), .val (.int (6 : Int32)), .unset] [(.ref b75), (.ref b75), (.ref b74), (.ref b74)]) _ _ _
          refine Ends.go (fun _ k => XS.aload X75.here hx rfl (hb hby at_351) rfl rfl k) ?_
          show Ends p e below s T75 (mkF m 353 #[.val (.int p0), .val (.int p1), .val (.int p2), .val (.int p3), .val (.int s4), .val (.int s5), .val (.int s6), .val (.int s7), .val (.int r1), .val (.int r2), .val (.int r3), .val (.int (63 : Int32)), .val (.ref b65), .val (.int (-1 : Int32)), .val (.int (-1 : Int32)), .val (.int (-1 : Int32)), .val (.int (0 : Int32)), .val (.int (5 : Int32)), .val (.int (6 : Int32)), .unset] [(.ref b65), (.ref b75), (.ref b75), (.ref b74), (.ref b74)]) _ _ _
          have hp76 : ∀ c ∈ ([(47 : Int32), (nar .char r1), (nar .char r2), (47 : Int32), (nar .char r3), (63 : Int32)] : List Int32), ¬ c < 0 ∧ ¬ (255 : Int32) < c := by
            intro c hc
            simp only [List.mem_cons, List.not_mem_nil, or_false] at hc
            rcases hc with rfl | rfl | rfl | rfl | rfl | rfl
            · exact (by decide)
            · exact own_nar hr1
            · exact own_nar hr2
            · exact (by decide)
            · exact own_nar hr3
            · exact (by decide)
          obtain ⟨_, _, ⟨T76, L76, k76, n76⟩, -, X76, ⟨Lc76, hQ76, l76, y76, z76⟩, st76⟩ := X75.specialBack hx (y := (⟨"java/lang/String", "<init>", "([C)V"⟩ : MethodName)) rfl hown (mvT hZ (hw _ (List.mem_of_getElem? (i := 12) rfl))) (mvT hZ (hw _ (List.mem_of_getElem? (i := 13) rfl))) (mvT hZ (hw _ (List.mem_of_getElem? (i := 14) rfl))) (by decide) (StrChars.Road.backV (W := 3) hZ hws (kI := 4) (hw _ (List.mem_of_getElem? (i := 10) rfl)) (cs := ([(47 : Int32), (nar .char r1), (nar .char r2), (47 : Int32), (nar .char r3), (63 : Int32)] : List Int32)) (bs := ([(47 : Int32), (nar .char r1), (nar .char r2), (47 : Int32), (nar .char r3), (63 : Int32)] : List Int32).map (fun c => c.toInt8.toInt32)) (n := 6) g_b75 (own_old_le O75) A75 F_value_b75 F_coder_b75 ((V73.ext E74).ext E75) (O2.ext O75.2) P5 rfl rfl (by decide) (by decide) hp76 rfl (by decide) (by decide)) (g := (mkF m 353 #[.val (.int p0), .val (.int p1), .val (.int p2), .val (.int p3), .val (.int s4), .val (.int s5), .val (.int s6), .val (.int s7), .val (.int r1), .val (.int r2), .val (.int r3), .val (.int (63 : Int32)), .val (.ref b65), .val (.int (-1 : Int32)), .val (.int (-1 : Int32)), .val (.int (-1 : Int32)), .val (.int (0 : Int32)), .val (.int (5 : Int32)), .val (.int (6 : Int32)), .unset] [(.ref b65), (.ref b75), (.ref b75), (.ref b74), (.ref b74)])) rfl (by rw [hml]; rfl) (Steps.refl _) (a := b75) (argsL := [(.ref b65)]) (rest := [(.ref b75), (.ref b74), (.ref b74)]) (lenOf pd0_1 rfl) rfl (by show 2 * 0 + _ ≤ _; exact Nat.le_of_eq rfl) (hb hby at_353) (fun _ _ => ⟨rfl, e75, (by decide : 3 + 1 ≤ _), (by decide : 17 + 6 ≤ _)⟩)
          dsimp only [Pt.U, Pt.locs, Pt.cells, Pt.slots] at X76 l76 y76 z76 st76 hQ76
          subst l76 y76 z76
          obtain ⟨rfl, N76q, K76c, Eq76, Cq76, t76, kb76, -, ht76, ht76', Vq76, Aq76⟩ := hQ76
          have N76 := Fr.app N73 N76q
          refine Ends.go (fun _ k => st76.trans k) ?_
          have ne_b65_t76 : b65 ≠ t76 := Nat.ne_of_lt (Nat.lt_of_lt_of_le ((V73.ext E74).ext E75).lt ht76)
          have ne_b74_t76 : b74 ≠ t76 := Nat.ne_of_lt (Nat.lt_of_lt_of_le (A74.ext E75).lt ht76)
          have ne_b75_t76 : b75 ≠ t76 := Nat.ne_of_lt (Nat.lt_of_lt_of_le A75.lt ht76)
          have g_t76 : n0 ≤ t76 := Nat.le_trans (own_old_le O75) ht76
          have sz_t76 : h0.size ≤ t76 := Nat.le_trans K75.1 ht76
          obtain ⟨h76, e76⟩ : ∃ z, T76.heap = z := ⟨_, rfl⟩
          rw [e76] at K76c Eq76 Cq76 Vq76 Aq76
          have K76 := K75.trans K76c (allS (Or.inr sz_b75) all0)
          have O76 := O75.keep K76c (allS g_b75 all0)
          show Ends p e below s T76 (mkF m 356 #[.val (.int p0), .val (.int p1), .val (.int p2), .val (.int p3), .val (.int s4), .val (.int s5), .val (.int s6), .val (.int s7), .val (.int r1), .val (.int r2), .val (.int r3), .val (.int (63 : Int32)), .val (.ref b65), .val (.int (-1 : Int32)), .val (.int (-1 : Int32)), .val (.int (-1 : Int32)), .val (.int (0 : Int32)), .val (.int (5 : Int32)), .val (.int (6 : Int32)), .unset] [(.ref b75), (.ref b74), (.ref b74)]) _ _ _
          refine Ends.go (fun _ k => XS.iload X76.here hx rfl (hb hby at_356) rfl k) ?_
          show Ends p e below s T76 (mkF m 358 #[.val (.int p0), .val (.int p1), .val (.int p2), .val (.int p3), .val (.int s4), .val (.int s5), .val (.int s6), .val (.int s7), .val (.int r1), .val (.int r2), .val (.int r3), .val (.int (63 : Int32)), .val (.ref b65), .val (.int (-1 : Int32)), .val (.int (-1 : Int32)), .val (.int (-1 : Int32)), .val (.int (0 : Int32)), .val (.int (5 : Int32)), .val (.int (6 : Int32)), .unset] [(.int (-1 : Int32)), (.ref b75), (.ref b74), (.ref b74)]) _ _ _
          refine Ends.go (fun _ k => XS.iload X76.here hx rfl (hb hby at_358) rfl k) ?_
          show Ends p e below s T76 (mkF m 360 #[.val (.int p0), .val (.int p1), .val (.int p2), .val (.int p3), .val (.int s4), .val (.int s5), .val (.int s6), .val (.int s7), .val (.int r1), .val (.int r2), .val (.int r3), .val (.int (63 : Int32)), .val (.ref b65), .val (.int (-1 : Int32)), .val (.int (-1 : Int32)), .val (.int (-1 : Int32)), .val (.int (0 : Int32)), .val (.int (5 : Int32)), .val (.int (6 : Int32)), .unset] [(.int (-1 : Int32)), (.int (-1 : Int32)), (.ref b75), (.ref b74), (.ref b74)]) _ _ _
          refine Ends.go (fun _ k => XS.iload X76.here hx rfl (hb hby at_360) rfl k) ?_
          show Ends p e below s T76 (mkF m 362 #[.val (.int p0), .val (.int p1), .val (.int p2), .val (.int p3), .val (.int s4), .val (.int s5), .val (.int s6), .val (.int s7), .val (.int r1), .val (.int r2), .val (.int r3), .val (.int (63 : Int32)), .val (.ref b65), .val (.int (-1 : Int32)), .val (.int (-1 : Int32)), .val (.int (-1 : Int32)), .val (.int (0 : Int32)), .val (.int (5 : Int32)), .val (.int (6 : Int32)), .unset] [(.int (-1 : Int32)), (.int (-1 : Int32)), (.int (-1 : Int32)), (.ref b75), (.ref b74), (.ref b74)]) _ _ _
          refine Ends.go (fun _ k => XS.iload X76.here hx rfl (hb hby at_362) rfl k) ?_
          show Ends p e below s T76 (mkF m 364 #[.val (.int p0), .val (.int p1), .val (.int p2), .val (.int p3), .val (.int s4), .val (.int s5), .val (.int s6), .val (.int s7), .val (.int r1), .val (.int r2), .val (.int r3), .val (.int (63 : Int32)), .val (.ref b65), .val (.int (-1 : Int32)), .val (.int (-1 : Int32)), .val (.int (-1 : Int32)), .val (.int (0 : Int32)), .val (.int (5 : Int32)), .val (.int (6 : Int32)), .unset] [(.int (0 : Int32)), (.int (-1 : Int32)), (.int (-1 : Int32)), (.int (-1 : Int32)), (.ref b75), (.ref b74), (.ref b74)]) _ _ _
          refine Ends.go (fun _ k => XS.iload X76.here hx rfl (hb hby at_364) rfl k) ?_
          show Ends p e below s T76 (mkF m 366 #[.val (.int p0), .val (.int p1), .val (.int p2), .val (.int p3), .val (.int s4), .val (.int s5), .val (.int s6), .val (.int s7), .val (.int r1), .val (.int r2), .val (.int r3), .val (.int (63 : Int32)), .val (.ref b65), .val (.int (-1 : Int32)), .val (.int (-1 : Int32)), .val (.int (-1 : Int32)), .val (.int (0 : Int32)), .val (.int (5 : Int32)), .val (.int (6 : Int32)), .unset] [(.int (5 : Int32)), (.int (0 : Int32)), (.int (-1 : Int32)), (.int (-1 : Int32)), (.int (-1 : Int32)), (.ref b75), (.ref b74), (.ref b74)]) _ _ _
          refine Ends.go (fun _ k => XS.iload X76.here hx rfl (hb hby at_366) rfl k) ?_
          show Ends p e below s T76 (mkF m 368 #[.val (.int p0), .val (.int p1), .val (.int p2), .val (.int p3), .val (.int s4), .val (.int s5), .val (.int s6), .val (.int s7), .val (.int r1), .val (.int r2), .val (.int r3), .val (.int (63 : Int32)), .val (.ref b65), .val (.int (-1 : Int32)), .val (.int (-1 : Int32)), .val (.int (-1 : Int32)), .val (.int (0 : Int32)), .val (.int (5 : Int32)), .val (.int (6 : Int32)), .unset] [(.int (6 : Int32)), (.int (5 : Int32)), (.int (0 : Int32)), (.int (-1 : Int32)), (.int (-1 : Int32)), (.int (-1 : Int32)), (.ref b75), (.ref b74), (.ref b74)]) _ _ _
          obtain ⟨_, _, ⟨T77, L77, k77, n77⟩, -, X77, ⟨Lc77, hQ77, l77, y77, z77⟩, st77⟩ := X76.specialBack hx (y := (⟨"com/example/authority/authority/UriReference", "<init>", "(Ljava/lang/String;IIIIII)V"⟩ : MethodName)) rfl hown (mvT hZ (hw _ (List.mem_of_getElem? (i := 38) rfl))) (mvT hZ (hw _ (List.mem_of_getElem? (i := 39) rfl))) (mvT hZ (hw _ (List.mem_of_getElem? (i := 40) rfl))) (by decide) (own_backOf (W := 1) (rmI l Z a0 hw [] n0 h76 O76 b74 b75 (-1 : Int32) (-1 : Int32) (-1 : Int32) (0 : Int32) (5 : Int32) (6 : Int32) g_b74 ((A74.ext E75).keep K76c) ((F_mText_b74.ext E75).keep K76c (ninS ne_b74_b75 nin0)) ((F_mSchemeEnd_b74.ext E75).keep K76c (ninS ne_b74_b75 nin0)) ((F_mHostStart_b74.ext E75).keep K76c (ninS ne_b74_b75 nin0)) ((F_mHostEnd_b74.ext E75).keep K76c (ninS ne_b74_b75 nin0)) ((F_mPathStart_b74.ext E75).keep K76c (ninS ne_b74_b75 nin0)) ((F_mPathEnd_b74.ext E75).keep K76c (ninS ne_b74_b75 nin0)) ((F_mQueryEnd_b74.ext E75).keep K76c (ninS ne_b74_b75 nin0))) hZ (hw _ (List.mem_of_getElem? (i := 40) rfl)) (hw _ (List.mem_of_getElem? (i := 8) rfl)) (by decide) (by decide)) (g := (mkF m 368 #[.val (.int p0), .val (.int p1), .val (.int p2), .val (.int p3), .val (.int s4), .val (.int s5), .val (.int s6), .val (.int s7), .val (.int r1), .val (.int r2), .val (.int r3), .val (.int (63 : Int32)), .val (.ref b65), .val (.int (-1 : Int32)), .val (.int (-1 : Int32)), .val (.int (-1 : Int32)), .val (.int (0 : Int32)), .val (.int (5 : Int32)), .val (.int (6 : Int32)), .unset] [(.int (6 : Int32)), (.int (5 : Int32)), (.int (0 : Int32)), (.int (-1 : Int32)), (.int (-1 : Int32)), (.int (-1 : Int32)), (.ref b75), (.ref b74), (.ref b74)])) rfl (by rw [hml]; rfl) (Steps.refl _) (a := b74) (argsL := [(.ref b75), (.int (-1 : Int32)), (.int (-1 : Int32)), (.int (-1 : Int32)), (.int (0 : Int32)), (.int (5 : Int32)), (.int (6 : Int32))]) (rest := [(.ref b74)]) (lenOf pd0_2 rfl) rfl (by show 2 * 0 + _ ≤ _; exact Nat.le_of_eq rfl) (hb hby at_368) (fun _ _ => ⟨rfl, e76, (by decide : 4 + 0 ≤ _), (by decide : 23 + 0 ≤ _)⟩)
          dsimp only [Pt.U, Pt.locs, Pt.cells, Pt.slots] at X77 l77 y77 z77 st77 hQ77
          subst l77 y77 z77
          obtain ⟨rfl, N77q, K77c, Eq77, Fq77_mText, Fq77_mSchemeEnd, Fq77_mHostStart, Fq77_mHostEnd, Fq77_mPathStart, Fq77_mPathEnd, Fq77_mQueryEnd⟩ := hQ77
          have N77 := Fr.app N76 N77q
          refine Ends.go (fun _ k => st77.trans k) ?_
          obtain ⟨h77, e77⟩ : ∃ z, T77.heap = z := ⟨_, rfl⟩
          rw [e77] at K77c Eq77 Fq77_mText Fq77_mSchemeEnd Fq77_mHostStart Fq77_mHostEnd Fq77_mPathStart Fq77_mPathEnd Fq77_mQueryEnd
          have K77 := K76.trans K77c (allS (Or.inr sz_b74) all0)
          have O77 := O76.keep K77c (allS g_b74 all0)
          show Ends p e below s T77 (mkF m 371 #[.val (.int p0), .val (.int p1), .val (.int p2), .val (.int p3), .val (.int s4), .val (.int s5), .val (.int s6), .val (.int s7), .val (.int r1), .val (.int r2), .val (.int r3), .val (.int (63 : Int32)), .val (.ref b65), .val (.int (-1 : Int32)), .val (.int (-1 : Int32)), .val (.int (-1 : Int32)), .val (.int (0 : Int32)), .val (.int (5 : Int32)), .val (.int (6 : Int32)), .unset] [(.ref b74)]) _ _ _
          refine Ends.go (fun _ k => XS.astore X77.here hx rfl (hb hby at_371) rfl rfl (l' := #[.val (.int p0), .val (.int p1), .val (.int p2), .val (.int p3), .val (.int s4), .val (.int s5), .val (.int s6), .val (.int s7), .val (.int r1), .val (.int r2), .val (.int r3), .val (.int (63 : Int32)), .val (.ref b65), .val (.int (-1 : Int32)), .val (.int (-1 : Int32)), .val (.int (-1 : Int32)), .val (.int (0 : Int32)), .val (.int (5 : Int32)), .val (.int (6 : Int32)), .val (.ref b74)]) rfl k) ?_
          show Ends p e below s T77 (mkF m 373 #[.val (.int p0), .val (.int p1), .val (.int p2), .val (.int p3), .val (.int s4), .val (.int s5), .val (.int s6), .val (.int s7), .val (.int r1), .val (.int r2), .val (.int r3), .val (.int (63 : Int32)), .val (.ref b65), .val (.int (-1 : Int32)), .val (.int (-1 : Int32)), .val (.int (-1 : Int32)), .val (.int (0 : Int32)), .val (.int (5 : Int32)), .val (.int (6 : Int32)), .val (.ref b74)] []) _ _ _
          refine Ends.go (fun _ k => XS.aload X77.here hx rfl (hb hby at_373) rfl rfl k) ?_
          show Ends p e below s T77 (mkF m 375 #[.val (.int p0), .val (.int p1), .val (.int p2), .val (.int p3), .val (.int s4), .val (.int s5), .val (.int s6), .val (.int s7), .val (.int r1), .val (.int r2), .val (.int r3), .val (.int (63 : Int32)), .val (.ref b65), .val (.int (-1 : Int32)), .val (.int (-1 : Int32)), .val (.int (-1 : Int32)), .val (.int (0 : Int32)), .val (.int (5 : Int32)), .val (.int (6 : Int32)), .val (.ref b74)] [(.ref b74)]) _ _ _
          obtain ⟨cq78, kq78, q78a, q78b, q78c⟩ := isOf hZ e77 Eq77
          obtain ⟨_, _, ⟨T78, L78, k78, n78⟩, -, X78, ⟨Lc78, hQ78, l78, y78, z78⟩, st78⟩ := X77.virtualBack hx (y := (⟨"com/example/authority/authority/UriReference", "isUri", "()Z"⟩ : MethodName)) (z := (⟨"com/example/authority/authority/UriReference", "isUri", "()Z"⟩ : MethodName)) hown (mvT hZ (hw _ (List.mem_of_getElem? (i := 56) rfl))) (mvT hZ (hw _ (List.mem_of_getElem? (i := 57) rfl))) (notFace_of_selects (args := #[]) (mvT hZ (hw _ (List.mem_of_getElem? (i := 59) rfl)))) (mvT hZ (hw _ (List.mem_of_getElem? (i := 59) rfl))) (mvT hZ (hw _ (List.mem_of_getElem? (i := 58) rfl))) (by decide) (own_backOf (W := 0) (rmQ l Z a0 hw [] n0 h77 O77 b74 (-1 : Int32) Fq77_mSchemeEnd (0 : Int32) (by decide)) hZ (hw _ (List.mem_of_getElem? (i := 60) rfl)) (hw _ (List.mem_of_getElem? (i := 8) rfl)) (by decide) (by decide)) q78a q78c (g := (mkF m 375 #[.val (.int p0), .val (.int p1), .val (.int p2), .val (.int p3), .val (.int s4), .val (.int s5), .val (.int s6), .val (.int s7), .val (.int r1), .val (.int r2), .val (.int r3), .val (.int (63 : Int32)), .val (.ref b65), .val (.int (-1 : Int32)), .val (.int (-1 : Int32)), .val (.int (-1 : Int32)), .val (.int (0 : Int32)), .val (.int (5 : Int32)), .val (.int (6 : Int32)), .val (.ref b74)] [(.ref b74)])) rfl (by rw [hml]; rfl) (Steps.refl _) (argsL := []) (rest := []) (lenOf pd0_3 rfl) rfl (by show 2 * 0 + _ ≤ _; exact Nat.le_of_eq rfl) (hb hby at_375) (fun _ _ => ⟨rfl, e77, (by decide : 4 + 0 ≤ _), (by decide : 23 + 0 ≤ _)⟩)
          dsimp only [Pt.U, Pt.locs, Pt.cells, Pt.slots] at X78 l78 y78 z78 st78 hQ78
          subst l78 y78 z78
          obtain ⟨rfl, N78q, e78q⟩ := hQ78
          have N78 := Fr.app N77 N78q
          refine Ends.go (fun _ k => st78.trans k) ?_
          show Ends p e below s T78 (mkF m 378 #[.val (.int p0), .val (.int p1), .val (.int p2), .val (.int p3), .val (.int s4), .val (.int s5), .val (.int s6), .val (.int s7), .val (.int r1), .val (.int r2), .val (.int r3), .val (.int (63 : Int32)), .val (.ref b65), .val (.int (-1 : Int32)), .val (.int (-1 : Int32)), .val (.int (-1 : Int32)), .val (.int (0 : Int32)), .val (.int (5 : Int32)), .val (.int (6 : Int32)), .val (.ref b74)] [(.int (0 : Int32))]) _ _ _
          refine Ends.go (fun _ k => XS.iload X78.here hx rfl (hb hby at_378) rfl k) ?_
          show Ends p e below s T78 (mkF m 380 #[.val (.int p0), .val (.int p1), .val (.int p2), .val (.int p3), .val (.int s4), .val (.int s5), .val (.int s6), .val (.int s7), .val (.int r1), .val (.int r2), .val (.int r3), .val (.int (63 : Int32)), .val (.ref b65), .val (.int (-1 : Int32)), .val (.int (-1 : Int32)), .val (.int (-1 : Int32)), .val (.int (0 : Int32)), .val (.int (5 : Int32)), .val (.int (6 : Int32)), .val (.ref b74)] [(.int s4), (.int (0 : Int32))]) _ _ _
          refine Ends.go (fun _ k => XS.icmpNo X78.here hx rfl (hb hby at_380) rfl (teq ((by rw [hc108_66]) : (0 : Int32) = s4)).2 k) ?_
          show Ends p e below s T78 (mkF m 383 #[.val (.int p0), .val (.int p1), .val (.int p2), .val (.int p3), .val (.int s4), .val (.int s5), .val (.int s6), .val (.int s7), .val (.int r1), .val (.int r2), .val (.int r3), .val (.int (63 : Int32)), .val (.ref b65), .val (.int (-1 : Int32)), .val (.int (-1 : Int32)), .val (.int (-1 : Int32)), .val (.int (0 : Int32)), .val (.int (5 : Int32)), .val (.int (6 : Int32)), .val (.ref b74)] []) _ _ _
          refine Ends.go (fun _ k => XS.iconst X78.here hx rfl (hb hby at_383) k) ?_
          show Ends p e below s T78 (mkF m 384 #[.val (.int p0), .val (.int p1), .val (.int p2), .val (.int p3), .val (.int s4), .val (.int s5), .val (.int s6), .val (.int s7), .val (.int r1), .val (.int r2), .val (.int r3), .val (.int (63 : Int32)), .val (.ref b65), .val (.int (-1 : Int32)), .val (.int (-1 : Int32)), .val (.int (-1 : Int32)), .val (.int (0 : Int32)), .val (.int (5 : Int32)), .val (.int (6 : Int32)), .val (.ref b74)] [(.int (1 : Int32))]) _ _ _
          refine Ends.go (fun _ k => XS.goto X78.here hx rfl (pc0 := 384) (pc' := 388) rfl (hb hby at_384) (by decide) (by decide) k) ?_
          show Ends p e below s T78 (mkF m 388 #[.val (.int p0), .val (.int p1), .val (.int p2), .val (.int p3), .val (.int s4), .val (.int s5), .val (.int s6), .val (.int s7), .val (.int r1), .val (.int r2), .val (.int r3), .val (.int (63 : Int32)), .val (.ref b65), .val (.int (-1 : Int32)), .val (.int (-1 : Int32)), .val (.int (-1 : Int32)), .val (.int (0 : Int32)), .val (.int (5 : Int32)), .val (.int (6 : Int32)), .val (.ref b74)] [(.int (1 : Int32))]) _ _ _
          refine Ends.retZ X78 hx Bd.notSynchronized (t := .boolean) Bd.returns (by simp) (hb hby at_388) (by decide) (by decide) ?_
          exact ⟨rfl, N78⟩
        · refine Ends.go (fun _ k => XS.ifNo X65.here hx rfl (hb hby at_246) rfl ((if0 _ _).trans (feq hc246_67).1) k) ?_
          show Ends p e below s T65 (mkF m 249 #[.val (.int p0), .val (.int p1), .val (.int p2), .val (.int p3), .val (.int s4), .val (.int s5), .val (.int s6), .val (.int s7), .val (.int r1), .val (.int r2), .val (.int r3), .val (.int (63 : Int32)), .val (.ref b65), .val (.int (-1 : Int32)), .val (.int (-1 : Int32)), .val (.int (-1 : Int32)), .val (.int (0 : Int32)), .val (.int (5 : Int32)), .unset, .unset] []) _ _ _
          refine Ends.go (fun _ k => XS.aload X65.here hx rfl (hb hby at_249) rfl rfl k) ?_
          show Ends p e below s T65 (mkF m 251 #[.val (.int p0), .val (.int p1), .val (.int p2), .val (.int p3), .val (.int s4), .val (.int s5), .val (.int s6), .val (.int s7), .val (.int r1), .val (.int r2), .val (.int r3), .val (.int (63 : Int32)), .val (.ref b65), .val (.int (-1 : Int32)), .val (.int (-1 : Int32)), .val (.int (-1 : Int32)), .val (.int (0 : Int32)), .val (.int (5 : Int32)), .unset, .unset] [(.ref b65)]) _ _ _
          refine Ends.go (fun _ k => XS.iconst X65.here hx rfl (hb hby at_251) k) ?_
          show Ends p e below s T65 (mkF m 252 #[.val (.int p0), .val (.int p1), .val (.int p2), .val (.int p3), .val (.int s4), .val (.int s5), .val (.int s6), .val (.int s7), .val (.int r1), .val (.int r2), .val (.int r3), .val (.int (63 : Int32)), .val (.ref b65), .val (.int (-1 : Int32)), .val (.int (-1 : Int32)), .val (.int (-1 : Int32)), .val (.int (0 : Int32)), .val (.int (5 : Int32)), .unset, .unset] [(.int (0 : Int32)), (.ref b65)]) _ _ _
          refine Ends.go (fun _ k => XS.bipush X65.here hx rfl (hb hby at_252) k) ?_
          show Ends p e below s T65 (mkF m 254 #[.val (.int p0), .val (.int p1), .val (.int p2), .val (.int p3), .val (.int s4), .val (.int s5), .val (.int s6), .val (.int s7), .val (.int r1), .val (.int r2), .val (.int r3), .val (.int (63 : Int32)), .val (.ref b65), .val (.int (-1 : Int32)), .val (.int (-1 : Int32)), .val (.int (-1 : Int32)), .val (.int (0 : Int32)), .val (.int (5 : Int32)), .unset, .unset] [(.int (47 : Int32)), (.int (0 : Int32)), (.ref b65)]) _ _ _
          obtain ⟨cl79, Ar79, q79, S79, M79, H79, G79⟩ := id V_b65
          have hin79 := inb_of (j := (0 : Int32)) S79 ⟨by decide, by decide⟩
          obtain ⟨T79, h79, X79, e79, W79, st79⟩ := stC X65 hx hZ e65 Ar79 (j := (0 : Int32)) hin79 (g := (mkF m 254 #[.val (.int p0), .val (.int p1), .val (.int p2), .val (.int p3), .val (.int s4), .val (.int s5), .val (.int s6), .val (.int s7), .val (.int r1), .val (.int r2), .val (.int r3), .val (.int (63 : Int32)), .val (.ref b65), .val (.int (-1 : Int32)), .val (.int (-1 : Int32)), .val (.int (-1 : Int32)), .val (.int (0 : Int32)), .val (.int (5 : Int32)), .unset, .unset] [(.int (47 : Int32)), (.int (0 : Int32)), (.ref b65)])) rfl rfl (hb hby at_254)
          refine Ends.go st79 ?_
          have V79 : Arv Z h79 b65 k65 .char (6 : Int32) [(.int (47 : Int32)), (.int (0 : Int32)), (.int (0 : Int32)), (.int (0 : Int32)), (.int (0 : Int32)), (.int (0 : Int32))] (.int (0 : Int32)) := Arv.set Ar79 q79 S79 M79 H79 G79 rfl W79 0 rfl (Nat.le_of_ble_eq_true rfl)
          have K79 := K65.wr W79 (Or.inr sz_b65)
          have O79 := O65.wr W79 g_b65
          have N79 := Fr.snoc X79 N3 g_b65
          show Ends p e below s T79 (mkF m 255 #[.val (.int p0), .val (.int p1), .val (.int p2), .val (.int p3), .val (.int s4), .val (.int s5), .val (.int s6), .val (.int s7), .val (.int r1), .val (.int r2), .val (.int r3), .val (.int (63 : Int32)), .val (.ref b65), .val (.int (-1 : Int32)), .val (.int (-1 : Int32)), .val (.int (-1 : Int32)), .val (.int (0 : Int32)), .val (.int (5 : Int32)), .unset, .unset] []) _ _ _
          refine Ends.go (fun _ k => XS.aload X79.here hx rfl (hb hby at_255) rfl rfl k) ?_
          show Ends p e below s T79 (mkF m 257 #[.val (.int p0), .val (.int p1), .val (.int p2), .val (.int p3), .val (.int s4), .val (.int s5), .val (.int s6), .val (.int s7), .val (.int r1), .val (.int r2), .val (.int r3), .val (.int (63 : Int32)), .val (.ref b65), .val (.int (-1 : Int32)), .val (.int (-1 : Int32)), .val (.int (-1 : Int32)), .val (.int (0 : Int32)), .val (.int (5 : Int32)), .unset, .unset] [(.ref b65)]) _ _ _
          refine Ends.go (fun _ k => XS.iconst X79.here hx rfl (hb hby at_257) k) ?_
          show Ends p e below s T79 (mkF m 258 #[.val (.int p0), .val (.int p1), .val (.int p2), .val (.int p3), .val (.int s4), .val (.int s5), .val (.int s6), .val (.int s7), .val (.int r1), .val (.int r2), .val (.int r3), .val (.int (63 : Int32)), .val (.ref b65), .val (.int (-1 : Int32)), .val (.int (-1 : Int32)), .val (.int (-1 : Int32)), .val (.int (0 : Int32)), .val (.int (5 : Int32)), .unset, .unset] [(.int (1 : Int32)), (.ref b65)]) _ _ _
          refine Ends.go (fun _ k => XS.bipush X79.here hx rfl (hb hby at_258) k) ?_
          show Ends p e below s T79 (mkF m 260 #[.val (.int p0), .val (.int p1), .val (.int p2), .val (.int p3), .val (.int s4), .val (.int s5), .val (.int s6), .val (.int s7), .val (.int r1), .val (.int r2), .val (.int r3), .val (.int (63 : Int32)), .val (.ref b65), .val (.int (-1 : Int32)), .val (.int (-1 : Int32)), .val (.int (-1 : Int32)), .val (.int (0 : Int32)), .val (.int (5 : Int32)), .unset, .unset] [(.int (47 : Int32)), (.int (1 : Int32)), (.ref b65)]) _ _ _
          obtain ⟨cl80, Ar80, q80, S80, M80, H80, G80⟩ := id V79
          have hin80 := inb_of (j := (1 : Int32)) S80 ⟨by decide, by decide⟩
          obtain ⟨T80, h80, X80, e80, W80, st80⟩ := stC X79 hx hZ e79 Ar80 (j := (1 : Int32)) hin80 (g := (mkF m 260 #[.val (.int p0), .val (.int p1), .val (.int p2), .val (.int p3), .val (.int s4), .val (.int s5), .val (.int s6), .val (.int s7), .val (.int r1), .val (.int r2), .val (.int r3), .val (.int (63 : Int32)), .val (.ref b65), .val (.int (-1 : Int32)), .val (.int (-1 : Int32)), .val (.int (-1 : Int32)), .val (.int (0 : Int32)), .val (.int (5 : Int32)), .unset, .unset] [(.int (47 : Int32)), (.int (1 : Int32)), (.ref b65)])) rfl rfl (hb hby at_260)
          refine Ends.go st80 ?_
          have V80 : Arv Z h80 b65 k65 .char (6 : Int32) [(.int (47 : Int32)), (.int (47 : Int32)), (.int (0 : Int32)), (.int (0 : Int32)), (.int (0 : Int32)), (.int (0 : Int32))] (.int (0 : Int32)) := Arv.set Ar80 q80 S80 M80 H80 G80 rfl W80 1 rfl (Nat.le_of_ble_eq_true rfl)
          have K80 := K79.wr W80 (Or.inr sz_b65)
          have O80 := O79.wr W80 g_b65
          have N80 := Fr.snoc X80 N79 g_b65
          show Ends p e below s T80 (mkF m 261 #[.val (.int p0), .val (.int p1), .val (.int p2), .val (.int p3), .val (.int s4), .val (.int s5), .val (.int s6), .val (.int s7), .val (.int r1), .val (.int r2), .val (.int r3), .val (.int (63 : Int32)), .val (.ref b65), .val (.int (-1 : Int32)), .val (.int (-1 : Int32)), .val (.int (-1 : Int32)), .val (.int (0 : Int32)), .val (.int (5 : Int32)), .unset, .unset] []) _ _ _
          refine Ends.go (fun _ k => XS.aload X80.here hx rfl (hb hby at_261) rfl rfl k) ?_
          show Ends p e below s T80 (mkF m 263 #[.val (.int p0), .val (.int p1), .val (.int p2), .val (.int p3), .val (.int s4), .val (.int s5), .val (.int s6), .val (.int s7), .val (.int r1), .val (.int r2), .val (.int r3), .val (.int (63 : Int32)), .val (.ref b65), .val (.int (-1 : Int32)), .val (.int (-1 : Int32)), .val (.int (-1 : Int32)), .val (.int (0 : Int32)), .val (.int (5 : Int32)), .unset, .unset] [(.ref b65)]) _ _ _
          refine Ends.go (fun _ k => XS.iconst X80.here hx rfl (hb hby at_263) k) ?_
          show Ends p e below s T80 (mkF m 264 #[.val (.int p0), .val (.int p1), .val (.int p2), .val (.int p3), .val (.int s4), .val (.int s5), .val (.int s6), .val (.int s7), .val (.int r1), .val (.int r2), .val (.int r3), .val (.int (63 : Int32)), .val (.ref b65), .val (.int (-1 : Int32)), .val (.int (-1 : Int32)), .val (.int (-1 : Int32)), .val (.int (0 : Int32)), .val (.int (5 : Int32)), .unset, .unset] [(.int (2 : Int32)), (.ref b65)]) _ _ _
          refine Ends.go (fun _ k => XS.iload X80.here hx rfl (hb hby at_264) rfl k) ?_
          show Ends p e below s T80 (mkF m 266 #[.val (.int p0), .val (.int p1), .val (.int p2), .val (.int p3), .val (.int s4), .val (.int s5), .val (.int s6), .val (.int s7), .val (.int r1), .val (.int r2), .val (.int r3), .val (.int (63 : Int32)), .val (.ref b65), .val (.int (-1 : Int32)), .val (.int (-1 : Int32)), .val (.int (-1 : Int32)), .val (.int (0 : Int32)), .val (.int (5 : Int32)), .unset, .unset] [(.int r1), (.int (2 : Int32)), (.ref b65)]) _ _ _
          obtain ⟨cl81, Ar81, q81, S81, M81, H81, G81⟩ := id V80
          have hin81 := inb_of (j := (2 : Int32)) S81 ⟨by decide, by decide⟩
          obtain ⟨T81, h81, X81, e81, W81, st81⟩ := stC X80 hx hZ e80 Ar81 (j := (2 : Int32)) hin81 (g := (mkF m 266 #[.val (.int p0), .val (.int p1), .val (.int p2), .val (.int p3), .val (.int s4), .val (.int s5), .val (.int s6), .val (.int s7), .val (.int r1), .val (.int r2), .val (.int r3), .val (.int (63 : Int32)), .val (.ref b65), .val (.int (-1 : Int32)), .val (.int (-1 : Int32)), .val (.int (-1 : Int32)), .val (.int (0 : Int32)), .val (.int (5 : Int32)), .unset, .unset] [(.int r1), (.int (2 : Int32)), (.ref b65)])) rfl rfl (hb hby at_266)
          refine Ends.go st81 ?_
          have V81 : Arv Z h81 b65 k65 .char (6 : Int32) [(.int (47 : Int32)), (.int (47 : Int32)), (.int (nar .char r1)), (.int (0 : Int32)), (.int (0 : Int32)), (.int (0 : Int32))] (.int (0 : Int32)) := Arv.set Ar81 q81 S81 M81 H81 G81 (fits_nar_char _) W81 2 rfl (Nat.le_of_ble_eq_true rfl)
          have K81 := K80.wr W81 (Or.inr sz_b65)
          have O81 := O80.wr W81 g_b65
          have N81 := Fr.snoc X81 N80 g_b65
          show Ends p e below s T81 (mkF m 267 #[.val (.int p0), .val (.int p1), .val (.int p2), .val (.int p3), .val (.int s4), .val (.int s5), .val (.int s6), .val (.int s7), .val (.int r1), .val (.int r2), .val (.int r3), .val (.int (63 : Int32)), .val (.ref b65), .val (.int (-1 : Int32)), .val (.int (-1 : Int32)), .val (.int (-1 : Int32)), .val (.int (0 : Int32)), .val (.int (5 : Int32)), .unset, .unset] []) _ _ _
          refine Ends.go (fun _ k => XS.aload X81.here hx rfl (hb hby at_267) rfl rfl k) ?_
          show Ends p e below s T81 (mkF m 269 #[.val (.int p0), .val (.int p1), .val (.int p2), .val (.int p3), .val (.int s4), .val (.int s5), .val (.int s6), .val (.int s7), .val (.int r1), .val (.int r2), .val (.int r3), .val (.int (63 : Int32)), .val (.ref b65), .val (.int (-1 : Int32)), .val (.int (-1 : Int32)), .val (.int (-1 : Int32)), .val (.int (0 : Int32)), .val (.int (5 : Int32)), .unset, .unset] [(.ref b65)]) _ _ _
          refine Ends.go (fun _ k => XS.iconst X81.here hx rfl (hb hby at_269) k) ?_
          show Ends p e below s T81 (mkF m 270 #[.val (.int p0), .val (.int p1), .val (.int p2), .val (.int p3), .val (.int s4), .val (.int s5), .val (.int s6), .val (.int s7), .val (.int r1), .val (.int r2), .val (.int r3), .val (.int (63 : Int32)), .val (.ref b65), .val (.int (-1 : Int32)), .val (.int (-1 : Int32)), .val (.int (-1 : Int32)), .val (.int (0 : Int32)), .val (.int (5 : Int32)), .unset, .unset] [(.int (3 : Int32)), (.ref b65)]) _ _ _
          refine Ends.go (fun _ k => XS.bipush X81.here hx rfl (hb hby at_270) k) ?_
          show Ends p e below s T81 (mkF m 272 #[.val (.int p0), .val (.int p1), .val (.int p2), .val (.int p3), .val (.int s4), .val (.int s5), .val (.int s6), .val (.int s7), .val (.int r1), .val (.int r2), .val (.int r3), .val (.int (63 : Int32)), .val (.ref b65), .val (.int (-1 : Int32)), .val (.int (-1 : Int32)), .val (.int (-1 : Int32)), .val (.int (0 : Int32)), .val (.int (5 : Int32)), .unset, .unset] [(.int (47 : Int32)), (.int (3 : Int32)), (.ref b65)]) _ _ _
          obtain ⟨cl82, Ar82, q82, S82, M82, H82, G82⟩ := id V81
          have hin82 := inb_of (j := (3 : Int32)) S82 ⟨by decide, by decide⟩
          obtain ⟨T82, h82, X82, e82, W82, st82⟩ := stC X81 hx hZ e81 Ar82 (j := (3 : Int32)) hin82 (g := (mkF m 272 #[.val (.int p0), .val (.int p1), .val (.int p2), .val (.int p3), .val (.int s4), .val (.int s5), .val (.int s6), .val (.int s7), .val (.int r1), .val (.int r2), .val (.int r3), .val (.int (63 : Int32)), .val (.ref b65), .val (.int (-1 : Int32)), .val (.int (-1 : Int32)), .val (.int (-1 : Int32)), .val (.int (0 : Int32)), .val (.int (5 : Int32)), .unset, .unset] [(.int (47 : Int32)), (.int (3 : Int32)), (.ref b65)])) rfl rfl (hb hby at_272)
          refine Ends.go st82 ?_
          have V82 : Arv Z h82 b65 k65 .char (6 : Int32) [(.int (47 : Int32)), (.int (47 : Int32)), (.int (nar .char r1)), (.int (47 : Int32)), (.int (0 : Int32)), (.int (0 : Int32))] (.int (0 : Int32)) := Arv.set Ar82 q82 S82 M82 H82 G82 rfl W82 3 rfl (Nat.le_of_ble_eq_true rfl)
          have K82 := K81.wr W82 (Or.inr sz_b65)
          have O82 := O81.wr W82 g_b65
          have N82 := Fr.snoc X82 N81 g_b65
          show Ends p e below s T82 (mkF m 273 #[.val (.int p0), .val (.int p1), .val (.int p2), .val (.int p3), .val (.int s4), .val (.int s5), .val (.int s6), .val (.int s7), .val (.int r1), .val (.int r2), .val (.int r3), .val (.int (63 : Int32)), .val (.ref b65), .val (.int (-1 : Int32)), .val (.int (-1 : Int32)), .val (.int (-1 : Int32)), .val (.int (0 : Int32)), .val (.int (5 : Int32)), .unset, .unset] []) _ _ _
          refine Ends.go (fun _ k => XS.aload X82.here hx rfl (hb hby at_273) rfl rfl k) ?_
          show Ends p e below s T82 (mkF m 275 #[.val (.int p0), .val (.int p1), .val (.int p2), .val (.int p3), .val (.int s4), .val (.int s5), .val (.int s6), .val (.int s7), .val (.int r1), .val (.int r2), .val (.int r3), .val (.int (63 : Int32)), .val (.ref b65), .val (.int (-1 : Int32)), .val (.int (-1 : Int32)), .val (.int (-1 : Int32)), .val (.int (0 : Int32)), .val (.int (5 : Int32)), .unset, .unset] [(.ref b65)]) _ _ _
          refine Ends.go (fun _ k => XS.iconst X82.here hx rfl (hb hby at_275) k) ?_
          show Ends p e below s T82 (mkF m 276 #[.val (.int p0), .val (.int p1), .val (.int p2), .val (.int p3), .val (.int s4), .val (.int s5), .val (.int s6), .val (.int s7), .val (.int r1), .val (.int r2), .val (.int r3), .val (.int (63 : Int32)), .val (.ref b65), .val (.int (-1 : Int32)), .val (.int (-1 : Int32)), .val (.int (-1 : Int32)), .val (.int (0 : Int32)), .val (.int (5 : Int32)), .unset, .unset] [(.int (4 : Int32)), (.ref b65)]) _ _ _
          refine Ends.go (fun _ k => XS.iload X82.here hx rfl (hb hby at_276) rfl k) ?_
          show Ends p e below s T82 (mkF m 278 #[.val (.int p0), .val (.int p1), .val (.int p2), .val (.int p3), .val (.int s4), .val (.int s5), .val (.int s6), .val (.int s7), .val (.int r1), .val (.int r2), .val (.int r3), .val (.int (63 : Int32)), .val (.ref b65), .val (.int (-1 : Int32)), .val (.int (-1 : Int32)), .val (.int (-1 : Int32)), .val (.int (0 : Int32)), .val (.int (5 : Int32)), .unset, .unset] [(.int r2), (.int (4 : Int32)), (.ref b65)]) _ _ _
          obtain ⟨cl83, Ar83, q83, S83, M83, H83, G83⟩ := id V82
          have hin83 := inb_of (j := (4 : Int32)) S83 ⟨by decide, by decide⟩
          obtain ⟨T83, h83, X83, e83, W83, st83⟩ := stC X82 hx hZ e82 Ar83 (j := (4 : Int32)) hin83 (g := (mkF m 278 #[.val (.int p0), .val (.int p1), .val (.int p2), .val (.int p3), .val (.int s4), .val (.int s5), .val (.int s6), .val (.int s7), .val (.int r1), .val (.int r2), .val (.int r3), .val (.int (63 : Int32)), .val (.ref b65), .val (.int (-1 : Int32)), .val (.int (-1 : Int32)), .val (.int (-1 : Int32)), .val (.int (0 : Int32)), .val (.int (5 : Int32)), .unset, .unset] [(.int r2), (.int (4 : Int32)), (.ref b65)])) rfl rfl (hb hby at_278)
          refine Ends.go st83 ?_
          have V83 : Arv Z h83 b65 k65 .char (6 : Int32) [(.int (47 : Int32)), (.int (47 : Int32)), (.int (nar .char r1)), (.int (47 : Int32)), (.int (nar .char r2)), (.int (0 : Int32))] (.int (0 : Int32)) := Arv.set Ar83 q83 S83 M83 H83 G83 (fits_nar_char _) W83 4 rfl (Nat.le_of_ble_eq_true rfl)
          have K83 := K82.wr W83 (Or.inr sz_b65)
          have O83 := O82.wr W83 g_b65
          have N83 := Fr.snoc X83 N82 g_b65
          show Ends p e below s T83 (mkF m 279 #[.val (.int p0), .val (.int p1), .val (.int p2), .val (.int p3), .val (.int s4), .val (.int s5), .val (.int s6), .val (.int s7), .val (.int r1), .val (.int r2), .val (.int r3), .val (.int (63 : Int32)), .val (.ref b65), .val (.int (-1 : Int32)), .val (.int (-1 : Int32)), .val (.int (-1 : Int32)), .val (.int (0 : Int32)), .val (.int (5 : Int32)), .unset, .unset] []) _ _ _
          refine Ends.go (fun _ k => XS.iconst X83.here hx rfl (hb hby at_279) k) ?_
          show Ends p e below s T83 (mkF m 280 #[.val (.int p0), .val (.int p1), .val (.int p2), .val (.int p3), .val (.int s4), .val (.int s5), .val (.int s6), .val (.int s7), .val (.int r1), .val (.int r2), .val (.int r3), .val (.int (63 : Int32)), .val (.ref b65), .val (.int (-1 : Int32)), .val (.int (-1 : Int32)), .val (.int (-1 : Int32)), .val (.int (0 : Int32)), .val (.int (5 : Int32)), .unset, .unset] [(.int (2 : Int32))]) _ _ _
          refine Ends.go (fun _ k => XS.istore X83.here hx rfl (hb hby at_280) rfl (l' := #[.val (.int p0), .val (.int p1), .val (.int p2), .val (.int p3), .val (.int s4), .val (.int s5), .val (.int s6), .val (.int s7), .val (.int r1), .val (.int r2), .val (.int r3), .val (.int (63 : Int32)), .val (.ref b65), .val (.int (-1 : Int32)), .val (.int (2 : Int32)), .val (.int (-1 : Int32)), .val (.int (0 : Int32)), .val (.int (5 : Int32)), .unset, .unset]) rfl k) ?_
          show Ends p e below s T83 (mkF m 282 #[.val (.int p0), .val (.int p1), .val (.int p2), .val (.int p3), .val (.int s4), .val (.int s5), .val (.int s6), .val (.int s7), .val (.int r1), .val (.int r2), .val (.int r3), .val (.int (63 : Int32)), .val (.ref b65), .val (.int (-1 : Int32)), .val (.int (2 : Int32)), .val (.int (-1 : Int32)), .val (.int (0 : Int32)), .val (.int (5 : Int32)), .unset, .unset] []) _ _ _
          refine Ends.go (fun _ k => XS.iconst X83.here hx rfl (hb hby at_282) k) ?_
          show Ends p e below s T83 (mkF m 283 #[.val (.int p0), .val (.int p1), .val (.int p2), .val (.int p3), .val (.int s4), .val (.int s5), .val (.int s6), .val (.int s7), .val (.int r1), .val (.int r2), .val (.int r3), .val (.int (63 : Int32)), .val (.ref b65), .val (.int (-1 : Int32)), .val (.int (2 : Int32)), .val (.int (-1 : Int32)), .val (.int (0 : Int32)), .val (.int (5 : Int32)), .unset, .unset] [(.int (3 : Int32))]) _ _ _
          refine Ends.go (fun _ k => XS.istore X83.here hx rfl (hb hby at_283) rfl (l' := #[.val (.int p0), .val (.int p1), .val (.int p2), .val (.int p3), .val (.int s4), .val (.int s5), .val (.int s6), .val (.int s7), .val (.int r1), .val (.int r2), .val (.int r3), .val (.int (63 : Int32)), .val (.ref b65), .val (.int (-1 : Int32)), .val (.int (2 : Int32)), .val (.int (3 : Int32)), .val (.int (0 : Int32)), .val (.int (5 : Int32)), .unset, .unset]) rfl k) ?_
          show Ends p e below s T83 (mkF m 285 #[.val (.int p0), .val (.int p1), .val (.int p2), .val (.int p3), .val (.int s4), .val (.int s5), .val (.int s6), .val (.int s7), .val (.int r1), .val (.int r2), .val (.int r3), .val (.int (63 : Int32)), .val (.ref b65), .val (.int (-1 : Int32)), .val (.int (2 : Int32)), .val (.int (3 : Int32)), .val (.int (0 : Int32)), .val (.int (5 : Int32)), .unset, .unset] []) _ _ _
          refine Ends.go (fun _ k => XS.iconst X83.here hx rfl (hb hby at_285) k) ?_
          show Ends p e below s T83 (mkF m 286 #[.val (.int p0), .val (.int p1), .val (.int p2), .val (.int p3), .val (.int s4), .val (.int s5), .val (.int s6), .val (.int s7), .val (.int r1), .val (.int r2), .val (.int r3), .val (.int (63 : Int32)), .val (.ref b65), .val (.int (-1 : Int32)), .val (.int (2 : Int32)), .val (.int (3 : Int32)), .val (.int (0 : Int32)), .val (.int (5 : Int32)), .unset, .unset] [(.int (3 : Int32))]) _ _ _
          refine Ends.go (fun _ k => XS.istore X83.here hx rfl (hb hby at_286) rfl (l' := #[.val (.int p0), .val (.int p1), .val (.int p2), .val (.int p3), .val (.int s4), .val (.int s5), .val (.int s6), .val (.int s7), .val (.int r1), .val (.int r2), .val (.int r3), .val (.int (63 : Int32)), .val (.ref b65), .val (.int (-1 : Int32)), .val (.int (2 : Int32)), .val (.int (3 : Int32)), .val (.int (3 : Int32)), .val (.int (5 : Int32)), .unset, .unset]) rfl k) ?_
          show Ends p e below s T83 (mkF m 288 #[.val (.int p0), .val (.int p1), .val (.int p2), .val (.int p3), .val (.int s4), .val (.int s5), .val (.int s6), .val (.int s7), .val (.int r1), .val (.int r2), .val (.int r3), .val (.int (63 : Int32)), .val (.ref b65), .val (.int (-1 : Int32)), .val (.int (2 : Int32)), .val (.int (3 : Int32)), .val (.int (3 : Int32)), .val (.int (5 : Int32)), .unset, .unset] []) _ _ _
          refine Ends.go (fun _ k => XS.goto X83.here hx rfl (pc0 := 288) (pc' := 324) rfl (hb hby at_288) (by decide) (by decide) k) ?_
          show Ends p e below s T83 (mkF m 324 #[.val (.int p0), .val (.int p1), .val (.int p2), .val (.int p3), .val (.int s4), .val (.int s5), .val (.int s6), .val (.int s7), .val (.int r1), .val (.int r2), .val (.int r3), .val (.int (63 : Int32)), .val (.ref b65), .val (.int (-1 : Int32)), .val (.int (2 : Int32)), .val (.int (3 : Int32)), .val (.int (3 : Int32)), .val (.int (5 : Int32)), .unset, .unset] []) _ _ _
          refine Ends.go (fun _ k => XS.aload X83.here hx rfl (hb hby at_324) rfl rfl k) ?_
          show Ends p e below s T83 (mkF m 326 #[.val (.int p0), .val (.int p1), .val (.int p2), .val (.int p3), .val (.int s4), .val (.int s5), .val (.int s6), .val (.int s7), .val (.int r1), .val (.int r2), .val (.int r3), .val (.int (63 : Int32)), .val (.ref b65), .val (.int (-1 : Int32)), .val (.int (2 : Int32)), .val (.int (3 : Int32)), .val (.int (3 : Int32)), .val (.int (5 : Int32)), .unset, .unset] [(.ref b65)]) _ _ _
          refine Ends.go (fun _ k => XS.iconst X83.here hx rfl (hb hby at_326) k) ?_
          show Ends p e below s T83 (mkF m 327 #[.val (.int p0), .val (.int p1), .val (.int p2), .val (.int p3), .val (.int s4), .val (.int s5), .val (.int s6), .val (.int s7), .val (.int r1), .val (.int r2), .val (.int r3), .val (.int (63 : Int32)), .val (.ref b65), .val (.int (-1 : Int32)), .val (.int (2 : Int32)), .val (.int (3 : Int32)), .val (.int (3 : Int32)), .val (.int (5 : Int32)), .unset, .unset] [(.int (5 : Int32)), (.ref b65)]) _ _ _
          refine Ends.go (fun _ k => XS.iload X83.here hx rfl (hb hby at_327) rfl k) ?_
          show Ends p e below s T83 (mkF m 329 #[.val (.int p0), .val (.int p1), .val (.int p2), .val (.int p3), .val (.int s4), .val (.int s5), .val (.int s6), .val (.int s7), .val (.int r1), .val (.int r2), .val (.int r3), .val (.int (63 : Int32)), .val (.ref b65), .val (.int (-1 : Int32)), .val (.int (2 : Int32)), .val (.int (3 : Int32)), .val (.int (3 : Int32)), .val (.int (5 : Int32)), .unset, .unset] [(.int (63 : Int32)), (.int (5 : Int32)), (.ref b65)]) _ _ _
          obtain ⟨cl84, Ar84, q84, S84, M84, H84, G84⟩ := id V83
          have hin84 := inb_of (j := (5 : Int32)) S84 ⟨by decide, by decide⟩
          obtain ⟨T84, h84, X84, e84, W84, st84⟩ := stC X83 hx hZ e83 Ar84 (j := (5 : Int32)) hin84 (g := (mkF m 329 #[.val (.int p0), .val (.int p1), .val (.int p2), .val (.int p3), .val (.int s4), .val (.int s5), .val (.int s6), .val (.int s7), .val (.int r1), .val (.int r2), .val (.int r3), .val (.int (63 : Int32)), .val (.ref b65), .val (.int (-1 : Int32)), .val (.int (2 : Int32)), .val (.int (3 : Int32)), .val (.int (3 : Int32)), .val (.int (5 : Int32)), .unset, .unset] [(.int (63 : Int32)), (.int (5 : Int32)), (.ref b65)])) rfl rfl (hb hby at_329)
          refine Ends.go st84 ?_
          have V84 : Arv Z h84 b65 k65 .char (6 : Int32) [(.int (47 : Int32)), (.int (47 : Int32)), (.int (nar .char r1)), (.int (47 : Int32)), (.int (nar .char r2)), (.int (63 : Int32))] (.int (0 : Int32)) := Arv.set Ar84 q84 S84 M84 H84 G84 rfl W84 5 rfl (Nat.le_of_ble_eq_true rfl)
          have K84 := K83.wr W84 (Or.inr sz_b65)
          have O84 := O83.wr W84 g_b65
          have N84 := Fr.snoc X84 N83 g_b65
          show Ends p e below s T84 (mkF m 330 #[.val (.int p0), .val (.int p1), .val (.int p2), .val (.int p3), .val (.int s4), .val (.int s5), .val (.int s6), .val (.int s7), .val (.int r1), .val (.int r2), .val (.int r3), .val (.int (63 : Int32)), .val (.ref b65), .val (.int (-1 : Int32)), .val (.int (2 : Int32)), .val (.int (3 : Int32)), .val (.int (3 : Int32)), .val (.int (5 : Int32)), .unset, .unset] []) _ _ _
          refine Ends.go (fun _ k => XS.iload X84.here hx rfl (hb hby at_330) rfl k) ?_
          show Ends p e below s T84 (mkF m 332 #[.val (.int p0), .val (.int p1), .val (.int p2), .val (.int p3), .val (.int s4), .val (.int s5), .val (.int s6), .val (.int s7), .val (.int r1), .val (.int r2), .val (.int r3), .val (.int (63 : Int32)), .val (.ref b65), .val (.int (-1 : Int32)), .val (.int (2 : Int32)), .val (.int (3 : Int32)), .val (.int (3 : Int32)), .val (.int (5 : Int32)), .unset, .unset] [(.int s6)]) _ _ _
          refine Ends.go (fun _ k => XS.ifNo X84.here hx rfl (hb hby at_332) rfl ((if0 _ _).trans (feq (hc73_4 : ¬ (s6 = (0 : Int32)))).1) k) ?_
          show Ends p e below s T84 (mkF m 335 #[.val (.int p0), .val (.int p1), .val (.int p2), .val (.int p3), .val (.int s4), .val (.int s5), .val (.int s6), .val (.int s7), .val (.int r1), .val (.int r2), .val (.int r3), .val (.int (63 : Int32)), .val (.ref b65), .val (.int (-1 : Int32)), .val (.int (2 : Int32)), .val (.int (3 : Int32)), .val (.int (3 : Int32)), .val (.int (5 : Int32)), .unset, .unset] []) _ _ _
          refine Ends.go (fun _ k => XS.bipush X84.here hx rfl (hb hby at_335) k) ?_
          show Ends p e below s T84 (mkF m 337 #[.val (.int p0), .val (.int p1), .val (.int p2), .val (.int p3), .val (.int s4), .val (.int s5), .val (.int s6), .val (.int s7), .val (.int r1), .val (.int r2), .val (.int r3), .val (.int (63 : Int32)), .val (.ref b65), .val (.int (-1 : Int32)), .val (.int (2 : Int32)), .val (.int (3 : Int32)), .val (.int (3 : Int32)), .val (.int (5 : Int32)), .unset, .unset] [(.int (6 : Int32))]) _ _ _
          refine Ends.go (fun _ k => XS.goto X84.here hx rfl (pc0 := 337) (pc' := 341) rfl (hb hby at_337) (by decide) (by decide) k) ?_
          show Ends p e below s T84 (mkF m 341 #[.val (.int p0), .val (.int p1), .val (.int p2), .val (.int p3), .val (.int s4), .val (.int s5), .val (.int s6), .val (.int s7), .val (.int r1), .val (.int r2), .val (.int r3), .val (.int (63 : Int32)), .val (.ref b65), .val (.int (-1 : Int32)), .val (.int (2 : Int32)), .val (.int (3 : Int32)), .val (.int (3 : Int32)), .val (.int (5 : Int32)), .unset, .unset] [(.int (6 : Int32))]) _ _ _
          refine Ends.go (fun _ k => XS.istore X84.here hx rfl (hb hby at_341) rfl (l' := #[.val (.int p0), .val (.int p1), .val (.int p2), .val (.int p3), .val (.int s4), .val (.int s5), .val (.int s6), .val (.int s7), .val (.int r1), .val (.int r2), .val (.int r3), .val (.int (63 : Int32)), .val (.ref b65), .val (.int (-1 : Int32)), .val (.int (2 : Int32)), .val (.int (3 : Int32)), .val (.int (3 : Int32)), .val (.int (5 : Int32)), .val (.int (6 : Int32)), .unset]) rfl k) ?_
          show Ends p e below s T84 (mkF m 343 #[.val (.int p0), .val (.int p1), .val (.int p2), .val (.int p3), .val (.int s4), .val (.int s5), .val (.int s6), .val (.int s7), .val (.int r1), .val (.int r2), .val (.int r3), .val (.int (63 : Int32)), .val (.ref b65), .val (.int (-1 : Int32)), .val (.int (2 : Int32)), .val (.int (3 : Int32)), .val (.int (3 : Int32)), .val (.int (5 : Int32)), .val (.int (6 : Int32)), .unset] []) _ _ _
          obtain ⟨T85, h85, X85, e85, E85, A85, D85, -, st85⟩ := newO X84 hx hZ hown (hw _ (List.mem_of_getElem? (i := 6) rfl)) (hw _ (List.mem_of_getElem? (i := 7) rfl)) (hw _ (List.mem_of_getElem? (i := 8) rfl)) e84 (g := (mkF m 343 #[.val (.int p0), .val (.int p1), .val (.int p2), .val (.int p3), .val (.int s4), .val (.int s5), .val (.int s6), .val (.int s7), .val (.int r1), .val (.int r2), .val (.int r3), .val (.int (63 : Int32)), .val (.ref b65), .val (.int (-1 : Int32)), .val (.int (2 : Int32)), .val (.int (3 : Int32)), .val (.int (3 : Int32)), .val (.int (5 : Int32)), .val (.int (6 : Int32)), .unset] [])) rfl (hb hby at_343) (by decide) (by decide)
          obtain ⟨b85, g85⟩ : ∃ z, z = h84.size := ⟨_, rfl⟩
          rw [← g85] at A85 D85 st85
          refine Ends.go st85 ?_
          have ne_b65_b85 : b65 ≠ b85 := Nat.ne_of_lt (Nat.lt_of_lt_of_le V84.lt (Nat.le_of_eq g85.symm))
          have g_b85 : n0 ≤ b85 := Nat.le_trans (own_old_le O84) (Nat.le_of_eq g85.symm)
          have sz_b85 : h0.size ≤ b85 := Nat.le_trans K84.1 (Nat.le_of_eq g85.symm)
          have K85 := K84.ext E85
          have O85 := O84.ext E85
          have F_mText_b85 : Fld Z h85 b85 "com/example/authority/authority/UriReference" "mText" "Ljava/lang/String;" .null := D85 (Or.inr (hw _ (List.mem_of_getElem? (i := 43) rfl))) (ty := (.object "java/lang/String")) (by decide)
          have F_mSchemeEnd_b85 : Fld Z h85 b85 "com/example/authority/authority/UriReference" "mSchemeEnd" "I" (.int (0 : Int32)) := D85 (Or.inr (hw _ (List.mem_of_getElem? (i := 45) rfl))) (ty := .int) (by decide)
          have F_mHostStart_b85 : Fld Z h85 b85 "com/example/authority/authority/UriReference" "mHostStart" "I" (.int (0 : Int32)) := D85 (Or.inr (hw _ (List.mem_of_getElem? (i := 47) rfl))) (ty := .int) (by decide)
          have F_mHostEnd_b85 : Fld Z h85 b85 "com/example/authority/authority/UriReference" "mHostEnd" "I" (.int (0 : Int32)) := D85 (Or.inr (hw _ (List.mem_of_getElem? (i := 49) rfl))) (ty := .int) (by decide)
          have F_mPathStart_b85 : Fld Z h85 b85 "com/example/authority/authority/UriReference" "mPathStart" "I" (.int (0 : Int32)) := D85 (Or.inr (hw _ (List.mem_of_getElem? (i := 51) rfl))) (ty := .int) (by decide)
          have F_mPathEnd_b85 : Fld Z h85 b85 "com/example/authority/authority/UriReference" "mPathEnd" "I" (.int (0 : Int32)) := D85 (Or.inr (hw _ (List.mem_of_getElem? (i := 53) rfl))) (ty := .int) (by decide)
          have F_mQueryEnd_b85 : Fld Z h85 b85 "com/example/authority/authority/UriReference" "mQueryEnd" "I" (.int (0 : Int32)) := D85 (Or.inr (hw _ (List.mem_of_getElem? (i := 55) rfl))) (ty := .int) (by decide)
          show Ends p e below s T85 (mkF m 346 #[.val (.int p0), .val (.int p1), .val (.int p2), .val (.int p3), .val (.int s4), .val (.int s5), .val (.int s6), .val (.int s7), .val (.int r1), .val (.int r2), .val (.int r3), .val (.int (63 : Int32)), .val (.ref b65), .val (.int (-1 : Int32)), .val (.int (2 : Int32)), .val (.int (3 : Int32)), .val (.int (3 : Int32)), .val (.int (5 : Int32)), .val (.int (6 : Int32)), .unset] [(.ref b85)]) _ _ _
          refine Ends.go (fun _ k => XS.dup X85.here hx rfl (hb hby at_346) rfl rfl k) ?_
          show Ends p e below s T85 (mkF m 347 #[.val (.int p0), .val (.int p1), .val (.int p2), .val (.int p3), .val (.int s4), .val (.int s5), .val (.int s6), .val (.int s7), .val (.int r1), .val (.int r2), .val (.int r3), .val (.int (63 : Int32)), .val (.ref b65), .val (.int (-1 : Int32)), .val (.int (2 : Int32)), .val (.int (3 : Int32)), .val (.int (3 : Int32)), .val (.int (5 : Int32)), .val (.int (6 : Int32)), .unset] [(.ref b85), (.ref b85)]) _ _ _
          obtain ⟨T86, h86, X86, e86, E86, A86, D86, -, st86⟩ := newO X85 hx hZ hown (hw _ (List.mem_of_getElem? (i := 9) rfl)) (hw _ (List.mem_of_getElem? (i := 10) rfl)) (hw _ (List.mem_of_getElem? (i := 11) rfl)) e85 (g := (mkF m 347 #[.val (.int p0), .val (.int p1), .val (.int p2), .val (.int p3), .val (.int s4), .val (.int s5), .val (.int s6), .val (.int s7), .val (.int r1), .val (.int r2), .val (.int r3), .val (.int (63 : Int32)), .val (.ref b65), .val (.int (-1 : Int32)), .val (.int (2 : Int32)), .val (.int (3 : Int32)), .val (.int (3 : Int32)), .val (.int (5 : Int32)), .val (.int (6 : Int32)), .unset] [(.ref b85), (.ref b85)])) rfl (hb hby at_347) (by decide) (by decide)
          obtain ⟨b86, g86⟩ : ∃ z, z = h85.size := ⟨_, rfl⟩
          rw [← g86] at A86 D86 st86
          refine Ends.go st86 ?_
          have ne_b65_b86 : b65 ≠ b86 := Nat.ne_of_lt (Nat.lt_of_lt_of_le (V84.ext E85).lt (Nat.le_of_eq g86.symm))
          have ne_b85_b86 : b85 ≠ b86 := Nat.ne_of_lt (Nat.lt_of_lt_of_le A85.lt (Nat.le_of_eq g86.symm))
          have g_b86 : n0 ≤ b86 := Nat.le_trans (own_old_le O85) (Nat.le_of_eq g86.symm)
          have sz_b86 : h0.size ≤ b86 := Nat.le_trans K85.1 (Nat.le_of_eq g86.symm)
          have K86 := K85.ext E86
          have O86 := O85.ext E86
          have F_coder_b86 : Fld Z h86 b86 "java/lang/String" "coder" "B" (.int (0 : Int32)) := D86 (Or.inr (hw _ (List.mem_of_getElem? (i := 35) rfl))) (ty := .byte) (by decide)
          have F_value_b86 : Fld Z h86 b86 "java/lang/String" "value" "[B" .null := D86 (Or.inr (hw _ (List.mem_of_getElem? (i := 37) rfl))) (ty := (.array .byte)) (by decide)
          show Ends p e below s T86 (mkF m 350 #[.val (.int p0), .val (.int p1), .val (.int p2), .val (.int p3), .val (.int s4), .val (.int s5), .val (.int s6), .val (.int s7), .val (.int r1), .val (.int r2), .val (.int r3), .val (.int (63 : Int32)), .val (.ref b65), .val (.int (-1 : Int32)), .val (.int (2 : Int32)), .val (.int (3 : Int32)), .val (.int (3 : Int32)), .val (.int (5 : Int32)), .val (.int (6 : Int32)), .unset] [(.ref b86), (.ref b85), (.ref b85)]) _ _ _
          refine Ends.go (fun _ k => XS.dup X86.here hx rfl (hb hby at_350) rfl rfl k) ?_
          show Ends p e below s T86 (mkF m 351 #[.val (.int p0), .val (.int p1), .val (.int p2), .val (.int p3), .val (.int s4), .val (.int s5), .val (.int s6), .val (.int s7), .val (.int r1), .val (.int r2), .val (.int r3), .val (.int (63 : Int32)), .val (.ref b65), .val (.int (-1 : Int32)), .val (.int (2 : Int32)), .val (.int (3 : Int32)), .val (.int (3 : Int32)), .val (.int (5 : Int32)), .val (.int (6 : Int32)), .unset] [(.ref b86), (.ref b86), (.ref b85), (.ref b85)]) _ _ _
          refine Ends.go (fun _ k => XS.aload X86.here hx rfl (hb hby at_351) rfl rfl k) ?_
          show Ends p e below s T86 (mkF m 353 #[.val (.int p0), .val (.int p1), .val (.int p2), .val (.int p3), .val (.int s4), .val (.int s5), .val (.int s6), .val (.int s7), .val (.int r1), .val (.int r2), .val (.int r3), .val (.int (63 : Int32)), .val (.ref b65), .val (.int (-1 : Int32)), .val (.int (2 : Int32)), .val (.int (3 : Int32)), .val (.int (3 : Int32)), .val (.int (5 : Int32)), .val (.int (6 : Int32)), .unset] [(.ref b65), (.ref b86), (.ref b86), (.ref b85), (.ref b85)]) _ _ _
          have hp87 : ∀ c ∈ ([(47 : Int32), (47 : Int32), (nar .char r1), (47 : Int32), (nar .char r2), (63 : Int32)] : List Int32), ¬ c < 0 ∧ ¬ (255 : Int32) < c := by
            intro c hc
            simp only [List.mem_cons, List.not_mem_nil, or_false] at hc
            rcases hc with rfl | rfl | rfl | rfl | rfl | rfl
            · exact (by decide)
            · exact (by decide)
            · exact own_nar hr1
            · exact (by decide)
            · exact own_nar hr2
            · exact (by decide)
          obtain ⟨_, _, ⟨T87, L87, k87, n87⟩, -, X87, ⟨Lc87, hQ87, l87, y87, z87⟩, st87⟩ := X86.specialBack hx (y := (⟨"java/lang/String", "<init>", "([C)V"⟩ : MethodName)) rfl hown (mvT hZ (hw _ (List.mem_of_getElem? (i := 12) rfl))) (mvT hZ (hw _ (List.mem_of_getElem? (i := 13) rfl))) (mvT hZ (hw _ (List.mem_of_getElem? (i := 14) rfl))) (by decide) (StrChars.Road.backV (W := 3) hZ hws (kI := 4) (hw _ (List.mem_of_getElem? (i := 10) rfl)) (cs := ([(47 : Int32), (47 : Int32), (nar .char r1), (47 : Int32), (nar .char r2), (63 : Int32)] : List Int32)) (bs := ([(47 : Int32), (47 : Int32), (nar .char r1), (47 : Int32), (nar .char r2), (63 : Int32)] : List Int32).map (fun c => c.toInt8.toInt32)) (n := 6) g_b86 (own_old_le O86) A86 F_value_b86 F_coder_b86 ((V84.ext E85).ext E86) (O2.ext O86.2) P5 rfl rfl (by decide) (by decide) hp87 rfl (by decide) (by decide)) (g := (mkF m 353 #[.val (.int p0), .val (.int p1), .val (.int p2), .val (.int p3), .val (.int s4), .val (.int s5), .val (.int s6), .val (.int s7), .val (.int r1), .val (.int r2), .val (.int r3), .val (.int (63 : Int32)), .val (.ref b65), .val (.int (-1 : Int32)), .val (.int (2 : Int32)), .val (.int (3 : Int32)), .val (.int (3 : Int32)), .val (.int (5 : Int32)), .val (.int (6 : Int32)), .unset] [(.ref b65), (.ref b86), (.ref b86), (.ref b85), (.ref b85)])) rfl (by rw [hml]; rfl) (Steps.refl _) (a := b86) (argsL := [(.ref b65)]) (rest := [(.ref b86), (.ref b85), (.ref b85)]) (lenOf pd0_1 rfl) rfl (by show 2 * 0 + _ ≤ _; exact Nat.le_of_eq rfl) (hb hby at_353) (fun _ _ => ⟨rfl, e86, (by decide : 3 + 1 ≤ _), (by decide : 17 + 6 ≤ _)⟩)
          dsimp only [Pt.U, Pt.locs, Pt.cells, Pt.slots] at X87 l87 y87 z87 st87 hQ87
          subst l87 y87 z87
          obtain ⟨rfl, N87q, K87c, Eq87, Cq87, t87, kb87, -, ht87, ht87', Vq87, Aq87⟩ := hQ87
          have N87 := Fr.app N84 N87q
          refine Ends.go (fun _ k => st87.trans k) ?_
          have ne_b65_t87 : b65 ≠ t87 := Nat.ne_of_lt (Nat.lt_of_lt_of_le ((V84.ext E85).ext E86).lt ht87)
          have ne_b85_t87 : b85 ≠ t87 := Nat.ne_of_lt (Nat.lt_of_lt_of_le (A85.ext E86).lt ht87)
          have ne_b86_t87 : b86 ≠ t87 := Nat.ne_of_lt (Nat.lt_of_lt_of_le A86.lt ht87)
          have g_t87 : n0 ≤ t87 := Nat.le_trans (own_old_le O86) ht87
          have sz_t87 : h0.size ≤ t87 := Nat.le_trans K86.1 ht87
          obtain ⟨h87, e87⟩ : ∃ z, T87.heap = z := ⟨_, rfl⟩
          rw [e87] at K87c Eq87 Cq87 Vq87 Aq87
          have K87 := K86.trans K87c (allS (Or.inr sz_b86) all0)
          have O87 := O86.keep K87c (allS g_b86 all0)
          show Ends p e below s T87 (mkF m 356 #[.val (.int p0), .val (.int p1), .val (.int p2), .val (.int p3), .val (.int s4), .val (.int s5), .val (.int s6), .val (.int s7), .val (.int r1), .val (.int r2), .val (.int r3), .val (.int (63 : Int32)), .val (.ref b65), .val (.int (-1 : Int32)), .val (.int (2 : Int32)), .val (.int (3 : Int32)), .val (.int (3 : Int32)), .val (.int (5 : Int32)), .val (.int (6 : Int32)), .unset] [(.ref b86), (.ref b85), (.ref b85)]) _ _ _
          refine Ends.go (fun _ k => XS.iload X87.here hx rfl (hb hby at_356) rfl k) ?_
          show Ends p e below s T87 (mkF m 358 #[.val (.int p0), .val (.int p1), .val (.int p2), .val (.int p3), .val (.int s4), .val (.int s5), .val (.int s6), .val (.int s7), .val (.int r1), .val (.int r2), .val (.int r3), .val (.int (63 : Int32)), .val (.ref b65), .val (.int (-1 : Int32)), .val (.int (2 : Int32)), .val (.int (3 : Int32)), .val (.int (3 : Int32)), .val (.int (5 : Int32)), .val (.int (6 : Int32)), .unset] [(.int (-1 : Int32)), (.ref b86), (.ref b85), (.ref b85)]) _ _ _
          refine Ends.go (fun _ k => XS.iload X87.here hx rfl (hb hby at_358) rfl k) ?_
          show Ends p e below s T87 (mkF m 360 #[.val (.int p0), .val (.int p1), .val (.int p2), .val (.int p3), .val (.int s4), .val (.int s5), .val (.int s6), .val (.int s7), .val (.int r1), .val (.int r2), .val (.int r3), .val (.int (63 : Int32)), .val (.ref b65), .val (.int (-1 : Int32)), .val (.int (2 : Int32)), .val (.int (3 : Int32)), .val (.int (3 : Int32)), .val (.int (5 : Int32)), .val (.int (6 : Int32)), .unset] [(.int (2 : Int32)), (.int (-1 : Int32)), (.ref b86), (.ref b85), (.ref b85)]) _ _ _
          refine Ends.go (fun _ k => XS.iload X87.here hx rfl (hb hby at_360) rfl k) ?_
          show Ends p e below s T87 (mkF m 362 #[.val (.int p0), .val (.int p1), .val (.int p2), .val (.int p3), .val (.int s4), .val (.int s5), .val (.int s6), .val (.int s7), .val (.int r1), .val (.int r2), .val (.int r3), .val (.int (63 : Int32)), .val (.ref b65), .val (.int (-1 : Int32)), .val (.int (2 : Int32)), .val (.int (3 : Int32)), .val (.int (3 : Int32)), .val (.int (5 : Int32)), .val (.int (6 : Int32)), .unset] [(.int (3 : Int32)), (.int (2 : Int32)), (.int (-1 : Int32)), (.ref b86), (.ref b85), (.ref b85)]) _ _ _
          refine Ends.go (fun _ k => XS.iload X87.here hx rfl (hb hby at_362) rfl k) ?_
          show Ends p e below s T87 (mkF m 364 #[.val (.int p0), .val (.int p1), .val (.int p2), .val (.int p3), .val (.int s4), .val (.int s5), .val (.int s6), .val (.int s7), .val (.int r1), .val (.int r2), .val (.int r3), .val (.int (63 : Int32)), .val (.ref b65), .val (.int (-1 : Int32)), .val (.int (2 : Int32)), .val (.int (3 : Int32)), .val (.int (3 : Int32)), .val (.int (5 : Int32)), .val (.int (6 : Int32)), .unset] [(.int (3 : Int32)), (.int (3 : Int32)), (.int (2 : Int32)), (.int (-1 : Int32)), (.ref b86), (.ref b85), (.ref b85)]) _ _ _
          refine Ends.go (fun _ k => XS.iload X87.here hx rfl (hb hby at_364) rfl k) ?_
          show Ends p e below s T87 (mkF m 366 #[.val (.int p0), .val (.int p1), .val (.int p2), .val (.int p3), .val (.int s4), .val (.int s5), .val (.int s6), .val (.int s7), .val (.int r1), .val (.int r2), .val (.int r3), .val (.int (63 : Int32)), .val (.ref b65), .val (.int (-1 : Int32)), .val (.int (2 : Int32)), .val (.int (3 : Int32)), .val (.int (3 : Int32)), .val (.int (5 : Int32)), .val (.int (6 : Int32)), .unset] [(.int (5 : Int32)), (.int (3 : Int32)), (.int (3 : Int32)), (.int (2 : Int32)), (.int (-1 : Int32)), (.ref b86), (.ref b85), (.ref b85)]) _ _ _
          refine Ends.go (fun _ k => XS.iload X87.here hx rfl (hb hby at_366) rfl k) ?_
          show Ends p e below s T87 (mkF m 368 #[.val (.int p0), .val (.int p1), .val (.int p2), .val (.int p3), .val (.int s4), .val (.int s5), .val (.int s6), .val (.int s7), .val (.int r1), .val (.int r2), .val (.int r3), .val (.int (63 : Int32)), .val (.ref b65), .val (.int (-1 : Int32)), .val (.int (2 : Int32)), .val (.int (3 : Int32)), .val (.int (3 : Int32)), .val (.int (5 : Int32)), .val (.int (6 : Int32)), .unset] [(.int (6 : Int32)), (.int (5 : Int32)), (.int (3 : Int32)), (.int (3 : Int32)), (.int (2 : Int32)), (.int (-1 : Int32)), (.ref b86), (.ref b85), (.ref b85)]) _ _ _
          obtain ⟨_, _, ⟨T88, L88, k88, n88⟩, -, X88, ⟨Lc88, hQ88, l88, y88, z88⟩, st88⟩ := X87.specialBack hx (y := (⟨"com/example/authority/authority/UriReference", "<init>", "(Ljava/lang/String;IIIIII)V"⟩ : MethodName)) rfl hown (mvT hZ (hw _ (List.mem_of_getElem? (i := 38) rfl))) (mvT hZ (hw _ (List.mem_of_getElem? (i := 39) rfl))) (mvT hZ (hw _ (List.mem_of_getElem? (i := 40) rfl))) (by decide) (own_backOf (W := 1) (rmI l Z a0 hw [] n0 h87 O87 b85 b86 (-1 : Int32) (2 : Int32) (3 : Int32) (3 : Int32) (5 : Int32) (6 : Int32) g_b85 ((A85.ext E86).keep K87c) ((F_mText_b85.ext E86).keep K87c (ninS ne_b85_b86 nin0)) ((F_mSchemeEnd_b85.ext E86).keep K87c (ninS ne_b85_b86 nin0)) ((F_mHostStart_b85.ext E86).keep K87c (ninS ne_b85_b86 nin0)) ((F_mHostEnd_b85.ext E86).keep K87c (ninS ne_b85_b86 nin0)) ((F_mPathStart_b85.ext E86).keep K87c (ninS ne_b85_b86 nin0)) ((F_mPathEnd_b85.ext E86).keep K87c (ninS ne_b85_b86 nin0)) ((F_mQueryEnd_b85.ext E86).keep K87c (ninS ne_b85_b86 nin0))) hZ (hw _ (List.mem_of_getElem? (i := 40) rfl)) (hw _ (List.mem_of_getElem? (i := 8) rfl)) (by decide) (by decide)) (g := (mkF m 368 #[.val (.int p0), .val (.int p1), .val (.int p2), .val (.int p3), .val (.int s4), .val (.int s5), .val (.int s6), .val (.int s7), .val (.int r1), .val (.int r2), .val (.int r3), .val (.int (63 : Int32)), .val (.ref b65), .val (.int (-1 : Int32)), .val (.int (2 : Int32)), .val (.int (3 : Int32)), .val (.int (3 : Int32)), .val (.int (5 : Int32)), .val (.int (6 : Int32)), .unset] [(.int (6 : Int32)), (.int (5 : Int32)), (.int (3 : Int32)), (.int (3 : Int32)), (.int (2 : Int32)), (.int (-1 : Int32)), (.ref b86), (.ref b85), (.ref b85)])) rfl (by rw [hml]; rfl) (Steps.refl _) (a := b85) (argsL := [(.ref b86), (.int (-1 : Int32)), (.int (2 : Int32)), (.int (3 : Int32)), (.int (3 : Int32)), (.int (5 : Int32)), (.int (6 : Int32))]) (rest := [(.ref b85)]) (lenOf pd0_2 rfl) rfl (by show 2 * 0 + _ ≤ _; exact Nat.le_of_eq rfl) (hb hby at_368) (fun _ _ => ⟨rfl, e87, (by decide : 4 + 0 ≤ _), (by decide : 23 + 0 ≤ _)⟩)
          dsimp only [Pt.U, Pt.locs, Pt.cells, Pt.slots] at X88 l88 y88 z88 st88 hQ88
          subst l88 y88 z88
          obtain ⟨rfl, N88q, K88c, Eq88, Fq88_mText, Fq88_mSchemeEnd, Fq88_mHostStart, Fq88_mHostEnd, Fq88_mPathStart, Fq88_mPathEnd, Fq88_mQueryEnd⟩ := hQ88
          have N88 := Fr.app N87 N88q
          refine Ends.go (fun _ k => st88.trans k) ?_
          obtain ⟨h88, e88⟩ : ∃ z, T88.heap = z := ⟨_, rfl⟩
          rw [e88] at K88c Eq88 Fq88_mText Fq88_mSchemeEnd Fq88_mHostStart Fq88_mHostEnd Fq88_mPathStart Fq88_mPathEnd Fq88_mQueryEnd
          have K88 := K87.trans K88c (allS (Or.inr sz_b85) all0)
          have O88 := O87.keep K88c (allS g_b85 all0)
          show Ends p e below s T88 (mkF m 371 #[.val (.int p0), .val (.int p1), .val (.int p2), .val (.int p3), .val (.int s4), .val (.int s5), .val (.int s6), .val (.int s7), .val (.int r1), .val (.int r2), .val (.int r3), .val (.int (63 : Int32)), .val (.ref b65), .val (.int (-1 : Int32)), .val (.int (2 : Int32)), .val (.int (3 : Int32)), .val (.int (3 : Int32)), .val (.int (5 : Int32)), .val (.int (6 : Int32)), .unset] [(.ref b85)]) _ _ _
          refine Ends.go (fun _ k => XS.astore X88.here hx rfl (hb hby at_371) rfl rfl (l' := #[.val (.int p0), .val (.int p1), .val (.int p2), .val (.int p3), .val (.int s4), .val (.int s5), .val (.int s6), .val (.int s7), .val (.int r1), .val (.int r2), .val (.int r3), .val (.int (63 : Int32)), .val (.ref b65), .val (.int (-1 : Int32)), .val (.int (2 : Int32)), .val (.int (3 : Int32)), .val (.int (3 : Int32)), .val (.int (5 : Int32)), .val (.int (6 : Int32)), .val (.ref b85)]) rfl k) ?_
          show Ends p e below s T88 (mkF m 373 #[.val (.int p0), .val (.int p1), .val (.int p2), .val (.int p3), .val (.int s4), .val (.int s5), .val (.int s6), .val (.int s7), .val (.int r1), .val (.int r2), .val (.int r3), .val (.int (63 : Int32)), .val (.ref b65), .val (.int (-1 : Int32)), .val (.int (2 : Int32)), .val (.int (3 : Int32)), .val (.int (3 : Int32)), .val (.int (5 : Int32)), .val (.int (6 : Int32)), .val (.ref b85)] []) _ _ _
          refine Ends.go (fun _ k => XS.aload X88.here hx rfl (hb hby at_373) rfl rfl k) ?_
          show Ends p e below s T88 (mkF m 375 #[.val (.int p0), .val (.int p1), .val (.int p2), .val (.int p3), .val (.int s4), .val (.int s5), .val (.int s6), .val (.int s7), .val (.int r1), .val (.int r2), .val (.int r3), .val (.int (63 : Int32)), .val (.ref b65), .val (.int (-1 : Int32)), .val (.int (2 : Int32)), .val (.int (3 : Int32)), .val (.int (3 : Int32)), .val (.int (5 : Int32)), .val (.int (6 : Int32)), .val (.ref b85)] [(.ref b85)]) _ _ _
          obtain ⟨cq89, kq89, q89a, q89b, q89c⟩ := isOf hZ e88 Eq88
          obtain ⟨_, _, ⟨T89, L89, k89, n89⟩, -, X89, ⟨Lc89, hQ89, l89, y89, z89⟩, st89⟩ := X88.virtualBack hx (y := (⟨"com/example/authority/authority/UriReference", "isUri", "()Z"⟩ : MethodName)) (z := (⟨"com/example/authority/authority/UriReference", "isUri", "()Z"⟩ : MethodName)) hown (mvT hZ (hw _ (List.mem_of_getElem? (i := 56) rfl))) (mvT hZ (hw _ (List.mem_of_getElem? (i := 57) rfl))) (notFace_of_selects (args := #[]) (mvT hZ (hw _ (List.mem_of_getElem? (i := 59) rfl)))) (mvT hZ (hw _ (List.mem_of_getElem? (i := 59) rfl))) (mvT hZ (hw _ (List.mem_of_getElem? (i := 58) rfl))) (by decide) (own_backOf (W := 0) (rmQ l Z a0 hw [] n0 h88 O88 b85 (-1 : Int32) Fq88_mSchemeEnd (0 : Int32) (by decide)) hZ (hw _ (List.mem_of_getElem? (i := 60) rfl)) (hw _ (List.mem_of_getElem? (i := 8) rfl)) (by decide) (by decide)) q89a q89c (g := (mkF m 375 #[.val (.int p0), .val (.int p1), .val (.int p2), .val (.int p3), .val (.int s4), .val (.int s5), .val (.int s6), .val (.int s7), .val (.int r1), .val (.int r2), .val (.int r3), .val (.int (63 : Int32)), .val (.ref b65), .val (.int (-1 : Int32)), .val (.int (2 : Int32)), .val (.int (3 : Int32)), .val (.int (3 : Int32)), .val (.int (5 : Int32)), .val (.int (6 : Int32)), .val (.ref b85)] [(.ref b85)])) rfl (by rw [hml]; rfl) (Steps.refl _) (argsL := []) (rest := []) (lenOf pd0_3 rfl) rfl (by show 2 * 0 + _ ≤ _; exact Nat.le_of_eq rfl) (hb hby at_375) (fun _ _ => ⟨rfl, e88, (by decide : 4 + 0 ≤ _), (by decide : 23 + 0 ≤ _)⟩)
          dsimp only [Pt.U, Pt.locs, Pt.cells, Pt.slots] at X89 l89 y89 z89 st89 hQ89
          subst l89 y89 z89
          obtain ⟨rfl, N89q, e89q⟩ := hQ89
          have N89 := Fr.app N88 N89q
          refine Ends.go (fun _ k => st89.trans k) ?_
          show Ends p e below s T89 (mkF m 378 #[.val (.int p0), .val (.int p1), .val (.int p2), .val (.int p3), .val (.int s4), .val (.int s5), .val (.int s6), .val (.int s7), .val (.int r1), .val (.int r2), .val (.int r3), .val (.int (63 : Int32)), .val (.ref b65), .val (.int (-1 : Int32)), .val (.int (2 : Int32)), .val (.int (3 : Int32)), .val (.int (3 : Int32)), .val (.int (5 : Int32)), .val (.int (6 : Int32)), .val (.ref b85)] [(.int (0 : Int32))]) _ _ _
          refine Ends.go (fun _ k => XS.iload X89.here hx rfl (hb hby at_378) rfl k) ?_
          show Ends p e below s T89 (mkF m 380 #[.val (.int p0), .val (.int p1), .val (.int p2), .val (.int p3), .val (.int s4), .val (.int s5), .val (.int s6), .val (.int s7), .val (.int r1), .val (.int r2), .val (.int r3), .val (.int (63 : Int32)), .val (.ref b65), .val (.int (-1 : Int32)), .val (.int (2 : Int32)), .val (.int (3 : Int32)), .val (.int (3 : Int32)), .val (.int (5 : Int32)), .val (.int (6 : Int32)), .val (.ref b85)] [(.int s4), (.int (0 : Int32))]) _ _ _
          refine Ends.go (fun _ k => XS.icmpNo X89.here hx rfl (hb hby at_380) rfl (teq ((by rw [hc108_66]) : (0 : Int32) = s4)).2 k) ?_
          show Ends p e below s T89 (mkF m 383 #[.val (.int p0), .val (.int p1), .val (.int p2), .val (.int p3), .val (.int s4), .val (.int s5), .val (.int s6), .val (.int s7), .val (.int r1), .val (.int r2), .val (.int r3), .val (.int (63 : Int32)), .val (.ref b65), .val (.int (-1 : Int32)), .val (.int (2 : Int32)), .val (.int (3 : Int32)), .val (.int (3 : Int32)), .val (.int (5 : Int32)), .val (.int (6 : Int32)), .val (.ref b85)] []) _ _ _
          refine Ends.go (fun _ k => XS.iconst X89.here hx rfl (hb hby at_383) k) ?_
          show Ends p e below s T89 (mkF m 384 #[.val (.int p0), .val (.int p1), .val (.int p2), .val (.int p3), .val (.int s4), .val (.int s5), .val (.int s6), .val (.int s7), .val (.int r1), .val (.int r2), .val (.int r3), .val (.int (63 : Int32)), .val (.ref b65), .val (.int (-1 : Int32)), .val (.int (2 : Int32)), .val (.int (3 : Int32)), .val (.int (3 : Int32)), .val (.int (5 : Int32)), .val (.int (6 : Int32)), .val (.ref b85)] [(.int (1 : Int32))]) _ _ _
          refine Ends.go (fun _ k => XS.goto X89.here hx rfl (pc0 := 384) (pc' := 388) rfl (hb hby at_384) (by decide) (by decide) k) ?_
          show Ends p e below s T89 (mkF m 388 #[.val (.int p0), .val (.int p1), .val (.int p2), .val (.int p3), .val (.int s4), .val (.int s5), .val (.int s6), .val (.int s7), .val (.int r1), .val (.int r2), .val (.int r3), .val (.int (63 : Int32)), .val (.ref b65), .val (.int (-1 : Int32)), .val (.int (2 : Int32)), .val (.int (3 : Int32)), .val (.int (3 : Int32)), .val (.int (5 : Int32)), .val (.int (6 : Int32)), .val (.ref b85)] [(.int (1 : Int32))]) _ _ _
          refine Ends.retZ X89 hx Bd.notSynchronized (t := .boolean) Bd.returns (by simp) (hb hby at_388) (by decide) (by decide) ?_
          exact ⟨rfl, N89⟩
      · refine Ends.go (fun _ k => XS.ifNo X65.here hx rfl (hb hby at_108) rfl ((if0 _ _).trans (feq hc108_66).1) k) ?_
        show Ends p e below s T65 (mkF m 111 #[.val (.int p0), .val (.int p1), .val (.int p2), .val (.int p3), .val (.int s4), .val (.int s5), .val (.int s6), .val (.int s7), .val (.int r1), .val (.int r2), .val (.int r3), .val (.int (63 : Int32)), .val (.ref b65), .val (.int (-1 : Int32)), .val (.int (-1 : Int32)), .val (.int (-1 : Int32)), .val (.int (0 : Int32)), .val (.int (5 : Int32)), .unset, .unset] []) _ _ _
        refine Ends.go (fun _ k => XS.iload X65.here hx rfl (hb hby at_111) rfl k) ?_
        show Ends p e below s T65 (mkF m 113 #[.val (.int p0), .val (.int p1), .val (.int p2), .val (.int p3), .val (.int s4), .val (.int s5), .val (.int s6), .val (.int s7), .val (.int r1), .val (.int r2), .val (.int r3), .val (.int (63 : Int32)), .val (.ref b65), .val (.int (-1 : Int32)), .val (.int (-1 : Int32)), .val (.int (-1 : Int32)), .val (.int (0 : Int32)), .val (.int (5 : Int32)), .unset, .unset] [(.int s5)]) _ _ _
        by_cases hc113_90 : s5 = (0 : Int32)
        · refine Ends.go (fun _ k => XS.ifYes X65.here hx rfl (pc0 := 113) (pc' := 161) rfl (hb hby at_113) rfl ((if0 _ _).trans (teq hc113_90).1) (by decide) (by decide) k) ?_
          show Ends p e below s T65 (mkF m 161 #[.val (.int p0), .val (.int p1), .val (.int p2), .val (.int p3), .val (.int s4), .val (.int s5), .val (.int s6), .val (.int s7), .val (.int r1), .val (.int r2), .val (.int r3), .val (.int (63 : Int32)), .val (.ref b65), .val (.int (-1 : Int32)), .val (.int (-1 : Int32)), .val (.int (-1 : Int32)), .val (.int (0 : Int32)), .val (.int (5 : Int32)), .unset, .unset] []) _ _ _
          refine Ends.go (fun _ k => XS.iload X65.here hx rfl (hb hby at_161) rfl k) ?_
          show Ends p e below s T65 (mkF m 163 #[.val (.int p0), .val (.int p1), .val (.int p2), .val (.int p3), .val (.int s4), .val (.int s5), .val (.int s6), .val (.int s7), .val (.int r1), .val (.int r2), .val (.int r3), .val (.int (63 : Int32)), .val (.ref b65), .val (.int (-1 : Int32)), .val (.int (-1 : Int32)), .val (.int (-1 : Int32)), .val (.int (0 : Int32)), .val (.int (5 : Int32)), .unset, .unset] [(.int s7)]) _ _ _
          by_cases hc163_91 : s7 = (0 : Int32)
          · refine Ends.go (fun _ k => XS.ifYes X65.here hx rfl (pc0 := 163) (pc' := 205) rfl (hb hby at_163) rfl ((if0 _ _).trans (teq hc163_91).1) (by decide) (by decide) k) ?_
            show Ends p e below s T65 (mkF m 205 #[.val (.int p0), .val (.int p1), .val (.int p2), .val (.int p3), .val (.int s4), .val (.int s5), .val (.int s6), .val (.int s7), .val (.int r1), .val (.int r2), .val (.int r3), .val (.int (63 : Int32)), .val (.ref b65), .val (.int (-1 : Int32)), .val (.int (-1 : Int32)), .val (.int (-1 : Int32)), .val (.int (0 : Int32)), .val (.int (5 : Int32)), .unset, .unset] []) _ _ _
            refine Ends.go (fun _ k => XS.aload X65.here hx rfl (hb hby at_205) rfl rfl k) ?_
            show Ends p e below s T65 (mkF m 207 #[.val (.int p0), .val (.int p1), .val (.int p2), .val (.int p3), .val (.int s4), .val (.int s5), .val (.int s6), .val (.int s7), .val (.int r1), .val (.int r2), .val (.int r3), .val (.int (63 : Int32)), .val (.ref b65), .val (.int (-1 : Int32)), .val (.int (-1 : Int32)), .val (.int (-1 : Int32)), .val (.int (0 : Int32)), .val (.int (5 : Int32)), .unset, .unset] [(.ref b65)]) _ _ _
            refine Ends.go (fun _ k => XS.iconst X65.here hx rfl (hb hby at_207) k) ?_
            show Ends p e below s T65 (mkF m 208 #[.val (.int p0), .val (.int p1), .val (.int p2), .val (.int p3), .val (.int s4), .val (.int s5), .val (.int s6), .val (.int s7), .val (.int r1), .val (.int r2), .val (.int r3), .val (.int (63 : Int32)), .val (.ref b65), .val (.int (-1 : Int32)), .val (.int (-1 : Int32)), .val (.int (-1 : Int32)), .val (.int (0 : Int32)), .val (.int (5 : Int32)), .unset, .unset] [(.int (0 : Int32)), (.ref b65)]) _ _ _
            refine Ends.go (fun _ k => XS.iload X65.here hx rfl (hb hby at_208) rfl k) ?_
            show Ends p e below s T65 (mkF m 210 #[.val (.int p0), .val (.int p1), .val (.int p2), .val (.int p3), .val (.int s4), .val (.int s5), .val (.int s6), .val (.int s7), .val (.int r1), .val (.int r2), .val (.int r3), .val (.int (63 : Int32)), .val (.ref b65), .val (.int (-1 : Int32)), .val (.int (-1 : Int32)), .val (.int (-1 : Int32)), .val (.int (0 : Int32)), .val (.int (5 : Int32)), .unset, .unset] [(.int r1), (.int (0 : Int32)), (.ref b65)]) _ _ _
            obtain ⟨cl92, Ar92, q92, S92, M92, H92, G92⟩ := id V_b65
            have hin92 := inb_of (j := (0 : Int32)) S92 ⟨by decide, by decide⟩
            obtain ⟨T92, h92, X92, e92, W92, st92⟩ := stC X65 hx hZ e65 Ar92 (j := (0 : Int32)) hin92 (g := (mkF m 210 #[.val (.int p0), .val (.int p1), .val (.int p2), .val (.int p3), .val (.int s4), .val (.int s5), .val (.int s6), .val (.int s7), .val (.int r1), .val (.int r2), .val (.int r3), .val (.int (63 : Int32)), .val (.ref b65), .val (.int (-1 : Int32)), .val (.int (-1 : Int32)), .val (.int (-1 : Int32)), .val (.int (0 : Int32)), .val (.int (5 : Int32)), .unset, .unset] [(.int r1), (.int (0 : Int32)), (.ref b65)])) rfl rfl (hb hby at_210)
            refine Ends.go st92 ?_
            have V92 : Arv Z h92 b65 k65 .char (6 : Int32) [(.int (nar .char r1)), (.int (0 : Int32)), (.int (0 : Int32)), (.int (0 : Int32)), (.int (0 : Int32)), (.int (0 : Int32))] (.int (0 : Int32)) := Arv.set Ar92 q92 S92 M92 H92 G92 (fits_nar_char _) W92 0 rfl (Nat.le_of_ble_eq_true rfl)
            have K92 := K65.wr W92 (Or.inr sz_b65)
            have O92 := O65.wr W92 g_b65
            have N92 := Fr.snoc X92 N3 g_b65
            show Ends p e below s T92 (mkF m 211 #[.val (.int p0), .val (.int p1), .val (.int p2), .val (.int p3), .val (.int s4), .val (.int s5), .val (.int s6), .val (.int s7), .val (.int r1), .val (.int r2), .val (.int r3), .val (.int (63 : Int32)), .val (.ref b65), .val (.int (-1 : Int32)), .val (.int (-1 : Int32)), .val (.int (-1 : Int32)), .val (.int (0 : Int32)), .val (.int (5 : Int32)), .unset, .unset] []) _ _ _
            refine Ends.go (fun _ k => XS.aload X92.here hx rfl (hb hby at_211) rfl rfl k) ?_
            show Ends p e below s T92 (mkF m 213 #[.val (.int p0), .val (.int p1), .val (.int p2), .val (.int p3), .val (.int s4), .val (.int s5), .val (.int s6), .val (.int s7), .val (.int r1), .val (.int r2), .val (.int r3), .val (.int (63 : Int32)), .val (.ref b65), .val (.int (-1 : Int32)), .val (.int (-1 : Int32)), .val (.int (-1 : Int32)), .val (.int (0 : Int32)), .val (.int (5 : Int32)), .unset, .unset] [(.ref b65)]) _ _ _
            refine Ends.go (fun _ k => XS.iconst X92.here hx rfl (hb hby at_213) k) ?_
            show Ends p e below s T92 (mkF m 214 #[.val (.int p0), .val (.int p1), .val (.int p2), .val (.int p3), .val (.int s4), .val (.int s5), .val (.int s6), .val (.int s7), .val (.int r1), .val (.int r2), .val (.int r3), .val (.int (63 : Int32)), .val (.ref b65), .val (.int (-1 : Int32)), .val (.int (-1 : Int32)), .val (.int (-1 : Int32)), .val (.int (0 : Int32)), .val (.int (5 : Int32)), .unset, .unset] [(.int (1 : Int32)), (.ref b65)]) _ _ _
            refine Ends.go (fun _ k => XS.bipush X92.here hx rfl (hb hby at_214) k) ?_
            show Ends p e below s T92 (mkF m 216 #[.val (.int p0), .val (.int p1), .val (.int p2), .val (.int p3), .val (.int s4), .val (.int s5), .val (.int s6), .val (.int s7), .val (.int r1), .val (.int r2), .val (.int r3), .val (.int (63 : Int32)), .val (.ref b65), .val (.int (-1 : Int32)), .val (.int (-1 : Int32)), .val (.int (-1 : Int32)), .val (.int (0 : Int32)), .val (.int (5 : Int32)), .unset, .unset] [(.int (58 : Int32)), (.int (1 : Int32)), (.ref b65)]) _ _ _
            obtain ⟨cl93, Ar93, q93, S93, M93, H93, G93⟩ := id V92
            have hin93 := inb_of (j := (1 : Int32)) S93 ⟨by decide, by decide⟩
            obtain ⟨T93, h93, X93, e93, W93, st93⟩ := stC X92 hx hZ e92 Ar93 (j := (1 : Int32)) hin93 (g := (mkF m 216 #[.val (.int p0), .val (.int p1), .val (.int p2), .val (.int p3), .val (.int s4), .val (.int s5), .val (.int s6), .val (.int s7), .val (.int r1), .val (.int r2), .val (.int r3), .val (.int (63 : Int32)), .val (.ref b65), .val (.int (-1 : Int32)), .val (.int (-1 : Int32)), .val (.int (-1 : Int32)), .val (.int (0 : Int32)), .val (.int (5 : Int32)), .unset, .unset] [(.int (58 : Int32)), (.int (1 : Int32)), (.ref b65)])) rfl rfl (hb hby at_216)
            refine Ends.go st93 ?_
            have V93 : Arv Z h93 b65 k65 .char (6 : Int32) [(.int (nar .char r1)), (.int (58 : Int32)), (.int (0 : Int32)), (.int (0 : Int32)), (.int (0 : Int32)), (.int (0 : Int32))] (.int (0 : Int32)) := Arv.set Ar93 q93 S93 M93 H93 G93 rfl W93 1 rfl (Nat.le_of_ble_eq_true rfl)
            have K93 := K92.wr W93 (Or.inr sz_b65)
            have O93 := O92.wr W93 g_b65
            have N93 := Fr.snoc X93 N92 g_b65
            show Ends p e below s T93 (mkF m 217 #[.val (.int p0), .val (.int p1), .val (.int p2), .val (.int p3), .val (.int s4), .val (.int s5), .val (.int s6), .val (.int s7), .val (.int r1), .val (.int r2), .val (.int r3), .val (.int (63 : Int32)), .val (.ref b65), .val (.int (-1 : Int32)), .val (.int (-1 : Int32)), .val (.int (-1 : Int32)), .val (.int (0 : Int32)), .val (.int (5 : Int32)), .unset, .unset] []) _ _ _
            refine Ends.go (fun _ k => XS.aload X93.here hx rfl (hb hby at_217) rfl rfl k) ?_
            show Ends p e below s T93 (mkF m 219 #[.val (.int p0), .val (.int p1), .val (.int p2), .val (.int p3), .val (.int s4), .val (.int s5), .val (.int s6), .val (.int s7), .val (.int r1), .val (.int r2), .val (.int r3), .val (.int (63 : Int32)), .val (.ref b65), .val (.int (-1 : Int32)), .val (.int (-1 : Int32)), .val (.int (-1 : Int32)), .val (.int (0 : Int32)), .val (.int (5 : Int32)), .unset, .unset] [(.ref b65)]) _ _ _
            refine Ends.go (fun _ k => XS.iconst X93.here hx rfl (hb hby at_219) k) ?_
            show Ends p e below s T93 (mkF m 220 #[.val (.int p0), .val (.int p1), .val (.int p2), .val (.int p3), .val (.int s4), .val (.int s5), .val (.int s6), .val (.int s7), .val (.int r1), .val (.int r2), .val (.int r3), .val (.int (63 : Int32)), .val (.ref b65), .val (.int (-1 : Int32)), .val (.int (-1 : Int32)), .val (.int (-1 : Int32)), .val (.int (0 : Int32)), .val (.int (5 : Int32)), .unset, .unset] [(.int (2 : Int32)), (.ref b65)]) _ _ _
            refine Ends.go (fun _ k => XS.bipush X93.here hx rfl (hb hby at_220) k) ?_
            show Ends p e below s T93 (mkF m 222 #[.val (.int p0), .val (.int p1), .val (.int p2), .val (.int p3), .val (.int s4), .val (.int s5), .val (.int s6), .val (.int s7), .val (.int r1), .val (.int r2), .val (.int r3), .val (.int (63 : Int32)), .val (.ref b65), .val (.int (-1 : Int32)), .val (.int (-1 : Int32)), .val (.int (-1 : Int32)), .val (.int (0 : Int32)), .val (.int (5 : Int32)), .unset, .unset] [(.int (47 : Int32)), (.int (2 : Int32)), (.ref b65)]) _ _ _
            obtain ⟨cl94, Ar94, q94, S94, M94, H94, G94⟩ := id V93
            have hin94 := inb_of (j := (2 : Int32)) S94 ⟨by decide, by decide⟩
            obtain ⟨T94, h94, X94, e94, W94, st94⟩ := stC X93 hx hZ e93 Ar94 (j := (2 : Int32)) hin94 (g := (mkF m 222 #[.val (.int p0), .val (.int p1), .val (.int p2), .val (.int p3), .val (.int s4), .val (.int s5), .val (.int s6), .val (.int s7), .val (.int r1), .val (.int r2), .val (.int r3), .val (.int (63 : Int32)), .val (.ref b65), .val (.int (-1 : Int32)), .val (.int (-1 : Int32)), .val (.int (-1 : Int32)), .val (.int (0 : Int32)), .val (.int (5 : Int32)), .unset, .unset] [(.int (47 : Int32)), (.int (2 : Int32)), (.ref b65)])) rfl rfl (hb hby at_222)
            refine Ends.go st94 ?_
            have V94 : Arv Z h94 b65 k65 .char (6 : Int32) [(.int (nar .char r1)), (.int (58 : Int32)), (.int (47 : Int32)), (.int (0 : Int32)), (.int (0 : Int32)), (.int (0 : Int32))] (.int (0 : Int32)) := Arv.set Ar94 q94 S94 M94 H94 G94 rfl W94 2 rfl (Nat.le_of_ble_eq_true rfl)
            have K94 := K93.wr W94 (Or.inr sz_b65)
            have O94 := O93.wr W94 g_b65
            have N94 := Fr.snoc X94 N93 g_b65
            show Ends p e below s T94 (mkF m 223 #[.val (.int p0), .val (.int p1), .val (.int p2), .val (.int p3), .val (.int s4), .val (.int s5), .val (.int s6), .val (.int s7), .val (.int r1), .val (.int r2), .val (.int r3), .val (.int (63 : Int32)), .val (.ref b65), .val (.int (-1 : Int32)), .val (.int (-1 : Int32)), .val (.int (-1 : Int32)), .val (.int (0 : Int32)), .val (.int (5 : Int32)), .unset, .unset] []) _ _ _
            refine Ends.go (fun _ k => XS.aload X94.here hx rfl (hb hby at_223) rfl rfl k) ?_
            show Ends p e below s T94 (mkF m 225 #[.val (.int p0), .val (.int p1), .val (.int p2), .val (.int p3), .val (.int s4), .val (.int s5), .val (.int s6), .val (.int s7), .val (.int r1), .val (.int r2), .val (.int r3), .val (.int (63 : Int32)), .val (.ref b65), .val (.int (-1 : Int32)), .val (.int (-1 : Int32)), .val (.int (-1 : Int32)), .val (.int (0 : Int32)), .val (.int (5 : Int32)), .unset, .unset] [(.ref b65)]) _ _ _
            refine Ends.go (fun _ k => XS.iconst X94.here hx rfl (hb hby at_225) k) ?_
            show Ends p e below s T94 (mkF m 226 #[.val (.int p0), .val (.int p1), .val (.int p2), .val (.int p3), .val (.int s4), .val (.int s5), .val (.int s6), .val (.int s7), .val (.int r1), .val (.int r2), .val (.int r3), .val (.int (63 : Int32)), .val (.ref b65), .val (.int (-1 : Int32)), .val (.int (-1 : Int32)), .val (.int (-1 : Int32)), .val (.int (0 : Int32)), .val (.int (5 : Int32)), .unset, .unset] [(.int (3 : Int32)), (.ref b65)]) _ _ _
            refine Ends.go (fun _ k => XS.iload X94.here hx rfl (hb hby at_226) rfl k) ?_
            show Ends p e below s T94 (mkF m 228 #[.val (.int p0), .val (.int p1), .val (.int p2), .val (.int p3), .val (.int s4), .val (.int s5), .val (.int s6), .val (.int s7), .val (.int r1), .val (.int r2), .val (.int r3), .val (.int (63 : Int32)), .val (.ref b65), .val (.int (-1 : Int32)), .val (.int (-1 : Int32)), .val (.int (-1 : Int32)), .val (.int (0 : Int32)), .val (.int (5 : Int32)), .unset, .unset] [(.int r2), (.int (3 : Int32)), (.ref b65)]) _ _ _
            obtain ⟨cl95, Ar95, q95, S95, M95, H95, G95⟩ := id V94
            have hin95 := inb_of (j := (3 : Int32)) S95 ⟨by decide, by decide⟩
            obtain ⟨T95, h95, X95, e95, W95, st95⟩ := stC X94 hx hZ e94 Ar95 (j := (3 : Int32)) hin95 (g := (mkF m 228 #[.val (.int p0), .val (.int p1), .val (.int p2), .val (.int p3), .val (.int s4), .val (.int s5), .val (.int s6), .val (.int s7), .val (.int r1), .val (.int r2), .val (.int r3), .val (.int (63 : Int32)), .val (.ref b65), .val (.int (-1 : Int32)), .val (.int (-1 : Int32)), .val (.int (-1 : Int32)), .val (.int (0 : Int32)), .val (.int (5 : Int32)), .unset, .unset] [(.int r2), (.int (3 : Int32)), (.ref b65)])) rfl rfl (hb hby at_228)
            refine Ends.go st95 ?_
            have V95 : Arv Z h95 b65 k65 .char (6 : Int32) [(.int (nar .char r1)), (.int (58 : Int32)), (.int (47 : Int32)), (.int (nar .char r2)), (.int (0 : Int32)), (.int (0 : Int32))] (.int (0 : Int32)) := Arv.set Ar95 q95 S95 M95 H95 G95 (fits_nar_char _) W95 3 rfl (Nat.le_of_ble_eq_true rfl)
            have K95 := K94.wr W95 (Or.inr sz_b65)
            have O95 := O94.wr W95 g_b65
            have N95 := Fr.snoc X95 N94 g_b65
            show Ends p e below s T95 (mkF m 229 #[.val (.int p0), .val (.int p1), .val (.int p2), .val (.int p3), .val (.int s4), .val (.int s5), .val (.int s6), .val (.int s7), .val (.int r1), .val (.int r2), .val (.int r3), .val (.int (63 : Int32)), .val (.ref b65), .val (.int (-1 : Int32)), .val (.int (-1 : Int32)), .val (.int (-1 : Int32)), .val (.int (0 : Int32)), .val (.int (5 : Int32)), .unset, .unset] []) _ _ _
            refine Ends.go (fun _ k => XS.aload X95.here hx rfl (hb hby at_229) rfl rfl k) ?_
            show Ends p e below s T95 (mkF m 231 #[.val (.int p0), .val (.int p1), .val (.int p2), .val (.int p3), .val (.int s4), .val (.int s5), .val (.int s6), .val (.int s7), .val (.int r1), .val (.int r2), .val (.int r3), .val (.int (63 : Int32)), .val (.ref b65), .val (.int (-1 : Int32)), .val (.int (-1 : Int32)), .val (.int (-1 : Int32)), .val (.int (0 : Int32)), .val (.int (5 : Int32)), .unset, .unset] [(.ref b65)]) _ _ _
            refine Ends.go (fun _ k => XS.iconst X95.here hx rfl (hb hby at_231) k) ?_
            show Ends p e below s T95 (mkF m 232 #[.val (.int p0), .val (.int p1), .val (.int p2), .val (.int p3), .val (.int s4), .val (.int s5), .val (.int s6), .val (.int s7), .val (.int r1), .val (.int r2), .val (.int r3), .val (.int (63 : Int32)), .val (.ref b65), .val (.int (-1 : Int32)), .val (.int (-1 : Int32)), .val (.int (-1 : Int32)), .val (.int (0 : Int32)), .val (.int (5 : Int32)), .unset, .unset] [(.int (4 : Int32)), (.ref b65)]) _ _ _
            refine Ends.go (fun _ k => XS.iload X95.here hx rfl (hb hby at_232) rfl k) ?_
            show Ends p e below s T95 (mkF m 234 #[.val (.int p0), .val (.int p1), .val (.int p2), .val (.int p3), .val (.int s4), .val (.int s5), .val (.int s6), .val (.int s7), .val (.int r1), .val (.int r2), .val (.int r3), .val (.int (63 : Int32)), .val (.ref b65), .val (.int (-1 : Int32)), .val (.int (-1 : Int32)), .val (.int (-1 : Int32)), .val (.int (0 : Int32)), .val (.int (5 : Int32)), .unset, .unset] [(.int r3), (.int (4 : Int32)), (.ref b65)]) _ _ _
            obtain ⟨cl96, Ar96, q96, S96, M96, H96, G96⟩ := id V95
            have hin96 := inb_of (j := (4 : Int32)) S96 ⟨by decide, by decide⟩
            obtain ⟨T96, h96, X96, e96, W96, st96⟩ := stC X95 hx hZ e95 Ar96 (j := (4 : Int32)) hin96 (g := (mkF m 234 #[.val (.int p0), .val (.int p1), .val (.int p2), .val (.int p3), .val (.int s4), .val (.int s5), .val (.int s6), .val (.int s7), .val (.int r1), .val (.int r2), .val (.int r3), .val (.int (63 : Int32)), .val (.ref b65), .val (.int (-1 : Int32)), .val (.int (-1 : Int32)), .val (.int (-1 : Int32)), .val (.int (0 : Int32)), .val (.int (5 : Int32)), .unset, .unset] [(.int r3), (.int (4 : Int32)), (.ref b65)])) rfl rfl (hb hby at_234)
            refine Ends.go st96 ?_
            have V96 : Arv Z h96 b65 k65 .char (6 : Int32) [(.int (nar .char r1)), (.int (58 : Int32)), (.int (47 : Int32)), (.int (nar .char r2)), (.int (nar .char r3)), (.int (0 : Int32))] (.int (0 : Int32)) := Arv.set Ar96 q96 S96 M96 H96 G96 (fits_nar_char _) W96 4 rfl (Nat.le_of_ble_eq_true rfl)
            have K96 := K95.wr W96 (Or.inr sz_b65)
            have O96 := O95.wr W96 g_b65
            have N96 := Fr.snoc X96 N95 g_b65
            show Ends p e below s T96 (mkF m 235 #[.val (.int p0), .val (.int p1), .val (.int p2), .val (.int p3), .val (.int s4), .val (.int s5), .val (.int s6), .val (.int s7), .val (.int r1), .val (.int r2), .val (.int r3), .val (.int (63 : Int32)), .val (.ref b65), .val (.int (-1 : Int32)), .val (.int (-1 : Int32)), .val (.int (-1 : Int32)), .val (.int (0 : Int32)), .val (.int (5 : Int32)), .unset, .unset] []) _ _ _
            refine Ends.go (fun _ k => XS.iconst X96.here hx rfl (hb hby at_235) k) ?_
            show Ends p e below s T96 (mkF m 236 #[.val (.int p0), .val (.int p1), .val (.int p2), .val (.int p3), .val (.int s4), .val (.int s5), .val (.int s6), .val (.int s7), .val (.int r1), .val (.int r2), .val (.int r3), .val (.int (63 : Int32)), .val (.ref b65), .val (.int (-1 : Int32)), .val (.int (-1 : Int32)), .val (.int (-1 : Int32)), .val (.int (0 : Int32)), .val (.int (5 : Int32)), .unset, .unset] [(.int (1 : Int32))]) _ _ _
            refine Ends.go (fun _ k => XS.istore X96.here hx rfl (hb hby at_236) rfl (l' := #[.val (.int p0), .val (.int p1), .val (.int p2), .val (.int p3), .val (.int s4), .val (.int s5), .val (.int s6), .val (.int s7), .val (.int r1), .val (.int r2), .val (.int r3), .val (.int (63 : Int32)), .val (.ref b65), .val (.int (1 : Int32)), .val (.int (-1 : Int32)), .val (.int (-1 : Int32)), .val (.int (0 : Int32)), .val (.int (5 : Int32)), .unset, .unset]) rfl k) ?_
            show Ends p e below s T96 (mkF m 238 #[.val (.int p0), .val (.int p1), .val (.int p2), .val (.int p3), .val (.int s4), .val (.int s5), .val (.int s6), .val (.int s7), .val (.int r1), .val (.int r2), .val (.int r3), .val (.int (63 : Int32)), .val (.ref b65), .val (.int (1 : Int32)), .val (.int (-1 : Int32)), .val (.int (-1 : Int32)), .val (.int (0 : Int32)), .val (.int (5 : Int32)), .unset, .unset] []) _ _ _
            refine Ends.go (fun _ k => XS.iconst X96.here hx rfl (hb hby at_238) k) ?_
            show Ends p e below s T96 (mkF m 239 #[.val (.int p0), .val (.int p1), .val (.int p2), .val (.int p3), .val (.int s4), .val (.int s5), .val (.int s6), .val (.int s7), .val (.int r1), .val (.int r2), .val (.int r3), .val (.int (63 : Int32)), .val (.ref b65), .val (.int (1 : Int32)), .val (.int (-1 : Int32)), .val (.int (-1 : Int32)), .val (.int (0 : Int32)), .val (.int (5 : Int32)), .unset, .unset] [(.int (2 : Int32))]) _ _ _
            refine Ends.go (fun _ k => XS.istore X96.here hx rfl (hb hby at_239) rfl (l' := #[.val (.int p0), .val (.int p1), .val (.int p2), .val (.int p3), .val (.int s4), .val (.int s5), .val (.int s6), .val (.int s7), .val (.int r1), .val (.int r2), .val (.int r3), .val (.int (63 : Int32)), .val (.ref b65), .val (.int (1 : Int32)), .val (.int (-1 : Int32)), .val (.int (-1 : Int32)), .val (.int (2 : Int32)), .val (.int (5 : Int32)), .unset, .unset]) rfl k) ?_
            show Ends p e below s T96 (mkF m 241 #[.val (.int p0), .val (.int p1), .val (.int p2), .val (.int p3), .val (.int s4), .val (.int s5), .val (.int s6), .val (.int s7), .val (.int r1), .val (.int r2), .val (.int r3), .val (.int (63 : Int32)), .val (.ref b65), .val (.int (1 : Int32)), .val (.int (-1 : Int32)), .val (.int (-1 : Int32)), .val (.int (2 : Int32)), .val (.int (5 : Int32)), .unset, .unset] []) _ _ _
            refine Ends.go (fun _ k => XS.goto X96.here hx rfl (pc0 := 241) (pc' := 324) rfl (hb hby at_241) (by decide) (by decide) k) ?_
            show Ends p e below s T96 (mkF m 324 #[.val (.int p0), .val (.int p1), .val (.int p2), .val (.int p3), .val (.int s4), .val (.int s5), .val (.int s6), .val (.int s7), .val (.int r1), .val (.int r2), .val (.int r3), .val (.int (63 : Int32)), .val (.ref b65), .val (.int (1 : Int32)), .val (.int (-1 : Int32)), .val (.int (-1 : Int32)), .val (.int (2 : Int32)), .val (.int (5 : Int32)), .unset, .unset] []) _ _ _
            refine Ends.go (fun _ k => XS.aload X96.here hx rfl (hb hby at_324) rfl rfl k) ?_
            show Ends p e below s T96 (mkF m 326 #[.val (.int p0), .val (.int p1), .val (.int p2), .val (.int p3), .val (.int s4), .val (.int s5), .val (.int s6), .val (.int s7), .val (.int r1), .val (.int r2), .val (.int r3), .val (.int (63 : Int32)), .val (.ref b65), .val (.int (1 : Int32)), .val (.int (-1 : Int32)), .val (.int (-1 : Int32)), .val (.int (2 : Int32)), .val (.int (5 : Int32)), .unset, .unset] [(.ref b65)]) _ _ _
            refine Ends.go (fun _ k => XS.iconst X96.here hx rfl (hb hby at_326) k) ?_
            show Ends p e below s T96 (mkF m 327 #[.val (.int p0), .val (.int p1), .val (.int p2), .val (.int p3), .val (.int s4), .val (.int s5), .val (.int s6), .val (.int s7), .val (.int r1), .val (.int r2), .val (.int r3), .val (.int (63 : Int32)), .val (.ref b65), .val (.int (1 : Int32)), .val (.int (-1 : Int32)), .val (.int (-1 : Int32)), .val (.int (2 : Int32)), .val (.int (5 : Int32)), .unset, .unset] [(.int (5 : Int32)), (.ref b65)]) _ _ _
            refine Ends.go (fun _ k => XS.iload X96.here hx rfl (hb hby at_327) rfl k) ?_
            show Ends p e below s T96 (mkF m 329 #[.val (.int p0), .val (.int p1), .val (.int p2), .val (.int p3), .val (.int s4), .val (.int s5), .val (.int s6), .val (.int s7), .val (.int r1), .val (.int r2), .val (.int r3), .val (.int (63 : Int32)), .val (.ref b65), .val (.int (1 : Int32)), .val (.int (-1 : Int32)), .val (.int (-1 : Int32)), .val (.int (2 : Int32)), .val (.int (5 : Int32)), .unset, .unset] [(.int (63 : Int32)), (.int (5 : Int32)), (.ref b65)]) _ _ _
            obtain ⟨cl97, Ar97, q97, S97, M97, H97, G97⟩ := id V96
            have hin97 := inb_of (j := (5 : Int32)) S97 ⟨by decide, by decide⟩
            obtain ⟨T97, h97, X97, e97, W97, st97⟩ := stC X96 hx hZ e96 Ar97 (j := (5 : Int32)) hin97 (g := (mkF m 329 #[.val (.int p0), .val (.int p1), .val (.int p2), .val (.int p3), .val (.int s4), .val (.int s5), .val (.int s6), .val (.int s7), .val (.int r1), .val (.int r2), .val (.int r3), .val (.int (63 : Int32)), .val (.ref b65), .val (.int (1 : Int32)), .val (.int (-1 : Int32)), .val (.int (-1 : Int32)), .val (.int (2 : Int32)), .val (.int (5 : Int32)), .unset, .unset] [(.int (63 : Int32)), (.int (5 : Int32)), (.ref b65)])) rfl rfl (hb hby at_329)
            refine Ends.go st97 ?_
            have V97 : Arv Z h97 b65 k65 .char (6 : Int32) [(.int (nar .char r1)), (.int (58 : Int32)), (.int (47 : Int32)), (.int (nar .char r2)), (.int (nar .char r3)), (.int (63 : Int32))] (.int (0 : Int32)) := Arv.set Ar97 q97 S97 M97 H97 G97 rfl W97 5 rfl (Nat.le_of_ble_eq_true rfl)
            have K97 := K96.wr W97 (Or.inr sz_b65)
            have O97 := O96.wr W97 g_b65
            have N97 := Fr.snoc X97 N96 g_b65
            show Ends p e below s T97 (mkF m 330 #[.val (.int p0), .val (.int p1), .val (.int p2), .val (.int p3), .val (.int s4), .val (.int s5), .val (.int s6), .val (.int s7), .val (.int r1), .val (.int r2), .val (.int r3), .val (.int (63 : Int32)), .val (.ref b65), .val (.int (1 : Int32)), .val (.int (-1 : Int32)), .val (.int (-1 : Int32)), .val (.int (2 : Int32)), .val (.int (5 : Int32)), .unset, .unset] []) _ _ _
            refine Ends.go (fun _ k => XS.iload X97.here hx rfl (hb hby at_330) rfl k) ?_
            show Ends p e below s T97 (mkF m 332 #[.val (.int p0), .val (.int p1), .val (.int p2), .val (.int p3), .val (.int s4), .val (.int s5), .val (.int s6), .val (.int s7), .val (.int r1), .val (.int r2), .val (.int r3), .val (.int (63 : Int32)), .val (.ref b65), .val (.int (1 : Int32)), .val (.int (-1 : Int32)), .val (.int (-1 : Int32)), .val (.int (2 : Int32)), .val (.int (5 : Int32)), .unset, .unset] [(.int s6)]) _ _ _
            refine Ends.go (fun _ k => XS.ifNo X97.here hx rfl (hb hby at_332) rfl ((if0 _ _).trans (feq (hc73_4 : ¬ (s6 = (0 : Int32)))).1) k) ?_
            show Ends p e below s T97 (mkF m 335 #[.val (.int p0), .val (.int p1), .val (.int p2), .val (.int p3), .val (.int s4), .val (.int s5), .val (.int s6), .val (.int s7), .val (.int r1), .val (.int r2), .val (.int r3), .val (.int (63 : Int32)), .val (.ref b65), .val (.int (1 : Int32)), .val (.int (-1 : Int32)), .val (.int (-1 : Int32)), .val (.int (2 : Int32)), .val (.int (5 : Int32)), .unset, .unset] []) _ _ _
            refine Ends.go (fun _ k => XS.bipush X97.here hx rfl (hb hby at_335) k) ?_
            show Ends p e below s T97 (mkF m 337 #[.val (.int p0), .val (.int p1), .val (.int p2), .val (.int p3), .val (.int s4), .val (.int s5), .val (.int s6), .val (.int s7), .val (.int r1), .val (.int r2), .val (.int r3), .val (.int (63 : Int32)), .val (.ref b65), .val (.int (1 : Int32)), .val (.int (-1 : Int32)), .val (.int (-1 : Int32)), .val (.int (2 : Int32)), .val (.int (5 : Int32)), .unset, .unset] [(.int (6 : Int32))]) _ _ _
            refine Ends.go (fun _ k => XS.goto X97.here hx rfl (pc0 := 337) (pc' := 341) rfl (hb hby at_337) (by decide) (by decide) k) ?_
            show Ends p e below s T97 (mkF m 341 #[.val (.int p0), .val (.int p1), .val (.int p2), .val (.int p3), .val (.int s4), .val (.int s5), .val (.int s6), .val (.int s7), .val (.int r1), .val (.int r2), .val (.int r3), .val (.int (63 : Int32)), .val (.ref b65), .val (.int (1 : Int32)), .val (.int (-1 : Int32)), .val (.int (-1 : Int32)), .val (.int (2 : Int32)), .val (.int (5 : Int32)), .unset, .unset] [(.int (6 : Int32))]) _ _ _
            refine Ends.go (fun _ k => XS.istore X97.here hx rfl (hb hby at_341) rfl (l' := #[.val (.int p0), .val (.int p1), .val (.int p2), .val (.int p3), .val (.int s4), .val (.int s5), .val (.int s6), .val (.int s7), .val (.int r1), .val (.int r2), .val (.int r3), .val (.int (63 : Int32)), .val (.ref b65), .val (.int (1 : Int32)), .val (.int (-1 : Int32)), .val (.int (-1 : Int32)), .val (.int (2 : Int32)), .val (.int (5 : Int32)), .val (.int (6 : Int32)), .unset]) rfl k) ?_
            show Ends p e below s T97 (mkF m 343 #[.val (.int p0), .val (.int p1), .val (.int p2), .val (.int p3), .val (.int s4), .val (.int s5), .val (.int s6), .val (.int s7), .val (.int r1), .val (.int r2), .val (.int r3), .val (.int (63 : Int32)), .val (.ref b65), .val (.int (1 : Int32)), .val (.int (-1 : Int32)), .val (.int (-1 : Int32)), .val (.int (2 : Int32)), .val (.int (5 : Int32)), .val (.int (6 : Int32)), .unset] []) _ _ _
            obtain ⟨T98, h98, X98, e98, E98, A98, D98, -, st98⟩ := newO X97 hx hZ hown (hw _ (List.mem_of_getElem? (i := 6) rfl)) (hw _ (List.mem_of_getElem? (i := 7) rfl)) (hw _ (List.mem_of_getElem? (i := 8) rfl)) e97 (g := (mkF m 343 #[.val (.int p0), .val (.int p1), .val (.int p2), .val (.int p3), .val (.int s4), .val (.int s5), .val (.int s6), .val (.int s7), .val (.int r1), .val (.int r2), .val (.int r3), .val (.int (63 : Int32)), .val (.ref b65), .val (.int (1 : Int32)), .val (.int (-1 : Int32)), .val (.int (-1 : Int32)), .val (.int (2 : Int32)), .val (.int (5 : Int32)), .val (.int (6 : Int32)), .unset] [])) rfl (hb hby at_343) (by decide) (by decide)
            obtain ⟨b98, g98⟩ : ∃ z, z = h97.size := ⟨_, rfl⟩
            rw [← g98] at A98 D98 st98
            refine Ends.go st98 ?_
            have ne_b65_b98 : b65 ≠ b98 := Nat.ne_of_lt (Nat.lt_of_lt_of_le V97.lt (Nat.le_of_eq g98.symm))
            have g_b98 : n0 ≤ b98 := Nat.le_trans (own_old_le O97) (Nat.le_of_eq g98.symm)
            have sz_b98 : h0.size ≤ b98 := Nat.le_trans K97.1 (Nat.le_of_eq g98.symm)
            have K98 := K97.ext E98
            have O98 := O97.ext E98
            have F_mText_b98 : Fld Z h98 b98 "com/example/authority/authority/UriReference" "mText" "Ljava/lang/String;" .null := D98 (Or.inr (hw _ (List.mem_of_getElem? (i := 43) rfl))) (ty := (.object "java/lang/String")) (by decide)
            have F_mSchemeEnd_b98 : Fld Z h98 b98 "com/example/authority/authority/UriReference" "mSchemeEnd" "I" (.int (0 : Int32)) := D98 (Or.inr (hw _ (List.mem_of_getElem? (i := 45) rfl))) (ty := .int) (by decide)
            have F_mHostStart_b98 : Fld Z h98 b98 "com/example/authority/authority/UriReference" "mHostStart" "I" (.int (0 : Int32)) := D98 (Or.inr (hw _ (List.mem_of_getElem? (i := 47) rfl))) (ty := .int) (by decide)
            have F_mHostEnd_b98 : Fld Z h98 b98 "com/example/authority/authority/UriReference" "mHostEnd" "I" (.int (0 : Int32)) := D98 (Or.inr (hw _ (List.mem_of_getElem? (i := 49) rfl))) (ty := .int) (by decide)
            have F_mPathStart_b98 : Fld Z h98 b98 "com/example/authority/authority/UriReference" "mPathStart" "I" (.int (0 : Int32)) := D98 (Or.inr (hw _ (List.mem_of_getElem? (i := 51) rfl))) (ty := .int) (by decide)
            have F_mPathEnd_b98 : Fld Z h98 b98 "com/example/authority/authority/UriReference" "mPathEnd" "I" (.int (0 : Int32)) := D98 (Or.inr (hw _ (List.mem_of_getElem? (i := 53) rfl))) (ty := .int) (by decide)
            have F_mQueryEnd_b98 : Fld Z h98 b98 "com/example/authority/authority/UriReference" "mQueryEnd" "I" (.int (0 : Int32)) := D98 (Or.inr (hw _ (List.mem_of_getElem? (i := 55) rfl))) (ty := .int) (by decide)
            show Ends p e below s T98 (mkF m 346 #[.val (.int p0), .val (.int p1), .val (.int p2), .val (.int p3), .val (.int s4), .val (.int s5), .val (.int s6), .val (.int s7), .val (.int r1), .val (.int r2), .val (.int r3), .val (.int (63 : Int32)), .val (.ref b65), .val (.int (1 : Int32)), .val (.int (-1 : Int32)), .val (.int (-1 : Int32)), .val (.int (2 : Int32)), .val (.int (5 : Int32)), .val (.int (6 : Int32)), .unset] [(.ref b98)]) _ _ _
            refine Ends.go (fun _ k => XS.dup X98.here hx rfl (hb hby at_346) rfl rfl k) ?_
            show Ends p e below s T98 (mkF m 347 #[.val (.int p0), .val (.int p1), .val (.int p2), .val (.int p3), .val (.int s4), .val (.int s5), .val (.int s6), .val (.int s7), .val (.int r1), .val (.int r2), .val (.int r3), .val (.int (63 : Int32)), .val (.ref b65), .val (.int (1 : Int32)), .val (.int (-1 : Int32)), .val (.int (-1 : Int32)), .val (.int (2 : Int32)), .val (.int (5 : Int32)), .val (.int (6 : Int32)), .unset] [(.ref b98), (.ref b98)]) _ _ _
            obtain ⟨T99, h99, X99, e99, E99, A99, D99, -, st99⟩ := newO X98 hx hZ hown (hw _ (List.mem_of_getElem? (i := 9) rfl)) (hw _ (List.mem_of_getElem? (i := 10) rfl)) (hw _ (List.mem_of_getElem? (i := 11) rfl)) e98 (g := (mkF m 347 #[.val (.int p0), .val (.int p1), .val (.int p2), .val (.int p3), .val (.int s4), .val (.int s5), .val (.int s6), .val (.int s7), .val (.int r1), .val (.int r2), .val (.int r3), .val (.int (63 : Int32)), .val (.ref b65), .val (.int (1 : Int32)), .val (.int (-1 : Int32)), .val (.int (-1 : Int32)), .val (.int (2 : Int32)), .val (.int (5 : Int32)), .val (.int (6 : Int32)), .unset] [(.ref b98), (.ref b98)])) rfl (hb hby at_347) (by decide) (by decide)
            obtain ⟨b99, g99⟩ : ∃ z, z = h98.size := ⟨_, rfl⟩
            rw [← g99] at A99 D99 st99
            refine Ends.go st99 ?_
            have ne_b65_b99 : b65 ≠ b99 := Nat.ne_of_lt (Nat.lt_of_lt_of_le (V97.ext E98).lt (Nat.le_of_eq g99.symm))
            have ne_b98_b99 : b98 ≠ b99 := Nat.ne_of_lt (Nat.lt_of_lt_of_le A98.lt (Nat.le_of_eq g99.symm))
            have g_b99 : n0 ≤ b99 := Nat.le_trans (own_old_le O98) (Nat.le_of_eq g99.symm)
            have sz_b99 : h0.size ≤ b99 := Nat.le_trans K98.1 (Nat.le_of_eq g99.symm)
            have K99 := K98.ext E99
            have O99 := O98.ext E99
            have F_coder_b99 : Fld Z h99 b99 "java/lang/String" "coder" "B" (.int (0 : Int32)) := D99 (Or.inr (hw _ (List.mem_of_getElem? (i := 35) rfl))) (ty := .byte) (by decide)
            have F_value_b99 : Fld Z h99 b99 "java/lang/String" "value" "[B" .null := D99 (Or.inr (hw _ (List.mem_of_getElem? (i := 37) rfl))) (ty := (.array .byte)) (by decide)
            show Ends p e below s T99 (mkF m 350 #[.val (.int p0), .val (.int p1), .val (.int p2), .val (.int p3), .val (.int s4), .val (.int s5), .val (.int s6), .val (.int s7), .val (.int r1), .val (.int r2), .val (.int r3), .val (.int (63 : Int32)), .val (.ref b65), .val (.int (1 : Int32)), .val (.int (-1 : Int32)), .val (.int (-1 : Int32)), .val (.int (2 : Int32)), .val (.int (5 : Int32)), .val (.int (6 : Int32)), .unset] [(.ref b99), (.ref b98), (.ref b98)]) _ _ _
            refine Ends.go (fun _ k => XS.dup X99.here hx rfl (hb hby at_350) rfl rfl k) ?_
            show Ends p e below s T99 (mkF m 351 #[.val (.int p0), .val (.int p1), .val (.int p2), .val (.int p3), .val (.int s4), .val (.int s5), .val (.int s6), .val (.int s7), .val (.int r1), .val (.int r2), .val (.int r3), .val (.int (63 : Int32)), .val (.ref b65), .val (.int (1 : Int32)), .val (.int (-1 : Int32)), .val (.int (-1 : Int32)), .val (.int (2 : Int32)), .val (.int (5 : Int32)), .val (.int (6 : Int32)), .unset] [(.ref b99), (.ref b99), (.ref b98), (.ref b98)]) _ _ _
            refine Ends.go (fun _ k => XS.aload X99.here hx rfl (hb hby at_351) rfl rfl k) ?_
            show Ends p e below s T99 (mkF m 353 #[.val (.int p0), .val (.int p1), .val (.int p2), .val (.int p3), .val (.int s4), .val (.int s5), .val (.int s6), .val (.int s7), .val (.int r1), .val (.int r2), .val (.int r3), .val (.int (63 : Int32)), .val (.ref b65), .val (.int (1 : Int32)), .val (.int (-1 : Int32)), .val (.int (-1 : Int32)), .val (.int (2 : Int32)), .val (.int (5 : Int32)), .val (.int (6 : Int32)), .unset] [(.ref b65), (.ref b99), (.ref b99), (.ref b98), (.ref b98)]) _ _ _
            have hp100 : ∀ c ∈ ([(nar .char r1), (58 : Int32), (47 : Int32), (nar .char r2), (nar .char r3), (63 : Int32)] : List Int32), ¬ c < 0 ∧ ¬ (255 : Int32) < c := by
              intro c hc
              simp only [List.mem_cons, List.not_mem_nil, or_false] at hc
              rcases hc with rfl | rfl | rfl | rfl | rfl | rfl
              · exact own_nar hr1
              · exact (by decide)
              · exact (by decide)
              · exact own_nar hr2
              · exact own_nar hr3
              · exact (by decide)
            obtain ⟨_, _, ⟨T100, L100, k100, n100⟩, -, X100, ⟨Lc100, hQ100, l100, y100, z100⟩, st100⟩ := X99.specialBack hx (y := (⟨"java/lang/String", "<init>", "([C)V"⟩ : MethodName)) rfl hown (mvT hZ (hw _ (List.mem_of_getElem? (i := 12) rfl))) (mvT hZ (hw _ (List.mem_of_getElem? (i := 13) rfl))) (mvT hZ (hw _ (List.mem_of_getElem? (i := 14) rfl))) (by decide) (StrChars.Road.backV (W := 3) hZ hws (kI := 4) (hw _ (List.mem_of_getElem? (i := 10) rfl)) (cs := ([(nar .char r1), (58 : Int32), (47 : Int32), (nar .char r2), (nar .char r3), (63 : Int32)] : List Int32)) (bs := ([(nar .char r1), (58 : Int32), (47 : Int32), (nar .char r2), (nar .char r3), (63 : Int32)] : List Int32).map (fun c => c.toInt8.toInt32)) (n := 6) g_b99 (own_old_le O99) A99 F_value_b99 F_coder_b99 ((V97.ext E98).ext E99) (O2.ext O99.2) P5 rfl rfl (by decide) (by decide) hp100 rfl (by decide) (by decide)) (g := (mkF m 353 #[.val (.int p0), .val (.int p1), .val (.int p2), .val (.int p3), .val (.int s4), .val (.int s5), .val (.int s6), .val (.int s7), .val (.int r1), .val (.int r2), .val (.int r3), .val (.int (63 : Int32)), .val (.ref b65), .val (.int (1 : Int32)), .val (.int (-1 : Int32)), .val (.int (-1 : Int32)), .val (.int (2 : Int32)), .val (.int (5 : Int32)), .val (.int (6 : Int32)), .unset] [(.ref b65), (.ref b99), (.ref b99), (.ref b98), (.ref b98)])) rfl (by rw [hml]; rfl) (Steps.refl _) (a := b99) (argsL := [(.ref b65)]) (rest := [(.ref b99), (.ref b98), (.ref b98)]) (lenOf pd0_1 rfl) rfl (by show 2 * 0 + _ ≤ _; exact Nat.le_of_eq rfl) (hb hby at_353) (fun _ _ => ⟨rfl, e99, (by decide : 3 + 1 ≤ _), (by decide : 17 + 6 ≤ _)⟩)
            dsimp only [Pt.U, Pt.locs, Pt.cells, Pt.slots] at X100 l100 y100 z100 st100 hQ100
            subst l100 y100 z100
            obtain ⟨rfl, N100q, K100c, Eq100, Cq100, t100, kb100, -, ht100, ht100', Vq100, Aq100⟩ := hQ100
            have N100 := Fr.app N97 N100q
            refine Ends.go (fun _ k => st100.trans k) ?_
            have ne_b65_t100 : b65 ≠ t100 := Nat.ne_of_lt (Nat.lt_of_lt_of_le ((V97.ext E98).ext E99).lt ht100)
            have ne_b98_t100 : b98 ≠ t100 := Nat.ne_of_lt (Nat.lt_of_lt_of_le (A98.ext E99).lt ht100)
            have ne_b99_t100 : b99 ≠ t100 := Nat.ne_of_lt (Nat.lt_of_lt_of_le A99.lt ht100)
            have g_t100 : n0 ≤ t100 := Nat.le_trans (own_old_le O99) ht100
            have sz_t100 : h0.size ≤ t100 := Nat.le_trans K99.1 ht100
            obtain ⟨h100, e100⟩ : ∃ z, T100.heap = z := ⟨_, rfl⟩
            rw [e100] at K100c Eq100 Cq100 Vq100 Aq100
            have K100 := K99.trans K100c (allS (Or.inr sz_b99) all0)
            have O100 := O99.keep K100c (allS g_b99 all0)
            show Ends p e below s T100 (mkF m 356 #[.val (.int p0), .val (.int p1), .val (.int p2), .val (.int p3), .val (.int s4), .val (.int s5), .val (.int s6), .val (.int s7), .val (.int r1), .val (.int r2), .val (.int r3), .val (.int (63 : Int32)), .val (.ref b65), .val (.int (1 : Int32)), .val (.int (-1 : Int32)), .val (.int (-1 : Int32)), .val (.int (2 : Int32)), .val (.int (5 : Int32)), .val (.int (6 : Int32)), .unset] [(.ref b99), (.ref b98), (.ref b98)]) _ _ _
            refine Ends.go (fun _ k => XS.iload X100.here hx rfl (hb hby at_356) rfl k) ?_
            show Ends p e below s T100 (mkF m 358 #[.val (.int p0), .val (.int p1), .val (.int p2), .val (.int p3), .val (.int s4), .val (.int s5), .val (.int s6), .val (.int s7), .val (.int r1), .val (.int r2), .val (.int r3), .val (.int (63 : Int32)), .val (.ref b65), .val (.int (1 : Int32)), .val (.int (-1 : Int32)), .val (.int (-1 : Int32)), .val (.int (2 : Int32)), .val (.int (5 : Int32)), .val (.int (6 : Int32)), .unset] [(.int (1 : Int32)), (.ref b99), (.ref b98), (.ref b98)]) _ _ _
            refine Ends.go (fun _ k => XS.iload X100.here hx rfl (hb hby at_358) rfl k) ?_
            show Ends p e below s T100 (mkF m 360 #[.val (.int p0), .val (.int p1), .val (.int p2), .val (.int p3), .val (.int s4), .val (.int s5), .val (.int s6), .val (.int s7), .val (.int r1), .val (.int r2), .val (.int r3), .val (.int (63 : Int32)), .val (.ref b65), .val (.int (1 : Int32)), .val (.int (-1 : Int32)), .val (.int (-1 : Int32)), .val (.int (2 : Int32)), .val (.int (5 : Int32)), .val (.int (6 : Int32)), .unset] [(.int (-1 : Int32)), (.int (1 : Int32)), (.ref b99), (.ref b98), (.ref b98)]) _ _ _
            refine Ends.go (fun _ k => XS.iload X100.here hx rfl (hb hby at_360) rfl k) ?_
            show Ends p e below s T100 (mkF m 362 #[.val (.int p0), .val (.int p1), .val (.int p2), .val (.int p3), .val (.int s4), .val (.int s5), .val (.int s6), .val (.int s7), .val (.int r1), .val (.int r2), .val (.int r3), .val (.int (63 : Int32)), .val (.ref b65), .val (.int (1 : Int32)), .val (.int (-1 : Int32)), .val (.int (-1 : Int32)), .val (.int (2 : Int32)), .val (.int (5 : Int32)), .val (.int (6 : Int32)), .unset] [(.int (-1 : Int32)), (.int (-1 : Int32)), (.int (1 : Int32)), (.ref b99), (.ref b98), (.ref b98)]) _ _ _
            refine Ends.go (fun _ k => XS.iload X100.here hx rfl (hb hby at_362) rfl k) ?_
            show Ends p e below s T100 (mkF m 364 #[.val (.int p0), .val (.int p1), .val (.int p2), .val (.int p3), .val (.int s4), .val (.int s5), .val (.int s6), .val (.int s7), .val (.int r1), .val (.int r2), .val (.int r3), .val (.int (63 : Int32)), .val (.ref b65), .val (.int (1 : Int32)), .val (.int (-1 : Int32)), .val (.int (-1 : Int32)), .val (.int (2 : Int32)), .val (.int (5 : Int32)), .val (.int (6 : Int32)), .unset] [(.int (2 : Int32)), (.int (-1 : Int32)), (.int (-1 : Int32)), (.int (1 : Int32)), (.ref b99), (.ref b98), (.ref b98)]) _ _ _
            refine Ends.go (fun _ k => XS.iload X100.here hx rfl (hb hby at_364) rfl k) ?_
            show Ends p e below s T100 (mkF m 366 #[.val (.int p0), .val (.int p1), .val (.int p2), .val (.int p3), .val (.int s4), .val (.int s5), .val (.int s6), .val (.int s7), .val (.int r1), .val (.int r2), .val (.int r3), .val (.int (63 : Int32)), .val (.ref b65), .val (.int (1 : Int32)), .val (.int (-1 : Int32)), .val (.int (-1 : Int32)), .val (.int (2 : Int32)), .val (.int (5 : Int32)), .val (.int (6 : Int32)), .unset] [(.int (5 : Int32)), (.int (2 : Int32)), (.int (-1 : Int32)), (.int (-1 : Int32)), (.int (1 : Int32)), (.ref b99), (.ref b98), (.ref b98)]) _ _ _
            refine Ends.go (fun _ k => XS.iload X100.here hx rfl (hb hby at_366) rfl k) ?_
            show Ends p e below s T100 (mkF m 368 #[.val (.int p0), .val (.int p1), .val (.int p2), .val (.int p3), .val (.int s4), .val (.int s5), .val (.int s6), .val (.int s7), .val (.int r1), .val (.int r2), .val (.int r3), .val (.int (63 : Int32)), .val (.ref b65), .val (.int (1 : Int32)), .val (.int (-1 : Int32)), .val (.int (-1 : Int32)), .val (.int (2 : Int32)), .val (.int (5 : Int32)), .val (.int (6 : Int32)), .unset] [(.int (6 : Int32)), (.int (5 : Int32)), (.int (2 : Int32)), (.int (-1 : Int32)), (.int (-1 : Int32)), (.int (1 : Int32)), (.ref b99), (.ref b98), (.ref b98)]) _ _ _
            obtain ⟨_, _, ⟨T101, L101, k101, n101⟩, -, X101, ⟨Lc101, hQ101, l101, y101, z101⟩, st101⟩ := X100.specialBack hx (y := (⟨"com/example/authority/authority/UriReference", "<init>", "(Ljava/lang/String;IIIIII)V"⟩ : MethodName)) rfl hown (mvT hZ (hw _ (List.mem_of_getElem? (i := 38) rfl))) (mvT hZ (hw _ (List.mem_of_getElem? (i := 39) rfl))) (mvT hZ (hw _ (List.mem_of_getElem? (i := 40) rfl))) (by decide) (own_backOf (W := 1) (rmI l Z a0 hw [] n0 h100 O100 b98 b99 (1 : Int32) (-1 : Int32) (-1 : Int32) (2 : Int32) (5 : Int32) (6 : Int32) g_b98 ((A98.ext E99).keep K100c) ((F_mText_b98.ext E99).keep K100c (ninS ne_b98_b99 nin0)) ((F_mSchemeEnd_b98.ext E99).keep K100c (ninS ne_b98_b99 nin0)) ((F_mHostStart_b98.ext E99).keep K100c (ninS ne_b98_b99 nin0)) ((F_mHostEnd_b98.ext E99).keep K100c (ninS ne_b98_b99 nin0)) ((F_mPathStart_b98.ext E99).keep K100c (ninS ne_b98_b99 nin0)) ((F_mPathEnd_b98.ext E99).keep K100c (ninS ne_b98_b99 nin0)) ((F_mQueryEnd_b98.ext E99).keep K100c (ninS ne_b98_b99 nin0))) hZ (hw _ (List.mem_of_getElem? (i := 40) rfl)) (hw _ (List.mem_of_getElem? (i := 8) rfl)) (by decide) (by decide)) (g := (mkF m 368 #[.val (.int p0), .val (.int p1), .val (.int p2), .val (.int p3), .val (.int s4), .val (.int s5), .val (.int s6), .val (.int s7), .val (.int r1), .val (.int r2), .val (.int r3), .val (.int (63 : Int32)), .val (.ref b65), .val (.int (1 : Int32)), .val (.int (-1 : Int32)), .val (.int (-1 : Int32)), .val (.int (2 : Int32)), .val (.int (5 : Int32)), .val (.int (6 : Int32)), .unset] [(.int (6 : Int32)), (.int (5 : Int32)), (.int (2 : Int32)), (.int (-1 : Int32)), (.int (-1 : Int32)), (.int (1 : Int32)), (.ref b99), (.ref b98), (.ref b98)])) rfl (by rw [hml]; rfl) (Steps.refl _) (a := b98) (argsL := [(.ref b99), (.int (1 : Int32)), (.int (-1 : Int32)), (.int (-1 : Int32)), (.int (2 : Int32)), (.int (5 : Int32)), (.int (6 : Int32))]) (rest := [(.ref b98)]) (lenOf pd0_2 rfl) rfl (by show 2 * 0 + _ ≤ _; exact Nat.le_of_eq rfl) (hb hby at_368) (fun _ _ => ⟨rfl, e100, (by decide : 4 + 0 ≤ _), (by decide : 23 + 0 ≤ _)⟩)
            dsimp only [Pt.U, Pt.locs, Pt.cells, Pt.slots] at X101 l101 y101 z101 st101 hQ101
            subst l101 y101 z101
            obtain ⟨rfl, N101q, K101c, Eq101, Fq101_mText, Fq101_mSchemeEnd, Fq101_mHostStart, Fq101_mHostEnd, Fq101_mPathStart, Fq101_mPathEnd, Fq101_mQueryEnd⟩ := hQ101
            have N101 := Fr.app N100 N101q
            refine Ends.go (fun _ k => st101.trans k) ?_
            obtain ⟨h101, e101⟩ : ∃ z, T101.heap = z := ⟨_, rfl⟩
            rw [e101] at K101c Eq101 Fq101_mText Fq101_mSchemeEnd Fq101_mHostStart Fq101_mHostEnd Fq101_mPathStart Fq101_mPathEnd Fq101_mQueryEnd
            have K101 := K100.trans K101c (allS (Or.inr sz_b98) all0)
            have O101 := O100.keep K101c (allS g_b98 all0)
            show Ends p e below s T101 (mkF m 371 #[.val (.int p0), .val (.int p1), .val (.int p2), .val (.int p3), .val (.int s4), .val (.int s5), .val (.int s6), .val (.int s7), .val (.int r1), .val (.int r2), .val (.int r3), .val (.int (63 : Int32)), .val (.ref b65), .val (.int (1 : Int32)), .val (.int (-1 : Int32)), .val (.int (-1 : Int32)), .val (.int (2 : Int32)), .val (.int (5 : Int32)), .val (.int (6 : Int32)), .unset] [(.ref b98)]) _ _ _
            refine Ends.go (fun _ k => XS.astore X101.here hx rfl (hb hby at_371) rfl rfl (l' := #[.val (.int p0), .val (.int p1), .val (.int p2), .val (.int p3), .val (.int s4), .val (.int s5), .val (.int s6), .val (.int s7), .val (.int r1), .val (.int r2), .val (.int r3), .val (.int (63 : Int32)), .val (.ref b65), .val (.int (1 : Int32)), .val (.int (-1 : Int32)), .val (.int (-1 : Int32)), .val (.int (2 : Int32)), .val (.int (5 : Int32)), .val (.int (6 : Int32)), .val (.ref b98)]) rfl k) ?_
            show Ends p e below s T101 (mkF m 373 #[.val (.int p0), .val (.int p1), .val (.int p2), .val (.int p3), .val (.int s4), .val (.int s5), .val (.int s6), .val (.int s7), .val (.int r1), .val (.int r2), .val (.int r3), .val (.int (63 : Int32)), .val (.ref b65), .val (.int (1 : Int32)), .val (.int (-1 : Int32)), .val (.int (-1 : Int32)), .val (.int (2 : Int32)), .val (.int (5 : Int32)), .val (.int (6 : Int32)), .val (.ref b98)] []) _ _ _
            refine Ends.go (fun _ k => XS.aload X101.here hx rfl (hb hby at_373) rfl rfl k) ?_
            show Ends p e below s T101 (mkF m 375 #[.val (.int p0), .val (.int p1), .val (.int p2), .val (.int p3), .val (.int s4), .val (.int s5), .val (.int s6), .val (.int s7), .val (.int r1), .val (.int r2), .val (.int r3), .val (.int (63 : Int32)), .val (.ref b65), .val (.int (1 : Int32)), .val (.int (-1 : Int32)), .val (.int (-1 : Int32)), .val (.int (2 : Int32)), .val (.int (5 : Int32)), .val (.int (6 : Int32)), .val (.ref b98)] [(.ref b98)]) _ _ _
            obtain ⟨cq102, kq102, q102a, q102b, q102c⟩ := isOf hZ e101 Eq101
            obtain ⟨_, _, ⟨T102, L102, k102, n102⟩, -, X102, ⟨Lc102, hQ102, l102, y102, z102⟩, st102⟩ := X101.virtualBack hx (y := (⟨"com/example/authority/authority/UriReference", "isUri", "()Z"⟩ : MethodName)) (z := (⟨"com/example/authority/authority/UriReference", "isUri", "()Z"⟩ : MethodName)) hown (mvT hZ (hw _ (List.mem_of_getElem? (i := 56) rfl))) (mvT hZ (hw _ (List.mem_of_getElem? (i := 57) rfl))) (notFace_of_selects (args := #[]) (mvT hZ (hw _ (List.mem_of_getElem? (i := 59) rfl)))) (mvT hZ (hw _ (List.mem_of_getElem? (i := 59) rfl))) (mvT hZ (hw _ (List.mem_of_getElem? (i := 58) rfl))) (by decide) (own_backOf (W := 0) (rmQ l Z a0 hw [] n0 h101 O101 b98 (1 : Int32) Fq101_mSchemeEnd (1 : Int32) (by decide)) hZ (hw _ (List.mem_of_getElem? (i := 60) rfl)) (hw _ (List.mem_of_getElem? (i := 8) rfl)) (by decide) (by decide)) q102a q102c (g := (mkF m 375 #[.val (.int p0), .val (.int p1), .val (.int p2), .val (.int p3), .val (.int s4), .val (.int s5), .val (.int s6), .val (.int s7), .val (.int r1), .val (.int r2), .val (.int r3), .val (.int (63 : Int32)), .val (.ref b65), .val (.int (1 : Int32)), .val (.int (-1 : Int32)), .val (.int (-1 : Int32)), .val (.int (2 : Int32)), .val (.int (5 : Int32)), .val (.int (6 : Int32)), .val (.ref b98)] [(.ref b98)])) rfl (by rw [hml]; rfl) (Steps.refl _) (argsL := []) (rest := []) (lenOf pd0_3 rfl) rfl (by show 2 * 0 + _ ≤ _; exact Nat.le_of_eq rfl) (hb hby at_375) (fun _ _ => ⟨rfl, e101, (by decide : 4 + 0 ≤ _), (by decide : 23 + 0 ≤ _)⟩)
            dsimp only [Pt.U, Pt.locs, Pt.cells, Pt.slots] at X102 l102 y102 z102 st102 hQ102
            subst l102 y102 z102
            obtain ⟨rfl, N102q, e102q⟩ := hQ102
            have N102 := Fr.app N101 N102q
            refine Ends.go (fun _ k => st102.trans k) ?_
            show Ends p e below s T102 (mkF m 378 #[.val (.int p0), .val (.int p1), .val (.int p2), .val (.int p3), .val (.int s4), .val (.int s5), .val (.int s6), .val (.int s7), .val (.int r1), .val (.int r2), .val (.int r3), .val (.int (63 : Int32)), .val (.ref b65), .val (.int (1 : Int32)), .val (.int (-1 : Int32)), .val (.int (-1 : Int32)), .val (.int (2 : Int32)), .val (.int (5 : Int32)), .val (.int (6 : Int32)), .val (.ref b98)] [(.int (1 : Int32))]) _ _ _
            refine Ends.go (fun _ k => XS.iload X102.here hx rfl (hb hby at_378) rfl k) ?_
            show Ends p e below s T102 (mkF m 380 #[.val (.int p0), .val (.int p1), .val (.int p2), .val (.int p3), .val (.int s4), .val (.int s5), .val (.int s6), .val (.int s7), .val (.int r1), .val (.int r2), .val (.int r3), .val (.int (63 : Int32)), .val (.ref b65), .val (.int (1 : Int32)), .val (.int (-1 : Int32)), .val (.int (-1 : Int32)), .val (.int (2 : Int32)), .val (.int (5 : Int32)), .val (.int (6 : Int32)), .val (.ref b98)] [(.int s4), (.int (1 : Int32))]) _ _ _
            refine Ends.go (fun _ k => XS.icmpNo X102.here hx rfl (hb hby at_380) rfl (teq ((h4.resolve_left hc108_66).symm : (1 : Int32) = s4)).2 k) ?_
            show Ends p e below s T102 (mkF m 383 #[.val (.int p0), .val (.int p1), .val (.int p2), .val (.int p3), .val (.int s4), .val (.int s5), .val (.int s6), .val (.int s7), .val (.int r1), .val (.int r2), .val (.int r3), .val (.int (63 : Int32)), .val (.ref b65), .val (.int (1 : Int32)), .val (.int (-1 : Int32)), .val (.int (-1 : Int32)), .val (.int (2 : Int32)), .val (.int (5 : Int32)), .val (.int (6 : Int32)), .val (.ref b98)] []) _ _ _
            refine Ends.go (fun _ k => XS.iconst X102.here hx rfl (hb hby at_383) k) ?_
            show Ends p e below s T102 (mkF m 384 #[.val (.int p0), .val (.int p1), .val (.int p2), .val (.int p3), .val (.int s4), .val (.int s5), .val (.int s6), .val (.int s7), .val (.int r1), .val (.int r2), .val (.int r3), .val (.int (63 : Int32)), .val (.ref b65), .val (.int (1 : Int32)), .val (.int (-1 : Int32)), .val (.int (-1 : Int32)), .val (.int (2 : Int32)), .val (.int (5 : Int32)), .val (.int (6 : Int32)), .val (.ref b98)] [(.int (1 : Int32))]) _ _ _
            refine Ends.go (fun _ k => XS.goto X102.here hx rfl (pc0 := 384) (pc' := 388) rfl (hb hby at_384) (by decide) (by decide) k) ?_
            show Ends p e below s T102 (mkF m 388 #[.val (.int p0), .val (.int p1), .val (.int p2), .val (.int p3), .val (.int s4), .val (.int s5), .val (.int s6), .val (.int s7), .val (.int r1), .val (.int r2), .val (.int r3), .val (.int (63 : Int32)), .val (.ref b65), .val (.int (1 : Int32)), .val (.int (-1 : Int32)), .val (.int (-1 : Int32)), .val (.int (2 : Int32)), .val (.int (5 : Int32)), .val (.int (6 : Int32)), .val (.ref b98)] [(.int (1 : Int32))]) _ _ _
            refine Ends.retZ X102 hx Bd.notSynchronized (t := .boolean) Bd.returns (by simp) (hb hby at_388) (by decide) (by decide) ?_
            exact ⟨rfl, N102⟩
          · refine Ends.go (fun _ k => XS.ifNo X65.here hx rfl (hb hby at_163) rfl ((if0 _ _).trans (feq hc163_91).1) k) ?_
            show Ends p e below s T65 (mkF m 166 #[.val (.int p0), .val (.int p1), .val (.int p2), .val (.int p3), .val (.int s4), .val (.int s5), .val (.int s6), .val (.int s7), .val (.int r1), .val (.int r2), .val (.int r3), .val (.int (63 : Int32)), .val (.ref b65), .val (.int (-1 : Int32)), .val (.int (-1 : Int32)), .val (.int (-1 : Int32)), .val (.int (0 : Int32)), .val (.int (5 : Int32)), .unset, .unset] []) _ _ _
            refine Ends.go (fun _ k => XS.aload X65.here hx rfl (hb hby at_166) rfl rfl k) ?_
            show Ends p e below s T65 (mkF m 168 #[.val (.int p0), .val (.int p1), .val (.int p2), .val (.int p3), .val (.int s4), .val (.int s5), .val (.int s6), .val (.int s7), .val (.int r1), .val (.int r2), .val (.int r3), .val (.int (63 : Int32)), .val (.ref b65), .val (.int (-1 : Int32)), .val (.int (-1 : Int32)), .val (.int (-1 : Int32)), .val (.int (0 : Int32)), .val (.int (5 : Int32)), .unset, .unset] [(.ref b65)]) _ _ _
            refine Ends.go (fun _ k => XS.iconst X65.here hx rfl (hb hby at_168) k) ?_
            show Ends p e below s T65 (mkF m 169 #[.val (.int p0), .val (.int p1), .val (.int p2), .val (.int p3), .val (.int s4), .val (.int s5), .val (.int s6), .val (.int s7), .val (.int r1), .val (.int r2), .val (.int r3), .val (.int (63 : Int32)), .val (.ref b65), .val (.int (-1 : Int32)), .val (.int (-1 : Int32)), .val (.int (-1 : Int32)), .val (.int (0 : Int32)), .val (.int (5 : Int32)), .unset, .unset] [(.int (0 : Int32)), (.ref b65)]) _ _ _
            refine Ends.go (fun _ k => XS.iload X65.here hx rfl (hb hby at_169) rfl k) ?_
            show Ends p e below s T65 (mkF m 171 #[.val (.int p0), .val (.int p1), .val (.int p2), .val (.int p3), .val (.int s4), .val (.int s5), .val (.int s6), .val (.int s7), .val (.int r1), .val (.int r2), .val (.int r3), .val (.int (63 : Int32)), .val (.ref b65), .val (.int (-1 : Int32)), .val (.int (-1 : Int32)), .val (.int (-1 : Int32)), .val (.int (0 : Int32)), .val (.int (5 : Int32)), .unset, .unset] [(.int r1), (.int (0 : Int32)), (.ref b65)]) _ _ _
            obtain ⟨cl103, Ar103, q103, S103, M103, H103, G103⟩ := id V_b65
            have hin103 := inb_of (j := (0 : Int32)) S103 ⟨by decide, by decide⟩
            obtain ⟨T103, h103, X103, e103, W103, st103⟩ := stC X65 hx hZ e65 Ar103 (j := (0 : Int32)) hin103 (g := (mkF m 171 #[.val (.int p0), .val (.int p1), .val (.int p2), .val (.int p3), .val (.int s4), .val (.int s5), .val (.int s6), .val (.int s7), .val (.int r1), .val (.int r2), .val (.int r3), .val (.int (63 : Int32)), .val (.ref b65), .val (.int (-1 : Int32)), .val (.int (-1 : Int32)), .val (.int (-1 : Int32)), .val (.int (0 : Int32)), .val (.int (5 : Int32)), .unset, .unset] [(.int r1), (.int (0 : Int32)), (.ref b65)])) rfl rfl (hb hby at_171)
            refine Ends.go st103 ?_
            have V103 : Arv Z h103 b65 k65 .char (6 : Int32) [(.int (nar .char r1)), (.int (0 : Int32)), (.int (0 : Int32)), (.int (0 : Int32)), (.int (0 : Int32)), (.int (0 : Int32))] (.int (0 : Int32)) := Arv.set Ar103 q103 S103 M103 H103 G103 (fits_nar_char _) W103 0 rfl (Nat.le_of_ble_eq_true rfl)
            have K103 := K65.wr W103 (Or.inr sz_b65)
            have O103 := O65.wr W103 g_b65
            have N103 := Fr.snoc X103 N3 g_b65
            show Ends p e below s T103 (mkF m 172 #[.val (.int p0), .val (.int p1), .val (.int p2), .val (.int p3), .val (.int s4), .val (.int s5), .val (.int s6), .val (.int s7), .val (.int r1), .val (.int r2), .val (.int r3), .val (.int (63 : Int32)), .val (.ref b65), .val (.int (-1 : Int32)), .val (.int (-1 : Int32)), .val (.int (-1 : Int32)), .val (.int (0 : Int32)), .val (.int (5 : Int32)), .unset, .unset] []) _ _ _
            refine Ends.go (fun _ k => XS.aload X103.here hx rfl (hb hby at_172) rfl rfl k) ?_
            show Ends p e below s T103 (mkF m 174 #[.val (.int p0), .val (.int p1), .val (.int p2), .val (.int p3), .val (.int s4), .val (.int s5), .val (.int s6), .val (.int s7), .val (.int r1), .val (.int r2), .val (.int r3), .val (.int (63 : Int32)), .val (.ref b65), .val (.int (-1 : Int32)), .val (.int (-1 : Int32)), .val (.int (-1 : Int32)), .val (.int (0 : Int32)), .val (.int (5 : Int32)), .unset, .unset] [(.ref b65)]) _ _ _
            refine Ends.go (fun _ k => XS.iconst X103.here hx rfl (hb hby at_174) k) ?_
            show Ends p e below s T103 (mkF m 175 #[.val (.int p0), .val (.int p1), .val (.int p2), .val (.int p3), .val (.int s4), .val (.int s5), .val (.int s6), .val (.int s7), .val (.int r1), .val (.int r2), .val (.int r3), .val (.int (63 : Int32)), .val (.ref b65), .val (.int (-1 : Int32)), .val (.int (-1 : Int32)), .val (.int (-1 : Int32)), .val (.int (0 : Int32)), .val (.int (5 : Int32)), .unset, .unset] [(.int (1 : Int32)), (.ref b65)]) _ _ _
            refine Ends.go (fun _ k => XS.iload X103.here hx rfl (hb hby at_175) rfl k) ?_
            show Ends p e below s T103 (mkF m 177 #[.val (.int p0), .val (.int p1), .val (.int p2), .val (.int p3), .val (.int s4), .val (.int s5), .val (.int s6), .val (.int s7), .val (.int r1), .val (.int r2), .val (.int r3), .val (.int (63 : Int32)), .val (.ref b65), .val (.int (-1 : Int32)), .val (.int (-1 : Int32)), .val (.int (-1 : Int32)), .val (.int (0 : Int32)), .val (.int (5 : Int32)), .unset, .unset] [(.int r2), (.int (1 : Int32)), (.ref b65)]) _ _ _
            obtain ⟨cl104, Ar104, q104, S104, M104, H104, G104⟩ := id V103
            have hin104 := inb_of (j := (1 : Int32)) S104 ⟨by decide, by decide⟩
            obtain ⟨T104, h104, X104, e104, W104, st104⟩ := stC X103 hx hZ e103 Ar104 (j := (1 : Int32)) hin104 (g := (mkF m 177 #[.val (.int p0), .val (.int p1), .val (.int p2), .val (.int p3), .val (.int s4), .val (.int s5), .val (.int s6), .val (.int s7), .val (.int r1), .val (.int r2), .val (.int r3), .val (.int (63 : Int32)), .val (.ref b65), .val (.int (-1 : Int32)), .val (.int (-1 : Int32)), .val (.int (-1 : Int32)), .val (.int (0 : Int32)), .val (.int (5 : Int32)), .unset, .unset] [(.int r2), (.int (1 : Int32)), (.ref b65)])) rfl rfl (hb hby at_177)
            refine Ends.go st104 ?_
            have V104 : Arv Z h104 b65 k65 .char (6 : Int32) [(.int (nar .char r1)), (.int (nar .char r2)), (.int (0 : Int32)), (.int (0 : Int32)), (.int (0 : Int32)), (.int (0 : Int32))] (.int (0 : Int32)) := Arv.set Ar104 q104 S104 M104 H104 G104 (fits_nar_char _) W104 1 rfl (Nat.le_of_ble_eq_true rfl)
            have K104 := K103.wr W104 (Or.inr sz_b65)
            have O104 := O103.wr W104 g_b65
            have N104 := Fr.snoc X104 N103 g_b65
            show Ends p e below s T104 (mkF m 178 #[.val (.int p0), .val (.int p1), .val (.int p2), .val (.int p3), .val (.int s4), .val (.int s5), .val (.int s6), .val (.int s7), .val (.int r1), .val (.int r2), .val (.int r3), .val (.int (63 : Int32)), .val (.ref b65), .val (.int (-1 : Int32)), .val (.int (-1 : Int32)), .val (.int (-1 : Int32)), .val (.int (0 : Int32)), .val (.int (5 : Int32)), .unset, .unset] []) _ _ _
            refine Ends.go (fun _ k => XS.aload X104.here hx rfl (hb hby at_178) rfl rfl k) ?_
            show Ends p e below s T104 (mkF m 180 #[.val (.int p0), .val (.int p1), .val (.int p2), .val (.int p3), .val (.int s4), .val (.int s5), .val (.int s6), .val (.int s7), .val (.int r1), .val (.int r2), .val (.int r3), .val (.int (63 : Int32)), .val (.ref b65), .val (.int (-1 : Int32)), .val (.int (-1 : Int32)), .val (.int (-1 : Int32)), .val (.int (0 : Int32)), .val (.int (5 : Int32)), .unset, .unset] [(.ref b65)]) _ _ _
            refine Ends.go (fun _ k => XS.iconst X104.here hx rfl (hb hby at_180) k) ?_
            show Ends p e below s T104 (mkF m 181 #[.val (.int p0), .val (.int p1), .val (.int p2), .val (.int p3), .val (.int s4), .val (.int s5), .val (.int s6), .val (.int s7), .val (.int r1), .val (.int r2), .val (.int r3), .val (.int (63 : Int32)), .val (.ref b65), .val (.int (-1 : Int32)), .val (.int (-1 : Int32)), .val (.int (-1 : Int32)), .val (.int (0 : Int32)), .val (.int (5 : Int32)), .unset, .unset] [(.int (2 : Int32)), (.ref b65)]) _ _ _
            refine Ends.go (fun _ k => XS.bipush X104.here hx rfl (hb hby at_181) k) ?_
            show Ends p e below s T104 (mkF m 183 #[.val (.int p0), .val (.int p1), .val (.int p2), .val (.int p3), .val (.int s4), .val (.int s5), .val (.int s6), .val (.int s7), .val (.int r1), .val (.int r2), .val (.int r3), .val (.int (63 : Int32)), .val (.ref b65), .val (.int (-1 : Int32)), .val (.int (-1 : Int32)), .val (.int (-1 : Int32)), .val (.int (0 : Int32)), .val (.int (5 : Int32)), .unset, .unset] [(.int (58 : Int32)), (.int (2 : Int32)), (.ref b65)]) _ _ _
            obtain ⟨cl105, Ar105, q105, S105, M105, H105, G105⟩ := id V104
            have hin105 := inb_of (j := (2 : Int32)) S105 ⟨by decide, by decide⟩
            obtain ⟨T105, h105, X105, e105, W105, st105⟩ := stC X104 hx hZ e104 Ar105 (j := (2 : Int32)) hin105 (g := (mkF m 183 #[.val (.int p0), .val (.int p1), .val (.int p2), .val (.int p3), .val (.int s4), .val (.int s5), .val (.int s6), .val (.int s7), .val (.int r1), .val (.int r2), .val (.int r3), .val (.int (63 : Int32)), .val (.ref b65), .val (.int (-1 : Int32)), .val (.int (-1 : Int32)), .val (.int (-1 : Int32)), .val (.int (0 : Int32)), .val (.int (5 : Int32)), .unset, .unset] [(.int (58 : Int32)), (.int (2 : Int32)), (.ref b65)])) rfl rfl (hb hby at_183)
            refine Ends.go st105 ?_
            have V105 : Arv Z h105 b65 k65 .char (6 : Int32) [(.int (nar .char r1)), (.int (nar .char r2)), (.int (58 : Int32)), (.int (0 : Int32)), (.int (0 : Int32)), (.int (0 : Int32))] (.int (0 : Int32)) := Arv.set Ar105 q105 S105 M105 H105 G105 rfl W105 2 rfl (Nat.le_of_ble_eq_true rfl)
            have K105 := K104.wr W105 (Or.inr sz_b65)
            have O105 := O104.wr W105 g_b65
            have N105 := Fr.snoc X105 N104 g_b65
            show Ends p e below s T105 (mkF m 184 #[.val (.int p0), .val (.int p1), .val (.int p2), .val (.int p3), .val (.int s4), .val (.int s5), .val (.int s6), .val (.int s7), .val (.int r1), .val (.int r2), .val (.int r3), .val (.int (63 : Int32)), .val (.ref b65), .val (.int (-1 : Int32)), .val (.int (-1 : Int32)), .val (.int (-1 : Int32)), .val (.int (0 : Int32)), .val (.int (5 : Int32)), .unset, .unset] []) _ _ _
            refine Ends.go (fun _ k => XS.aload X105.here hx rfl (hb hby at_184) rfl rfl k) ?_
            show Ends p e below s T105 (mkF m 186 #[.val (.int p0), .val (.int p1), .val (.int p2), .val (.int p3), .val (.int s4), .val (.int s5), .val (.int s6), .val (.int s7), .val (.int r1), .val (.int r2), .val (.int r3), .val (.int (63 : Int32)), .val (.ref b65), .val (.int (-1 : Int32)), .val (.int (-1 : Int32)), .val (.int (-1 : Int32)), .val (.int (0 : Int32)), .val (.int (5 : Int32)), .unset, .unset] [(.ref b65)]) _ _ _
            refine Ends.go (fun _ k => XS.iconst X105.here hx rfl (hb hby at_186) k) ?_
            show Ends p e below s T105 (mkF m 187 #[.val (.int p0), .val (.int p1), .val (.int p2), .val (.int p3), .val (.int s4), .val (.int s5), .val (.int s6), .val (.int s7), .val (.int r1), .val (.int r2), .val (.int r3), .val (.int (63 : Int32)), .val (.ref b65), .val (.int (-1 : Int32)), .val (.int (-1 : Int32)), .val (.int (-1 : Int32)), .val (.int (0 : Int32)), .val (.int (5 : Int32)), .unset, .unset] [(.int (3 : Int32)), (.ref b65)]) _ _ _
            refine Ends.go (fun _ k => XS.bipush X105.here hx rfl (hb hby at_187) k) ?_
            show Ends p e below s T105 (mkF m 189 #[.val (.int p0), .val (.int p1), .val (.int p2), .val (.int p3), .val (.int s4), .val (.int s5), .val (.int s6), .val (.int s7), .val (.int r1), .val (.int r2), .val (.int r3), .val (.int (63 : Int32)), .val (.ref b65), .val (.int (-1 : Int32)), .val (.int (-1 : Int32)), .val (.int (-1 : Int32)), .val (.int (0 : Int32)), .val (.int (5 : Int32)), .unset, .unset] [(.int (47 : Int32)), (.int (3 : Int32)), (.ref b65)]) _ _ _
            obtain ⟨cl106, Ar106, q106, S106, M106, H106, G106⟩ := id V105
            have hin106 := inb_of (j := (3 : Int32)) S106 ⟨by decide, by decide⟩
            obtain ⟨T106, h106, X106, e106, W106, st106⟩ := stC X105 hx hZ e105 Ar106 (j := (3 : Int32)) hin106 (g := (mkF m 189 #[.val (.int p0), .val (.int p1), .val (.int p2), .val (.int p3), .val (.int s4), .val (.int s5), .val (.int s6), .val (.int s7), .val (.int r1), .val (.int r2), .val (.int r3), .val (.int (63 : Int32)), .val (.ref b65), .val (.int (-1 : Int32)), .val (.int (-1 : Int32)), .val (.int (-1 : Int32)), .val (.int (0 : Int32)), .val (.int (5 : Int32)), .unset, .unset] [(.int (47 : Int32)), (.int (3 : Int32)), (.ref b65)])) rfl rfl (hb hby at_189)
            refine Ends.go st106 ?_
            have V106 : Arv Z h106 b65 k65 .char (6 : Int32) [(.int (nar .char r1)), (.int (nar .char r2)), (.int (58 : Int32)), (.int (47 : Int32)), (.int (0 : Int32)), (.int (0 : Int32))] (.int (0 : Int32)) := Arv.set Ar106 q106 S106 M106 H106 G106 rfl W106 3 rfl (Nat.le_of_ble_eq_true rfl)
            have K106 := K105.wr W106 (Or.inr sz_b65)
            have O106 := O105.wr W106 g_b65
            have N106 := Fr.snoc X106 N105 g_b65
            show Ends p e below s T106 (mkF m 190 #[.val (.int p0), .val (.int p1), .val (.int p2), .val (.int p3), .val (.int s4), .val (.int s5), .val (.int s6), .val (.int s7), .val (.int r1), .val (.int r2), .val (.int r3), .val (.int (63 : Int32)), .val (.ref b65), .val (.int (-1 : Int32)), .val (.int (-1 : Int32)), .val (.int (-1 : Int32)), .val (.int (0 : Int32)), .val (.int (5 : Int32)), .unset, .unset] []) _ _ _
            refine Ends.go (fun _ k => XS.aload X106.here hx rfl (hb hby at_190) rfl rfl k) ?_
            show Ends p e below s T106 (mkF m 192 #[.val (.int p0), .val (.int p1), .val (.int p2), .val (.int p3), .val (.int s4), .val (.int s5), .val (.int s6), .val (.int s7), .val (.int r1), .val (.int r2), .val (.int r3), .val (.int (63 : Int32)), .val (.ref b65), .val (.int (-1 : Int32)), .val (.int (-1 : Int32)), .val (.int (-1 : Int32)), .val (.int (0 : Int32)), .val (.int (5 : Int32)), .unset, .unset] [(.ref b65)]) _ _ _
            refine Ends.go (fun _ k => XS.iconst X106.here hx rfl (hb hby at_192) k) ?_
            show Ends p e below s T106 (mkF m 193 #[.val (.int p0), .val (.int p1), .val (.int p2), .val (.int p3), .val (.int s4), .val (.int s5), .val (.int s6), .val (.int s7), .val (.int r1), .val (.int r2), .val (.int r3), .val (.int (63 : Int32)), .val (.ref b65), .val (.int (-1 : Int32)), .val (.int (-1 : Int32)), .val (.int (-1 : Int32)), .val (.int (0 : Int32)), .val (.int (5 : Int32)), .unset, .unset] [(.int (4 : Int32)), (.ref b65)]) _ _ _
            refine Ends.go (fun _ k => XS.iload X106.here hx rfl (hb hby at_193) rfl k) ?_
            show Ends p e below s T106 (mkF m 195 #[.val (.int p0), .val (.int p1), .val (.int p2), .val (.int p3), .val (.int s4), .val (.int s5), .val (.int s6), .val (.int s7), .val (.int r1), .val (.int r2), .val (.int r3), .val (.int (63 : Int32)), .val (.ref b65), .val (.int (-1 : Int32)), .val (.int (-1 : Int32)), .val (.int (-1 : Int32)), .val (.int (0 : Int32)), .val (.int (5 : Int32)), .unset, .unset] [(.int r3), (.int (4 : Int32)), (.ref b65)]) _ _ _
            obtain ⟨cl107, Ar107, q107, S107, M107, H107, G107⟩ := id V106
            have hin107 := inb_of (j := (4 : Int32)) S107 ⟨by decide, by decide⟩
            obtain ⟨T107, h107, X107, e107, W107, st107⟩ := stC X106 hx hZ e106 Ar107 (j := (4 : Int32)) hin107 (g := (mkF m 195 #[.val (.int p0), .val (.int p1), .val (.int p2), .val (.int p3), .val (.int s4), .val (.int s5), .val (.int s6), .val (.int s7), .val (.int r1), .val (.int r2), .val (.int r3), .val (.int (63 : Int32)), .val (.ref b65), .val (.int (-1 : Int32)), .val (.int (-1 : Int32)), .val (.int (-1 : Int32)), .val (.int (0 : Int32)), .val (.int (5 : Int32)), .unset, .unset] [(.int r3), (.int (4 : Int32)), (.ref b65)])) rfl rfl (hb hby at_195)
            refine Ends.go st107 ?_
            have V107 : Arv Z h107 b65 k65 .char (6 : Int32) [(.int (nar .char r1)), (.int (nar .char r2)), (.int (58 : Int32)), (.int (47 : Int32)), (.int (nar .char r3)), (.int (0 : Int32))] (.int (0 : Int32)) := Arv.set Ar107 q107 S107 M107 H107 G107 (fits_nar_char _) W107 4 rfl (Nat.le_of_ble_eq_true rfl)
            have K107 := K106.wr W107 (Or.inr sz_b65)
            have O107 := O106.wr W107 g_b65
            have N107 := Fr.snoc X107 N106 g_b65
            show Ends p e below s T107 (mkF m 196 #[.val (.int p0), .val (.int p1), .val (.int p2), .val (.int p3), .val (.int s4), .val (.int s5), .val (.int s6), .val (.int s7), .val (.int r1), .val (.int r2), .val (.int r3), .val (.int (63 : Int32)), .val (.ref b65), .val (.int (-1 : Int32)), .val (.int (-1 : Int32)), .val (.int (-1 : Int32)), .val (.int (0 : Int32)), .val (.int (5 : Int32)), .unset, .unset] []) _ _ _
            refine Ends.go (fun _ k => XS.iconst X107.here hx rfl (hb hby at_196) k) ?_
            show Ends p e below s T107 (mkF m 197 #[.val (.int p0), .val (.int p1), .val (.int p2), .val (.int p3), .val (.int s4), .val (.int s5), .val (.int s6), .val (.int s7), .val (.int r1), .val (.int r2), .val (.int r3), .val (.int (63 : Int32)), .val (.ref b65), .val (.int (-1 : Int32)), .val (.int (-1 : Int32)), .val (.int (-1 : Int32)), .val (.int (0 : Int32)), .val (.int (5 : Int32)), .unset, .unset] [(.int (2 : Int32))]) _ _ _
            refine Ends.go (fun _ k => XS.istore X107.here hx rfl (hb hby at_197) rfl (l' := #[.val (.int p0), .val (.int p1), .val (.int p2), .val (.int p3), .val (.int s4), .val (.int s5), .val (.int s6), .val (.int s7), .val (.int r1), .val (.int r2), .val (.int r3), .val (.int (63 : Int32)), .val (.ref b65), .val (.int (2 : Int32)), .val (.int (-1 : Int32)), .val (.int (-1 : Int32)), .val (.int (0 : Int32)), .val (.int (5 : Int32)), .unset, .unset]) rfl k) ?_
            show Ends p e below s T107 (mkF m 199 #[.val (.int p0), .val (.int p1), .val (.int p2), .val (.int p3), .val (.int s4), .val (.int s5), .val (.int s6), .val (.int s7), .val (.int r1), .val (.int r2), .val (.int r3), .val (.int (63 : Int32)), .val (.ref b65), .val (.int (2 : Int32)), .val (.int (-1 : Int32)), .val (.int (-1 : Int32)), .val (.int (0 : Int32)), .val (.int (5 : Int32)), .unset, .unset] []) _ _ _
            refine Ends.go (fun _ k => XS.iconst X107.here hx rfl (hb hby at_199) k) ?_
            show Ends p e below s T107 (mkF m 200 #[.val (.int p0), .val (.int p1), .val (.int p2), .val (.int p3), .val (.int s4), .val (.int s5), .val (.int s6), .val (.int s7), .val (.int r1), .val (.int r2), .val (.int r3), .val (.int (63 : Int32)), .val (.ref b65), .val (.int (2 : Int32)), .val (.int (-1 : Int32)), .val (.int (-1 : Int32)), .val (.int (0 : Int32)), .val (.int (5 : Int32)), .unset, .unset] [(.int (3 : Int32))]) _ _ _
            refine Ends.go (fun _ k => XS.istore X107.here hx rfl (hb hby at_200) rfl (l' := #[.val (.int p0), .val (.int p1), .val (.int p2), .val (.int p3), .val (.int s4), .val (.int s5), .val (.int s6), .val (.int s7), .val (.int r1), .val (.int r2), .val (.int r3), .val (.int (63 : Int32)), .val (.ref b65), .val (.int (2 : Int32)), .val (.int (-1 : Int32)), .val (.int (-1 : Int32)), .val (.int (3 : Int32)), .val (.int (5 : Int32)), .unset, .unset]) rfl k) ?_
            show Ends p e below s T107 (mkF m 202 #[.val (.int p0), .val (.int p1), .val (.int p2), .val (.int p3), .val (.int s4), .val (.int s5), .val (.int s6), .val (.int s7), .val (.int r1), .val (.int r2), .val (.int r3), .val (.int (63 : Int32)), .val (.ref b65), .val (.int (2 : Int32)), .val (.int (-1 : Int32)), .val (.int (-1 : Int32)), .val (.int (3 : Int32)), .val (.int (5 : Int32)), .unset, .unset] []) _ _ _
            refine Ends.go (fun _ k => XS.goto X107.here hx rfl (pc0 := 202) (pc' := 324) rfl (hb hby at_202) (by decide) (by decide) k) ?_
            show Ends p e below s T107 (mkF m 324 #[.val (.int p0), .val (.int p1), .val (.int p2), .val (.int p3), .val (.int s4), .val (.int s5), .val (.int s6), .val (.int s7), .val (.int r1), .val (.int r2), .val (.int r3), .val (.int (63 : Int32)), .val (.ref b65), .val (.int (2 : Int32)), .val (.int (-1 : Int32)), .val (.int (-1 : Int32)), .val (.int (3 : Int32)), .val (.int (5 : Int32)), .unset, .unset] []) _ _ _
            refine Ends.go (fun _ k => XS.aload X107.here hx rfl (hb hby at_324) rfl rfl k) ?_
            show Ends p e below s T107 (mkF m 326 #[.val (.int p0), .val (.int p1), .val (.int p2), .val (.int p3), .val (.int s4), .val (.int s5), .val (.int s6), .val (.int s7), .val (.int r1), .val (.int r2), .val (.int r3), .val (.int (63 : Int32)), .val (.ref b65), .val (.int (2 : Int32)), .val (.int (-1 : Int32)), .val (.int (-1 : Int32)), .val (.int (3 : Int32)), .val (.int (5 : Int32)), .unset, .unset] [(.ref b65)]) _ _ _
            refine Ends.go (fun _ k => XS.iconst X107.here hx rfl (hb hby at_326) k) ?_
            show Ends p e below s T107 (mkF m 327 #[.val (.int p0), .val (.int p1), .val (.int p2), .val (.int p3), .val (.int s4), .val (.int s5), .val (.int s6), .val (.int s7), .val (.int r1), .val (.int r2), .val (.int r3), .val (.int (63 : Int32)), .val (.ref b65), .val (.int (2 : Int32)), .val (.int (-1 : Int32)), .val (.int (-1 : Int32)), .val (.int (3 : Int32)), .val (.int (5 : Int32)), .unset, .unset] [(.int (5 : Int32)), (.ref b65)]) _ _ _
            refine Ends.go (fun _ k => XS.iload X107.here hx rfl (hb hby at_327) rfl k) ?_
            show Ends p e below s T107 (mkF m 329 #[.val (.int p0), .val (.int p1), .val (.int p2), .val (.int p3), .val (.int s4), .val (.int s5), .val (.int s6), .val (.int s7), .val (.int r1), .val (.int r2), .val (.int r3), .val (.int (63 : Int32)), .val (.ref b65), .val (.int (2 : Int32)), .val (.int (-1 : Int32)), .val (.int (-1 : Int32)), .val (.int (3 : Int32)), .val (.int (5 : Int32)), .unset, .unset] [(.int (63 : Int32)), (.int (5 : Int32)), (.ref b65)]) _ _ _
            obtain ⟨cl108, Ar108, q108, S108, M108, H108, G108⟩ := id V107
            have hin108 := inb_of (j := (5 : Int32)) S108 ⟨by decide, by decide⟩
            obtain ⟨T108, h108, X108, e108, W108, st108⟩ := stC X107 hx hZ e107 Ar108 (j := (5 : Int32)) hin108 (g := (mkF m 329 #[.val (.int p0), .val (.int p1), .val (.int p2), .val (.int p3), .val (.int s4), .val (.int s5), .val (.int s6), .val (.int s7), .val (.int r1), .val (.int r2), .val (.int r3), .val (.int (63 : Int32)), .val (.ref b65), .val (.int (2 : Int32)), .val (.int (-1 : Int32)), .val (.int (-1 : Int32)), .val (.int (3 : Int32)), .val (.int (5 : Int32)), .unset, .unset] [(.int (63 : Int32)), (.int (5 : Int32)), (.ref b65)])) rfl rfl (hb hby at_329)
            refine Ends.go st108 ?_
            have V108 : Arv Z h108 b65 k65 .char (6 : Int32) [(.int (nar .char r1)), (.int (nar .char r2)), (.int (58 : Int32)), (.int (47 : Int32)), (.int (nar .char r3)), (.int (63 : Int32))] (.int (0 : Int32)) := Arv.set Ar108 q108 S108 M108 H108 G108 rfl W108 5 rfl (Nat.le_of_ble_eq_true rfl)
            have K108 := K107.wr W108 (Or.inr sz_b65)
            have O108 := O107.wr W108 g_b65
            have N108 := Fr.snoc X108 N107 g_b65
            show Ends p e below s T108 (mkF m 330 #[.val (.int p0), .val (.int p1), .val (.int p2), .val (.int p3), .val (.int s4), .val (.int s5), .val (.int s6), .val (.int s7), .val (.int r1), .val (.int r2), .val (.int r3), .val (.int (63 : Int32)), .val (.ref b65), .val (.int (2 : Int32)), .val (.int (-1 : Int32)), .val (.int (-1 : Int32)), .val (.int (3 : Int32)), .val (.int (5 : Int32)), .unset, .unset] []) _ _ _
            refine Ends.go (fun _ k => XS.iload X108.here hx rfl (hb hby at_330) rfl k) ?_
            show Ends p e below s T108 (mkF m 332 #[.val (.int p0), .val (.int p1), .val (.int p2), .val (.int p3), .val (.int s4), .val (.int s5), .val (.int s6), .val (.int s7), .val (.int r1), .val (.int r2), .val (.int r3), .val (.int (63 : Int32)), .val (.ref b65), .val (.int (2 : Int32)), .val (.int (-1 : Int32)), .val (.int (-1 : Int32)), .val (.int (3 : Int32)), .val (.int (5 : Int32)), .unset, .unset] [(.int s6)]) _ _ _
            refine Ends.go (fun _ k => XS.ifNo X108.here hx rfl (hb hby at_332) rfl ((if0 _ _).trans (feq (hc73_4 : ¬ (s6 = (0 : Int32)))).1) k) ?_
            show Ends p e below s T108 (mkF m 335 #[.val (.int p0), .val (.int p1), .val (.int p2), .val (.int p3), .val (.int s4), .val (.int s5), .val (.int s6), .val (.int s7), .val (.int r1), .val (.int r2), .val (.int r3), .val (.int (63 : Int32)), .val (.ref b65), .val (.int (2 : Int32)), .val (.int (-1 : Int32)), .val (.int (-1 : Int32)), .val (.int (3 : Int32)), .val (.int (5 : Int32)), .unset, .unset] []) _ _ _
            refine Ends.go (fun _ k => XS.bipush X108.here hx rfl (hb hby at_335) k) ?_
            show Ends p e below s T108 (mkF m 337 #[.val (.int p0), .val (.int p1), .val (.int p2), .val (.int p3), .val (.int s4), .val (.int s5), .val (.int s6), .val (.int s7), .val (.int r1), .val (.int r2), .val (.int r3), .val (.int (63 : Int32)), .val (.ref b65), .val (.int (2 : Int32)), .val (.int (-1 : Int32)), .val (.int (-1 : Int32)), .val (.int (3 : Int32)), .val (.int (5 : Int32)), .unset, .unset] [(.int (6 : Int32))]) _ _ _
            refine Ends.go (fun _ k => XS.goto X108.here hx rfl (pc0 := 337) (pc' := 341) rfl (hb hby at_337) (by decide) (by decide) k) ?_
            show Ends p e below s T108 (mkF m 341 #[.val (.int p0), .val (.int p1), .val (.int p2), .val (.int p3), .val (.int s4), .val (.int s5), .val (.int s6), .val (.int s7), .val (.int r1), .val (.int r2), .val (.int r3), .val (.int (63 : Int32)), .val (.ref b65), .val (.int (2 : Int32)), .val (.int (-1 : Int32)), .val (.int (-1 : Int32)), .val (.int (3 : Int32)), .val (.int (5 : Int32)), .unset, .unset] [(.int (6 : Int32))]) _ _ _
            refine Ends.go (fun _ k => XS.istore X108.here hx rfl (hb hby at_341) rfl (l' := #[.val (.int p0), .val (.int p1), .val (.int p2), .val (.int p3), .val (.int s4), .val (.int s5), .val (.int s6), .val (.int s7), .val (.int r1), .val (.int r2), .val (.int r3), .val (.int (63 : Int32)), .val (.ref b65), .val (.int (2 : Int32)), .val (.int (-1 : Int32)), .val (.int (-1 : Int32)), .val (.int (3 : Int32)), .val (.int (5 : Int32)), .val (.int (6 : Int32)), .unset]) rfl k) ?_
            show Ends p e below s T108 (mkF m 343 #[.val (.int p0), .val (.int p1), .val (.int p2), .val (.int p3), .val (.int s4), .val (.int s5), .val (.int s6), .val (.int s7), .val (.int r1), .val (.int r2), .val (.int r3), .val (.int (63 : Int32)), .val (.ref b65), .val (.int (2 : Int32)), .val (.int (-1 : Int32)), .val (.int (-1 : Int32)), .val (.int (3 : Int32)), .val (.int (5 : Int32)), .val (.int (6 : Int32)), .unset] []) _ _ _
            obtain ⟨T109, h109, X109, e109, E109, A109, D109, -, st109⟩ := newO X108 hx hZ hown (hw _ (List.mem_of_getElem? (i := 6) rfl)) (hw _ (List.mem_of_getElem? (i := 7) rfl)) (hw _ (List.mem_of_getElem? (i := 8) rfl)) e108 (g := (mkF m 343 #[.val (.int p0), .val (.int p1), .val (.int p2), .val (.int p3), .val (.int s4), .val (.int s5), .val (.int s6), .val (.int s7), .val (.int r1), .val (.int r2), .val (.int r3), .val (.int (63 : Int32)), .val (.ref b65), .val (.int (2 : Int32)), .val (.int (-1 : Int32)), .val (.int (-1 : Int32)), .val (.int (3 : Int32)), .val (.int (5 : Int32)), .val (.int (6 : Int32)), .unset] [])) rfl (hb hby at_343) (by decide) (by decide)
            obtain ⟨b109, g109⟩ : ∃ z, z = h108.size := ⟨_, rfl⟩
            rw [← g109] at A109 D109 st109
            refine Ends.go st109 ?_
            have ne_b65_b109 : b65 ≠ b109 := Nat.ne_of_lt (Nat.lt_of_lt_of_le V108.lt (Nat.le_of_eq g109.symm))
            have g_b109 : n0 ≤ b109 := Nat.le_trans (own_old_le O108) (Nat.le_of_eq g109.symm)
            have sz_b109 : h0.size ≤ b109 := Nat.le_trans K108.1 (Nat.le_of_eq g109.symm)
            have K109 := K108.ext E109
            have O109 := O108.ext E109
            have F_mText_b109 : Fld Z h109 b109 "com/example/authority/authority/UriReference" "mText" "Ljava/lang/String;" .null := D109 (Or.inr (hw _ (List.mem_of_getElem? (i := 43) rfl))) (ty := (.object "java/lang/String")) (by decide)
            have F_mSchemeEnd_b109 : Fld Z h109 b109 "com/example/authority/authority/UriReference" "mSchemeEnd" "I" (.int (0 : Int32)) := D109 (Or.inr (hw _ (List.mem_of_getElem? (i := 45) rfl))) (ty := .int) (by decide)
            have F_mHostStart_b109 : Fld Z h109 b109 "com/example/authority/authority/UriReference" "mHostStart" "I" (.int (0 : Int32)) := D109 (Or.inr (hw _ (List.mem_of_getElem? (i := 47) rfl))) (ty := .int) (by decide)
            have F_mHostEnd_b109 : Fld Z h109 b109 "com/example/authority/authority/UriReference" "mHostEnd" "I" (.int (0 : Int32)) := D109 (Or.inr (hw _ (List.mem_of_getElem? (i := 49) rfl))) (ty := .int) (by decide)
            have F_mPathStart_b109 : Fld Z h109 b109 "com/example/authority/authority/UriReference" "mPathStart" "I" (.int (0 : Int32)) := D109 (Or.inr (hw _ (List.mem_of_getElem? (i := 51) rfl))) (ty := .int) (by decide)
            have F_mPathEnd_b109 : Fld Z h109 b109 "com/example/authority/authority/UriReference" "mPathEnd" "I" (.int (0 : Int32)) := D109 (Or.inr (hw _ (List.mem_of_getElem? (i := 53) rfl))) (ty := .int) (by decide)
            have F_mQueryEnd_b109 : Fld Z h109 b109 "com/example/authority/authority/UriReference" "mQueryEnd" "I" (.int (0 : Int32)) := D109 (Or.inr (hw _ (List.mem_of_getElem? (i := 55) rfl))) (ty := .int) (by decide)
            show Ends p e below s T109 (mkF m 346 #[.val (.int p0), .val (.int p1), .val (.int p2), .val (.int p3), .val (.int s4), .val (.int s5), .val (.int s6), .val (.int s7), .val (.int r1), .val (.int r2), .val (.int r3), .val (.int (63 : Int32)), .val (.ref b65), .val (.int (2 : Int32)), .val (.int (-1 : Int32)), .val (.int (-1 : Int32)), .val (.int (3 : Int32)), .val (.int (5 : Int32)), .val (.int (6 : Int32)), .unset] [(.ref b109)]) _ _ _
            refine Ends.go (fun _ k => XS.dup X109.here hx rfl (hb hby at_346) rfl rfl k) ?_
            show Ends p e below s T109 (mkF m 347 #[.val (.int p0), .val (.int p1), .val (.int p2), .val (.int p3), .val (.int s4), .val (.int s5), .val (.int s6), .val (.int s7), .val (.int r1), .val (.int r2), .val (.int r3), .val (.int (63 : Int32)), .val (.ref b65), .val (.int (2 : Int32)), .val (.int (-1 : Int32)), .val (.int (-1 : Int32)), .val (.int (3 : Int32)), .val (.int (5 : Int32)), .val (.int (6 : Int32)), .unset] [(.ref b109), (.ref b109)]) _ _ _
            obtain ⟨T110, h110, X110, e110, E110, A110, D110, -, st110⟩ := newO X109 hx hZ hown (hw _ (List.mem_of_getElem? (i := 9) rfl)) (hw _ (List.mem_of_getElem? (i := 10) rfl)) (hw _ (List.mem_of_getElem? (i := 11) rfl)) e109 (g := (mkF m 347 #[.val (.int p0), .val (.int p1), .val (.int p2), .val (.int p3), .val (.int s4), .val (.int s5), .val (.int s6), .val (.int s7), .val (.int r1), .val (.int r2), .val (.int r3), .val (.int (63 : Int32)), .val (.ref b65), .val (.int (2 : Int32)), .val (.int (-1 : Int32)), .val (.int (-1 : Int32)), .val (.int (3 : Int32)), .val (.int (5 : Int32)), .val (.int (6 : Int32)), .unset] [(.ref b109), (.ref b109)])) rfl (hb hby at_347) (by decide) (by decide)
            obtain ⟨b110, g110⟩ : ∃ z, z = h109.size := ⟨_, rfl⟩
            rw [← g110] at A110 D110 st110
            refine Ends.go st110 ?_
            have ne_b65_b110 : b65 ≠ b110 := Nat.ne_of_lt (Nat.lt_of_lt_of_le (V108.ext E109).lt (Nat.le_of_eq g110.symm))
            have ne_b109_b110 : b109 ≠ b110 := Nat.ne_of_lt (Nat.lt_of_lt_of_le A109.lt (Nat.le_of_eq g110.symm))
            have g_b110 : n0 ≤ b110 := Nat.le_trans (own_old_le O109) (Nat.le_of_eq g110.symm)
            have sz_b110 : h0.size ≤ b110 := Nat.le_trans K109.1 (Nat.le_of_eq g110.symm)
            have K110 := K109.ext E110
            have O110 := O109.ext E110
            have F_coder_b110 : Fld Z h110 b110 "java/lang/String" "coder" "B" (.int (0 : Int32)) := D110 (Or.inr (hw _ (List.mem_of_getElem? (i := 35) rfl))) (ty := .byte) (by decide)
            have F_value_b110 : Fld Z h110 b110 "java/lang/String" "value" "[B" .null := D110 (Or.inr (hw _ (List.mem_of_getElem? (i := 37) rfl))) (ty := (.array .byte)) (by decide)
            show Ends p e below s T110 (mkF m 350 #[.val (.int p0), .val (.int p1), .val (.int p2), .val (.int p3), .val (.int s4), .val (.int s5), .val (.int s6), .val (.int s7), .val (.int r1), .val (.int r2), .val (.int r3), .val (.int (63 : Int32)), .val (.ref b65), .val (.int (2 : Int32)), .val (.int (-1 : Int32)), .val (.int (-1 : Int32)), .val (.int (3 : Int32)), .val (.int (5 : Int32)), .val (.int (6 : Int32)), .unset] [(.ref b110), (.ref b109), (.ref b109)]) _ _ _
            refine Ends.go (fun _ k => XS.dup X110.here hx rfl (hb hby at_350) rfl rfl k) ?_
            show Ends p e below s T110 (mkF m 351 #[.val (.int p0), .val (.int p1), .val (.int p2), .val (.int p3), .val (.int s4), .val (.int s5), .val (.int s6), .val (.int s7), .val (.int r1), .val (.int r2), .val (.int r3), .val (.int (63 : Int32)), .val (.ref b65), .val (.int (2 : Int32)), .val (.int (-1 : Int32)), .val (.int (-1 : Int32)), .val (.int (3 : Int32)), .val (.int (5 : Int32)), .val (.int (6 : Int32)), .unset] [(.ref b110), (.ref b110), (.ref b109), (.ref b109)]) _ _ _
            refine Ends.go (fun _ k => XS.aload X110.here hx rfl (hb hby at_351) rfl rfl k) ?_
            show Ends p e below s T110 (mkF m 353 #[.val (.int p0), .val (.int p1), .val (.int p2), .val (.int p3), .val (.int s4), .val (.int s5), .val (.int s6), .val (.int s7), .val (.int r1), .val (.int r2), .val (.int r3), .val (.int (63 : Int32)), .val (.ref b65), .val (.int (2 : Int32)), .val (.int (-1 : Int32)), .val (.int (-1 : Int32)), .val (.int (3 : Int32)), .val (.int (5 : Int32)), .val (.int (6 : Int32)), .unset] [(.ref b65), (.ref b110), (.ref b110), (.ref b109), (.ref b109)]) _ _ _
            have hp111 : ∀ c ∈ ([(nar .char r1), (nar .char r2), (58 : Int32), (47 : Int32), (nar .char r3), (63 : Int32)] : List Int32), ¬ c < 0 ∧ ¬ (255 : Int32) < c := by
              intro c hc
              simp only [List.mem_cons, List.not_mem_nil, or_false] at hc
              rcases hc with rfl | rfl | rfl | rfl | rfl | rfl
              · exact own_nar hr1
              · exact own_nar hr2
              · exact (by decide)
              · exact (by decide)
              · exact own_nar hr3
              · exact (by decide)
            obtain ⟨_, _, ⟨T111, L111, k111, n111⟩, -, X111, ⟨Lc111, hQ111, l111, y111, z111⟩, st111⟩ := X110.specialBack hx (y := (⟨"java/lang/String", "<init>", "([C)V"⟩ : MethodName)) rfl hown (mvT hZ (hw _ (List.mem_of_getElem? (i := 12) rfl))) (mvT hZ (hw _ (List.mem_of_getElem? (i := 13) rfl))) (mvT hZ (hw _ (List.mem_of_getElem? (i := 14) rfl))) (by decide) (StrChars.Road.backV (W := 3) hZ hws (kI := 4) (hw _ (List.mem_of_getElem? (i := 10) rfl)) (cs := ([(nar .char r1), (nar .char r2), (58 : Int32), (47 : Int32), (nar .char r3), (63 : Int32)] : List Int32)) (bs := ([(nar .char r1), (nar .char r2), (58 : Int32), (47 : Int32), (nar .char r3), (63 : Int32)] : List Int32).map (fun c => c.toInt8.toInt32)) (n := 6) g_b110 (own_old_le O110) A110 F_value_b110 F_coder_b110 ((V108.ext E109).ext E110) (O2.ext O110.2) P5 rfl rfl (by decide) (by decide) hp111 rfl (by decide) (by decide)) (g := (mkF m 353 #[.val (.int p0), .val (.int p1), .val (.int p2), .val (.int p3), .val (.int s4), .val (.int s5), .val (.int s6), .val (.int s7), .val (.int r1), .val (.int r2), .val (.int r3), .val (.int (63 : Int32)), .val (.ref b65), .val (.int (2 : Int32)), .val (.int (-1 : Int32)), .val (.int (-1 : Int32)), .val (.int (3 : Int32)), .val (.int (5 : Int32)), .val (.int (6 : Int32)), .unset] [(.ref b65), (.ref b110), (.ref b110), (.ref b109), (.ref b109)])) rfl (by rw [hml]; rfl) (Steps.refl _) (a := b110) (argsL := [(.ref b65)]) (rest := [(.ref b110), (.ref b109), (.ref b109)]) (lenOf pd0_1 rfl) rfl (by show 2 * 0 + _ ≤ _; exact Nat.le_of_eq rfl) (hb hby at_353) (fun _ _ => ⟨rfl, e110, (by decide : 3 + 1 ≤ _), (by decide : 17 + 6 ≤ _)⟩)
            dsimp only [Pt.U, Pt.locs, Pt.cells, Pt.slots] at X111 l111 y111 z111 st111 hQ111
            subst l111 y111 z111
            obtain ⟨rfl, N111q, K111c, Eq111, Cq111, t111, kb111, -, ht111, ht111', Vq111, Aq111⟩ := hQ111
            have N111 := Fr.app N108 N111q
            refine Ends.go (fun _ k => st111.trans k) ?_
            have ne_b65_t111 : b65 ≠ t111 := Nat.ne_of_lt (Nat.lt_of_lt_of_le ((V108.ext E109).ext E110).lt ht111)
            have ne_b109_t111 : b109 ≠ t111 := Nat.ne_of_lt (Nat.lt_of_lt_of_le (A109.ext E110).lt ht111)
            have ne_b110_t111 : b110 ≠ t111 := Nat.ne_of_lt (Nat.lt_of_lt_of_le A110.lt ht111)
            have g_t111 : n0 ≤ t111 := Nat.le_trans (own_old_le O110) ht111
            have sz_t111 : h0.size ≤ t111 := Nat.le_trans K110.1 ht111
            obtain ⟨h111, e111⟩ : ∃ z, T111.heap = z := ⟨_, rfl⟩
            rw [e111] at K111c Eq111 Cq111 Vq111 Aq111
            have K111 := K110.trans K111c (allS (Or.inr sz_b110) all0)
            have O111 := O110.keep K111c (allS g_b110 all0)
            show Ends p e below s T111 (mkF m 356 #[.val (.int p0), .val (.int p1), .val (.int p2), .val (.int p3), .val (.int s4), .val (.int s5), .val (.int s6), .val (.int s7), .val (.int r1), .val (.int r2), .val (.int r3), .val (.int (63 : Int32)), .val (.ref b65), .val (.int (2 : Int32)), .val (.int (-1 : Int32)), .val (.int (-1 : Int32)), .val (.int (3 : Int32)), .val (.int (5 : Int32)), .val (.int (6 : Int32)), .unset] [(.ref b110), (.ref b109), (.ref b109)]) _ _ _
            refine Ends.go (fun _ k => XS.iload X111.here hx rfl (hb hby at_356) rfl k) ?_
            show Ends p e below s T111 (mkF m 358 #[.val (.int p0), .val (.int p1), .val (.int p2), .val (.int p3), .val (.int s4), .val (.int s5), .val (.int s6), .val (.int s7), .val (.int r1), .val (.int r2), .val (.int r3), .val (.int (63 : Int32)), .val (.ref b65), .val (.int (2 : Int32)), .val (.int (-1 : Int32)), .val (.int (-1 : Int32)), .val (.int (3 : Int32)), .val (.int (5 : Int32)), .val (.int (6 : Int32)), .unset] [(.int (2 : Int32)), (.ref b110), (.ref b109), (.ref b109)]) _ _ _
            refine Ends.go (fun _ k => XS.iload X111.here hx rfl (hb hby at_358) rfl k) ?_
            show Ends p e below s T111 (mkF m 360 #[.val (.int p0), .val (.int p1), .val (.int p2), .val (.int p3), .val (.int s4), .val (.int s5), .val (.int s6), .val (.int s7), .val (.int r1), .val (.int r2), .val (.int r3), .val (.int (63 : Int32)), .val (.ref b65), .val (.int (2 : Int32)), .val (.int (-1 : Int32)), .val (.int (-1 : Int32)), .val (.int (3 : Int32)), .val (.int (5 : Int32)), .val (.int (6 : Int32)), .unset] [(.int (-1 : Int32)), (.int (2 : Int32)), (.ref b110), (.ref b109), (.ref b109)]) _ _ _
            refine Ends.go (fun _ k => XS.iload X111.here hx rfl (hb hby at_360) rfl k) ?_
            show Ends p e below s T111 (mkF m 362 #[.val (.int p0), .val (.int p1), .val (.int p2), .val (.int p3), .val (.int s4), .val (.int s5), .val (.int s6), .val (.int s7), .val (.int r1), .val (.int r2), .val (.int r3), .val (.int (63 : Int32)), .val (.ref b65), .val (.int (2 : Int32)), .val (.int (-1 : Int32)), .val (.int (-1 : Int32)), .val (.int (3 : Int32)), .val (.int (5 : Int32)), .val (.int (6 : Int32)), .unset] [(.int (-1 : Int32)), (.int (-1 : Int32)), (.int (2 : Int32)), (.ref b110), (.ref b109), (.ref b109)]) _ _ _
            refine Ends.go (fun _ k => XS.iload X111.here hx rfl (hb hby at_362) rfl k) ?_
            show Ends p e below s T111 (mkF m 364 #[.val (.int p0), .val (.int p1), .val (.int p2), .val (.int p3), .val (.int s4), .val (.int s5), .val (.int s6), .val (.int s7), .val (.int r1), .val (.int r2), .val (.int r3), .val (.int (63 : Int32)), .val (.ref b65), .val (.int (2 : Int32)), .val (.int (-1 : Int32)), .val (.int (-1 : Int32)), .val (.int (3 : Int32)), .val (.int (5 : Int32)), .val (.int (6 : Int32)), .unset] [(.int (3 : Int32)), (.int (-1 : Int32)), (.int (-1 : Int32)), (.int (2 : Int32)), (.ref b110), (.ref b109), (.ref b109)]) _ _ _
            refine Ends.go (fun _ k => XS.iload X111.here hx rfl (hb hby at_364) rfl k) ?_
            show Ends p e below s T111 (mkF m 366 #[.val (.int p0), .val (.int p1), .val (.int p2), .val (.int p3), .val (.int s4), .val (.int s5), .val (.int s6), .val (.int s7), .val (.int r1), .val (.int r2), .val (.int r3), .val (.int (63 : Int32)), .val (.ref b65), .val (.int (2 : Int32)), .val (.int (-1 : Int32)), .val (.int (-1 : Int32)), .val (.int (3 : Int32)), .val (.int (5 : Int32)), .val (.int (6 : Int32)), .unset] [(.int (5 : Int32)), (.int (3 : Int32)), (.int (-1 : Int32)), (.int (-1 : Int32)), (.int (2 : Int32)), (.ref b110), (.ref b109), (.ref b109)]) _ _ _
            refine Ends.go (fun _ k => XS.iload X111.here hx rfl (hb hby at_366) rfl k) ?_
            show Ends p e below s T111 (mkF m 368 #[.val (.int p0), .val (.int p1), .val (.int p2), .val (.int p3), .val (.int s4), .val (.int s5), .val (.int s6), .val (.int s7), .val (.int r1), .val (.int r2), .val (.int r3), .val (.int (63 : Int32)), .val (.ref b65), .val (.int (2 : Int32)), .val (.int (-1 : Int32)), .val (.int (-1 : Int32)), .val (.int (3 : Int32)), .val (.int (5 : Int32)), .val (.int (6 : Int32)), .unset] [(.int (6 : Int32)), (.int (5 : Int32)), (.int (3 : Int32)), (.int (-1 : Int32)), (.int (-1 : Int32)), (.int (2 : Int32)), (.ref b110), (.ref b109), (.ref b109)]) _ _ _
            obtain ⟨_, _, ⟨T112, L112, k112, n112⟩, -, X112, ⟨Lc112, hQ112, l112, y112, z112⟩, st112⟩ := X111.specialBack hx (y := (⟨"com/example/authority/authority/UriReference", "<init>", "(Ljava/lang/String;IIIIII)V"⟩ : MethodName)) rfl hown (mvT hZ (hw _ (List.mem_of_getElem? (i := 38) rfl))) (mvT hZ (hw _ (List.mem_of_getElem? (i := 39) rfl))) (mvT hZ (hw _ (List.mem_of_getElem? (i := 40) rfl))) (by decide) (own_backOf (W := 1) (rmI l Z a0 hw [] n0 h111 O111 b109 b110 (2 : Int32) (-1 : Int32) (-1 : Int32) (3 : Int32) (5 : Int32) (6 : Int32) g_b109 ((A109.ext E110).keep K111c) ((F_mText_b109.ext E110).keep K111c (ninS ne_b109_b110 nin0)) ((F_mSchemeEnd_b109.ext E110).keep K111c (ninS ne_b109_b110 nin0)) ((F_mHostStart_b109.ext E110).keep K111c (ninS ne_b109_b110 nin0)) ((F_mHostEnd_b109.ext E110).keep K111c (ninS ne_b109_b110 nin0)) ((F_mPathStart_b109.ext E110).keep K111c (ninS ne_b109_b110 nin0)) ((F_mPathEnd_b109.ext E110).keep K111c (ninS ne_b109_b110 nin0)) ((F_mQueryEnd_b109.ext E110).keep K111c (ninS ne_b109_b110 nin0))) hZ (hw _ (List.mem_of_getElem? (i := 40) rfl)) (hw _ (List.mem_of_getElem? (i := 8) rfl)) (by decide) (by decide)) (g := (mkF m 368 #[.val (.int p0), .val (.int p1), .val (.int p2), .val (.int p3), .val (.int s4), .val (.int s5), .val (.int s6), .val (.int s7), .val (.int r1), .val (.int r2), .val (.int r3), .val (.int (63 : Int32)), .val (.ref b65), .val (.int (2 : Int32)), .val (.int (-1 : Int32)), .val (.int (-1 : Int32)), .val (.int (3 : Int32)), .val (.int (5 : Int32)), .val (.int (6 : Int32)), .unset] [(.int (6 : Int32)), (.int (5 : Int32)), (.int (3 : Int32)), (.int (-1 : Int32)), (.int (-1 : Int32)), (.int (2 : Int32)), (.ref b110), (.ref b109), (.ref b109)])) rfl (by rw [hml]; rfl) (Steps.refl _) (a := b109) (argsL := [(.ref b110), (.int (2 : Int32)), (.int (-1 : Int32)), (.int (-1 : Int32)), (.int (3 : Int32)), (.int (5 : Int32)), (.int (6 : Int32))]) (rest := [(.ref b109)]) (lenOf pd0_2 rfl) rfl (by show 2 * 0 + _ ≤ _; exact Nat.le_of_eq rfl) (hb hby at_368) (fun _ _ => ⟨rfl, e111, (by decide : 4 + 0 ≤ _), (by decide : 23 + 0 ≤ _)⟩)
            dsimp only [Pt.U, Pt.locs, Pt.cells, Pt.slots] at X112 l112 y112 z112 st112 hQ112
            subst l112 y112 z112
            obtain ⟨rfl, N112q, K112c, Eq112, Fq112_mText, Fq112_mSchemeEnd, Fq112_mHostStart, Fq112_mHostEnd, Fq112_mPathStart, Fq112_mPathEnd, Fq112_mQueryEnd⟩ := hQ112
            have N112 := Fr.app N111 N112q
            refine Ends.go (fun _ k => st112.trans k) ?_
            obtain ⟨h112, e112⟩ : ∃ z, T112.heap = z := ⟨_, rfl⟩
            rw [e112] at K112c Eq112 Fq112_mText Fq112_mSchemeEnd Fq112_mHostStart Fq112_mHostEnd Fq112_mPathStart Fq112_mPathEnd Fq112_mQueryEnd
            have K112 := K111.trans K112c (allS (Or.inr sz_b109) all0)
            have O112 := O111.keep K112c (allS g_b109 all0)
            show Ends p e below s T112 (mkF m 371 #[.val (.int p0), .val (.int p1), .val (.int p2), .val (.int p3), .val (.int s4), .val (.int s5), .val (.int s6), .val (.int s7), .val (.int r1), .val (.int r2), .val (.int r3), .val (.int (63 : Int32)), .val (.ref b65), .val (.int (2 : Int32)), .val (.int (-1 : Int32)), .val (.int (-1 : Int32)), .val (.int (3 : Int32)), .val (.int (5 : Int32)), .val (.int (6 : Int32)), .unset] [(.ref b109)]) _ _ _
            refine Ends.go (fun _ k => XS.astore X112.here hx rfl (hb hby at_371) rfl rfl (l' := #[.val (.int p0), .val (.int p1), .val (.int p2), .val (.int p3), .val (.int s4), .val (.int s5), .val (.int s6), .val (.int s7), .val (.int r1), .val (.int r2), .val (.int r3), .val (.int (63 : Int32)), .val (.ref b65), .val (.int (2 : Int32)), .val (.int (-1 : Int32)), .val (.int (-1 : Int32)), .val (.int (3 : Int32)), .val (.int (5 : Int32)), .val (.int (6 : Int32)), .val (.ref b109)]) rfl k) ?_
            show Ends p e below s T112 (mkF m 373 #[.val (.int p0), .val (.int p1), .val (.int p2), .val (.int p3), .val (.int s4), .val (.int s5), .val (.int s6), .val (.int s7), .val (.int r1), .val (.int r2), .val (.int r3), .val (.int (63 : Int32)), .val (.ref b65), .val (.int (2 : Int32)), .val (.int (-1 : Int32)), .val (.int (-1 : Int32)), .val (.int (3 : Int32)), .val (.int (5 : Int32)), .val (.int (6 : Int32)), .val (.ref b109)] []) _ _ _
            refine Ends.go (fun _ k => XS.aload X112.here hx rfl (hb hby at_373) rfl rfl k) ?_
            show Ends p e below s T112 (mkF m 375 #[.val (.int p0), .val (.int p1), .val (.int p2), .val (.int p3), .val (.int s4), .val (.int s5), .val (.int s6), .val (.int s7), .val (.int r1), .val (.int r2), .val (.int r3), .val (.int (63 : Int32)), .val (.ref b65), .val (.int (2 : Int32)), .val (.int (-1 : Int32)), .val (.int (-1 : Int32)), .val (.int (3 : Int32)), .val (.int (5 : Int32)), .val (.int (6 : Int32)), .val (.ref b109)] [(.ref b109)]) _ _ _
            obtain ⟨cq113, kq113, q113a, q113b, q113c⟩ := isOf hZ e112 Eq112
            obtain ⟨_, _, ⟨T113, L113, k113, n113⟩, -, X113, ⟨Lc113, hQ113, l113, y113, z113⟩, st113⟩ := X112.virtualBack hx (y := (⟨"com/example/authority/authority/UriReference", "isUri", "()Z"⟩ : MethodName)) (z := (⟨"com/example/authority/authority/UriReference", "isUri", "()Z"⟩ : MethodName)) hown (mvT hZ (hw _ (List.mem_of_getElem? (i := 56) rfl))) (mvT hZ (hw _ (List.mem_of_getElem? (i := 57) rfl))) (notFace_of_selects (args := #[]) (mvT hZ (hw _ (List.mem_of_getElem? (i := 59) rfl)))) (mvT hZ (hw _ (List.mem_of_getElem? (i := 59) rfl))) (mvT hZ (hw _ (List.mem_of_getElem? (i := 58) rfl))) (by decide) (own_backOf (W := 0) (rmQ l Z a0 hw [] n0 h112 O112 b109 (2 : Int32) Fq112_mSchemeEnd (1 : Int32) (by decide)) hZ (hw _ (List.mem_of_getElem? (i := 60) rfl)) (hw _ (List.mem_of_getElem? (i := 8) rfl)) (by decide) (by decide)) q113a q113c (g := (mkF m 375 #[.val (.int p0), .val (.int p1), .val (.int p2), .val (.int p3), .val (.int s4), .val (.int s5), .val (.int s6), .val (.int s7), .val (.int r1), .val (.int r2), .val (.int r3), .val (.int (63 : Int32)), .val (.ref b65), .val (.int (2 : Int32)), .val (.int (-1 : Int32)), .val (.int (-1 : Int32)), .val (.int (3 : Int32)), .val (.int (5 : Int32)), .val (.int (6 : Int32)), .val (.ref b109)] [(.ref b109)])) rfl (by rw [hml]; rfl) (Steps.refl _) (argsL := []) (rest := []) (lenOf pd0_3 rfl) rfl (by show 2 * 0 + _ ≤ _; exact Nat.le_of_eq rfl) (hb hby at_375) (fun _ _ => ⟨rfl, e112, (by decide : 4 + 0 ≤ _), (by decide : 23 + 0 ≤ _)⟩)
            dsimp only [Pt.U, Pt.locs, Pt.cells, Pt.slots] at X113 l113 y113 z113 st113 hQ113
            subst l113 y113 z113
            obtain ⟨rfl, N113q, e113q⟩ := hQ113
            have N113 := Fr.app N112 N113q
            refine Ends.go (fun _ k => st113.trans k) ?_
            show Ends p e below s T113 (mkF m 378 #[.val (.int p0), .val (.int p1), .val (.int p2), .val (.int p3), .val (.int s4), .val (.int s5), .val (.int s6), .val (.int s7), .val (.int r1), .val (.int r2), .val (.int r3), .val (.int (63 : Int32)), .val (.ref b65), .val (.int (2 : Int32)), .val (.int (-1 : Int32)), .val (.int (-1 : Int32)), .val (.int (3 : Int32)), .val (.int (5 : Int32)), .val (.int (6 : Int32)), .val (.ref b109)] [(.int (1 : Int32))]) _ _ _
            refine Ends.go (fun _ k => XS.iload X113.here hx rfl (hb hby at_378) rfl k) ?_
            show Ends p e below s T113 (mkF m 380 #[.val (.int p0), .val (.int p1), .val (.int p2), .val (.int p3), .val (.int s4), .val (.int s5), .val (.int s6), .val (.int s7), .val (.int r1), .val (.int r2), .val (.int r3), .val (.int (63 : Int32)), .val (.ref b65), .val (.int (2 : Int32)), .val (.int (-1 : Int32)), .val (.int (-1 : Int32)), .val (.int (3 : Int32)), .val (.int (5 : Int32)), .val (.int (6 : Int32)), .val (.ref b109)] [(.int s4), (.int (1 : Int32))]) _ _ _
            refine Ends.go (fun _ k => XS.icmpNo X113.here hx rfl (hb hby at_380) rfl (teq ((h4.resolve_left hc108_66).symm : (1 : Int32) = s4)).2 k) ?_
            show Ends p e below s T113 (mkF m 383 #[.val (.int p0), .val (.int p1), .val (.int p2), .val (.int p3), .val (.int s4), .val (.int s5), .val (.int s6), .val (.int s7), .val (.int r1), .val (.int r2), .val (.int r3), .val (.int (63 : Int32)), .val (.ref b65), .val (.int (2 : Int32)), .val (.int (-1 : Int32)), .val (.int (-1 : Int32)), .val (.int (3 : Int32)), .val (.int (5 : Int32)), .val (.int (6 : Int32)), .val (.ref b109)] []) _ _ _
            refine Ends.go (fun _ k => XS.iconst X113.here hx rfl (hb hby at_383) k) ?_
            show Ends p e below s T113 (mkF m 384 #[.val (.int p0), .val (.int p1), .val (.int p2), .val (.int p3), .val (.int s4), .val (.int s5), .val (.int s6), .val (.int s7), .val (.int r1), .val (.int r2), .val (.int r3), .val (.int (63 : Int32)), .val (.ref b65), .val (.int (2 : Int32)), .val (.int (-1 : Int32)), .val (.int (-1 : Int32)), .val (.int (3 : Int32)), .val (.int (5 : Int32)), .val (.int (6 : Int32)), .val (.ref b109)] [(.int (1 : Int32))]) _ _ _
            refine Ends.go (fun _ k => XS.goto X113.here hx rfl (pc0 := 384) (pc' := 388) rfl (hb hby at_384) (by decide) (by decide) k) ?_
            show Ends p e below s T113 (mkF m 388 #[.val (.int p0), .val (.int p1), .val (.int p2), .val (.int p3), .val (.int s4), .val (.int s5), .val (.int s6), .val (.int s7), .val (.int r1), .val (.int r2), .val (.int r3), .val (.int (63 : Int32)), .val (.ref b65), .val (.int (2 : Int32)), .val (.int (-1 : Int32)), .val (.int (-1 : Int32)), .val (.int (3 : Int32)), .val (.int (5 : Int32)), .val (.int (6 : Int32)), .val (.ref b109)] [(.int (1 : Int32))]) _ _ _
            refine Ends.retZ X113 hx Bd.notSynchronized (t := .boolean) Bd.returns (by simp) (hb hby at_388) (by decide) (by decide) ?_
            exact ⟨rfl, N113⟩
        · refine Ends.go (fun _ k => XS.ifNo X65.here hx rfl (hb hby at_113) rfl ((if0 _ _).trans (feq hc113_90).1) k) ?_
          show Ends p e below s T65 (mkF m 116 #[.val (.int p0), .val (.int p1), .val (.int p2), .val (.int p3), .val (.int s4), .val (.int s5), .val (.int s6), .val (.int s7), .val (.int r1), .val (.int r2), .val (.int r3), .val (.int (63 : Int32)), .val (.ref b65), .val (.int (-1 : Int32)), .val (.int (-1 : Int32)), .val (.int (-1 : Int32)), .val (.int (0 : Int32)), .val (.int (5 : Int32)), .unset, .unset] []) _ _ _
          refine Ends.go (fun _ k => XS.aload X65.here hx rfl (hb hby at_116) rfl rfl k) ?_
          show Ends p e below s T65 (mkF m 118 #[.val (.int p0), .val (.int p1), .val (.int p2), .val (.int p3), .val (.int s4), .val (.int s5), .val (.int s6), .val (.int s7), .val (.int r1), .val (.int r2), .val (.int r3), .val (.int (63 : Int32)), .val (.ref b65), .val (.int (-1 : Int32)), .val (.int (-1 : Int32)), .val (.int (-1 : Int32)), .val (.int (0 : Int32)), .val (.int (5 : Int32)), .unset, .unset] [(.ref b65)]) _ _ _
          refine Ends.go (fun _ k => XS.iconst X65.here hx rfl (hb hby at_118) k) ?_
          show Ends p e below s T65 (mkF m 119 #[.val (.int p0), .val (.int p1), .val (.int p2), .val (.int p3), .val (.int s4), .val (.int s5), .val (.int s6), .val (.int s7), .val (.int r1), .val (.int r2), .val (.int r3), .val (.int (63 : Int32)), .val (.ref b65), .val (.int (-1 : Int32)), .val (.int (-1 : Int32)), .val (.int (-1 : Int32)), .val (.int (0 : Int32)), .val (.int (5 : Int32)), .unset, .unset] [(.int (0 : Int32)), (.ref b65)]) _ _ _
          refine Ends.go (fun _ k => XS.iload X65.here hx rfl (hb hby at_119) rfl k) ?_
          show Ends p e below s T65 (mkF m 121 #[.val (.int p0), .val (.int p1), .val (.int p2), .val (.int p3), .val (.int s4), .val (.int s5), .val (.int s6), .val (.int s7), .val (.int r1), .val (.int r2), .val (.int r3), .val (.int (63 : Int32)), .val (.ref b65), .val (.int (-1 : Int32)), .val (.int (-1 : Int32)), .val (.int (-1 : Int32)), .val (.int (0 : Int32)), .val (.int (5 : Int32)), .unset, .unset] [(.int r1), (.int (0 : Int32)), (.ref b65)]) _ _ _
          obtain ⟨cl114, Ar114, q114, S114, M114, H114, G114⟩ := id V_b65
          have hin114 := inb_of (j := (0 : Int32)) S114 ⟨by decide, by decide⟩
          obtain ⟨T114, h114, X114, e114, W114, st114⟩ := stC X65 hx hZ e65 Ar114 (j := (0 : Int32)) hin114 (g := (mkF m 121 #[.val (.int p0), .val (.int p1), .val (.int p2), .val (.int p3), .val (.int s4), .val (.int s5), .val (.int s6), .val (.int s7), .val (.int r1), .val (.int r2), .val (.int r3), .val (.int (63 : Int32)), .val (.ref b65), .val (.int (-1 : Int32)), .val (.int (-1 : Int32)), .val (.int (-1 : Int32)), .val (.int (0 : Int32)), .val (.int (5 : Int32)), .unset, .unset] [(.int r1), (.int (0 : Int32)), (.ref b65)])) rfl rfl (hb hby at_121)
          refine Ends.go st114 ?_
          have V114 : Arv Z h114 b65 k65 .char (6 : Int32) [(.int (nar .char r1)), (.int (0 : Int32)), (.int (0 : Int32)), (.int (0 : Int32)), (.int (0 : Int32)), (.int (0 : Int32))] (.int (0 : Int32)) := Arv.set Ar114 q114 S114 M114 H114 G114 (fits_nar_char _) W114 0 rfl (Nat.le_of_ble_eq_true rfl)
          have K114 := K65.wr W114 (Or.inr sz_b65)
          have O114 := O65.wr W114 g_b65
          have N114 := Fr.snoc X114 N3 g_b65
          show Ends p e below s T114 (mkF m 122 #[.val (.int p0), .val (.int p1), .val (.int p2), .val (.int p3), .val (.int s4), .val (.int s5), .val (.int s6), .val (.int s7), .val (.int r1), .val (.int r2), .val (.int r3), .val (.int (63 : Int32)), .val (.ref b65), .val (.int (-1 : Int32)), .val (.int (-1 : Int32)), .val (.int (-1 : Int32)), .val (.int (0 : Int32)), .val (.int (5 : Int32)), .unset, .unset] []) _ _ _
          refine Ends.go (fun _ k => XS.aload X114.here hx rfl (hb hby at_122) rfl rfl k) ?_
          show Ends p e below s T114 (mkF m 124 #[.val (.int p0), .val (.int p1), .val (.int p2), .val (.int p3), .val (.int s4), .val (.int s5), .val (.int s6), .val (.int s7), .val (.int r1), .val (.int r2), .val (.int r3), .val (.int (63 : Int32)), .val (.ref b65), .val (.int (-1 : Int32)), .val (.int (-1 : Int32)), .val (.int (-1 : Int32)), .val (.int (0 : Int32)), .val (.int (5 : Int32)), .unset, .unset] [(.ref b65)]) _ _ _
          refine Ends.go (fun _ k => XS.iconst X114.here hx rfl (hb hby at_124) k) ?_
          show Ends p e below s T114 (mkF m 125 #[.val (.int p0), .val (.int p1), .val (.int p2), .val (.int p3), .val (.int s4), .val (.int s5), .val (.int s6), .val (.int s7), .val (.int r1), .val (.int r2), .val (.int r3), .val (.int (63 : Int32)), .val (.ref b65), .val (.int (-1 : Int32)), .val (.int (-1 : Int32)), .val (.int (-1 : Int32)), .val (.int (0 : Int32)), .val (.int (5 : Int32)), .unset, .unset] [(.int (1 : Int32)), (.ref b65)]) _ _ _
          refine Ends.go (fun _ k => XS.bipush X114.here hx rfl (hb hby at_125) k) ?_
          show Ends p e below s T114 (mkF m 127 #[.val (.int p0), .val (.int p1), .val (.int p2), .val (.int p3), .val (.int s4), .val (.int s5), .val (.int s6), .val (.int s7), .val (.int r1), .val (.int r2), .val (.int r3), .val (.int (63 : Int32)), .val (.ref b65), .val (.int (-1 : Int32)), .val (.int (-1 : Int32)), .val (.int (-1 : Int32)), .val (.int (0 : Int32)), .val (.int (5 : Int32)), .unset, .unset] [(.int (58 : Int32)), (.int (1 : Int32)), (.ref b65)]) _ _ _
          obtain ⟨cl115, Ar115, q115, S115, M115, H115, G115⟩ := id V114
          have hin115 := inb_of (j := (1 : Int32)) S115 ⟨by decide, by decide⟩
          obtain ⟨T115, h115, X115, e115, W115, st115⟩ := stC X114 hx hZ e114 Ar115 (j := (1 : Int32)) hin115 (g := (mkF m 127 #[.val (.int p0), .val (.int p1), .val (.int p2), .val (.int p3), .val (.int s4), .val (.int s5), .val (.int s6), .val (.int s7), .val (.int r1), .val (.int r2), .val (.int r3), .val (.int (63 : Int32)), .val (.ref b65), .val (.int (-1 : Int32)), .val (.int (-1 : Int32)), .val (.int (-1 : Int32)), .val (.int (0 : Int32)), .val (.int (5 : Int32)), .unset, .unset] [(.int (58 : Int32)), (.int (1 : Int32)), (.ref b65)])) rfl rfl (hb hby at_127)
          refine Ends.go st115 ?_
          have V115 : Arv Z h115 b65 k65 .char (6 : Int32) [(.int (nar .char r1)), (.int (58 : Int32)), (.int (0 : Int32)), (.int (0 : Int32)), (.int (0 : Int32)), (.int (0 : Int32))] (.int (0 : Int32)) := Arv.set Ar115 q115 S115 M115 H115 G115 rfl W115 1 rfl (Nat.le_of_ble_eq_true rfl)
          have K115 := K114.wr W115 (Or.inr sz_b65)
          have O115 := O114.wr W115 g_b65
          have N115 := Fr.snoc X115 N114 g_b65
          show Ends p e below s T115 (mkF m 128 #[.val (.int p0), .val (.int p1), .val (.int p2), .val (.int p3), .val (.int s4), .val (.int s5), .val (.int s6), .val (.int s7), .val (.int r1), .val (.int r2), .val (.int r3), .val (.int (63 : Int32)), .val (.ref b65), .val (.int (-1 : Int32)), .val (.int (-1 : Int32)), .val (.int (-1 : Int32)), .val (.int (0 : Int32)), .val (.int (5 : Int32)), .unset, .unset] []) _ _ _
          refine Ends.go (fun _ k => XS.aload X115.here hx rfl (hb hby at_128) rfl rfl k) ?_
          show Ends p e below s T115 (mkF m 130 #[.val (.int p0), .val (.int p1), .val (.int p2), .val (.int p3), .val (.int s4), .val (.int s5), .val (.int s6), .val (.int s7), .val (.int r1), .val (.int r2), .val (.int r3), .val (.int (63 : Int32)), .val (.ref b65), .val (.int (-1 : Int32)), .val (.int (-1 : Int32)), .val (.int (-1 : Int32)), .val (.int (0 : Int32)), .val (.int (5 : Int32)), .unset, .unset] [(.ref b65)]) _ _ _
          refine Ends.go (fun _ k => XS.iconst X115.here hx rfl (hb hby at_130) k) ?_
          show Ends p e below s T115 (mkF m 131 #[.val (.int p0), .val (.int p1), .val (.int p2), .val (.int p3), .val (.int s4), .val (.int s5), .val (.int s6), .val (.int s7), .val (.int r1), .val (.int r2), .val (.int r3), .val (.int (63 : Int32)), .val (.ref b65), .val (.int (-1 : Int32)), .val (.int (-1 : Int32)), .val (.int (-1 : Int32)), .val (.int (0 : Int32)), .val (.int (5 : Int32)), .unset, .unset] [(.int (2 : Int32)), (.ref b65)]) _ _ _
          refine Ends.go (fun _ k => XS.bipush X115.here hx rfl (hb hby at_131) k) ?_
          show Ends p e below s T115 (mkF m 133 #[.val (.int p0), .val (.int p1), .val (.int p2), .val (.int p3), .val (.int s4), .val (.int s5), .val (.int s6), .val (.int s7), .val (.int r1), .val (.int r2), .val (.int r3), .val (.int (63 : Int32)), .val (.ref b65), .val (.int (-1 : Int32)), .val (.int (-1 : Int32)), .val (.int (-1 : Int32)), .val (.int (0 : Int32)), .val (.int (5 : Int32)), .unset, .unset] [(.int (47 : Int32)), (.int (2 : Int32)), (.ref b65)]) _ _ _
          obtain ⟨cl116, Ar116, q116, S116, M116, H116, G116⟩ := id V115
          have hin116 := inb_of (j := (2 : Int32)) S116 ⟨by decide, by decide⟩
          obtain ⟨T116, h116, X116, e116, W116, st116⟩ := stC X115 hx hZ e115 Ar116 (j := (2 : Int32)) hin116 (g := (mkF m 133 #[.val (.int p0), .val (.int p1), .val (.int p2), .val (.int p3), .val (.int s4), .val (.int s5), .val (.int s6), .val (.int s7), .val (.int r1), .val (.int r2), .val (.int r3), .val (.int (63 : Int32)), .val (.ref b65), .val (.int (-1 : Int32)), .val (.int (-1 : Int32)), .val (.int (-1 : Int32)), .val (.int (0 : Int32)), .val (.int (5 : Int32)), .unset, .unset] [(.int (47 : Int32)), (.int (2 : Int32)), (.ref b65)])) rfl rfl (hb hby at_133)
          refine Ends.go st116 ?_
          have V116 : Arv Z h116 b65 k65 .char (6 : Int32) [(.int (nar .char r1)), (.int (58 : Int32)), (.int (47 : Int32)), (.int (0 : Int32)), (.int (0 : Int32)), (.int (0 : Int32))] (.int (0 : Int32)) := Arv.set Ar116 q116 S116 M116 H116 G116 rfl W116 2 rfl (Nat.le_of_ble_eq_true rfl)
          have K116 := K115.wr W116 (Or.inr sz_b65)
          have O116 := O115.wr W116 g_b65
          have N116 := Fr.snoc X116 N115 g_b65
          show Ends p e below s T116 (mkF m 134 #[.val (.int p0), .val (.int p1), .val (.int p2), .val (.int p3), .val (.int s4), .val (.int s5), .val (.int s6), .val (.int s7), .val (.int r1), .val (.int r2), .val (.int r3), .val (.int (63 : Int32)), .val (.ref b65), .val (.int (-1 : Int32)), .val (.int (-1 : Int32)), .val (.int (-1 : Int32)), .val (.int (0 : Int32)), .val (.int (5 : Int32)), .unset, .unset] []) _ _ _
          refine Ends.go (fun _ k => XS.aload X116.here hx rfl (hb hby at_134) rfl rfl k) ?_
          show Ends p e below s T116 (mkF m 136 #[.val (.int p0), .val (.int p1), .val (.int p2), .val (.int p3), .val (.int s4), .val (.int s5), .val (.int s6), .val (.int s7), .val (.int r1), .val (.int r2), .val (.int r3), .val (.int (63 : Int32)), .val (.ref b65), .val (.int (-1 : Int32)), .val (.int (-1 : Int32)), .val (.int (-1 : Int32)), .val (.int (0 : Int32)), .val (.int (5 : Int32)), .unset, .unset] [(.ref b65)]) _ _ _
          refine Ends.go (fun _ k => XS.iconst X116.here hx rfl (hb hby at_136) k) ?_
          show Ends p e below s T116 (mkF m 137 #[.val (.int p0), .val (.int p1), .val (.int p2), .val (.int p3), .val (.int s4), .val (.int s5), .val (.int s6), .val (.int s7), .val (.int r1), .val (.int r2), .val (.int r3), .val (.int (63 : Int32)), .val (.ref b65), .val (.int (-1 : Int32)), .val (.int (-1 : Int32)), .val (.int (-1 : Int32)), .val (.int (0 : Int32)), .val (.int (5 : Int32)), .unset, .unset] [(.int (3 : Int32)), (.ref b65)]) _ _ _
          refine Ends.go (fun _ k => XS.bipush X116.here hx rfl (hb hby at_137) k) ?_
          show Ends p e below s T116 (mkF m 139 #[.val (.int p0), .val (.int p1), .val (.int p2), .val (.int p3), .val (.int s4), .val (.int s5), .val (.int s6), .val (.int s7), .val (.int r1), .val (.int r2), .val (.int r3), .val (.int (63 : Int32)), .val (.ref b65), .val (.int (-1 : Int32)), .val (.int (-1 : Int32)), .val (.int (-1 : Int32)), .val (.int (0 : Int32)), .val (.int (5 : Int32)), .unset, .unset] [(.int (47 : Int32)), (.int (3 : Int32)), (.ref b65)]) _ _ _
          obtain ⟨cl117, Ar117, q117, S117, M117, H117, G117⟩ := id V116
          have hin117 := inb_of (j := (3 : Int32)) S117 ⟨by decide, by decide⟩
          obtain ⟨T117, h117, X117, e117, W117, st117⟩ := stC X116 hx hZ e116 Ar117 (j := (3 : Int32)) hin117 (g := (mkF m 139 #[.val (.int p0), .val (.int p1), .val (.int p2), .val (.int p3), .val (.int s4), .val (.int s5), .val (.int s6), .val (.int s7), .val (.int r1), .val (.int r2), .val (.int r3), .val (.int (63 : Int32)), .val (.ref b65), .val (.int (-1 : Int32)), .val (.int (-1 : Int32)), .val (.int (-1 : Int32)), .val (.int (0 : Int32)), .val (.int (5 : Int32)), .unset, .unset] [(.int (47 : Int32)), (.int (3 : Int32)), (.ref b65)])) rfl rfl (hb hby at_139)
          refine Ends.go st117 ?_
          have V117 : Arv Z h117 b65 k65 .char (6 : Int32) [(.int (nar .char r1)), (.int (58 : Int32)), (.int (47 : Int32)), (.int (47 : Int32)), (.int (0 : Int32)), (.int (0 : Int32))] (.int (0 : Int32)) := Arv.set Ar117 q117 S117 M117 H117 G117 rfl W117 3 rfl (Nat.le_of_ble_eq_true rfl)
          have K117 := K116.wr W117 (Or.inr sz_b65)
          have O117 := O116.wr W117 g_b65
          have N117 := Fr.snoc X117 N116 g_b65
          show Ends p e below s T117 (mkF m 140 #[.val (.int p0), .val (.int p1), .val (.int p2), .val (.int p3), .val (.int s4), .val (.int s5), .val (.int s6), .val (.int s7), .val (.int r1), .val (.int r2), .val (.int r3), .val (.int (63 : Int32)), .val (.ref b65), .val (.int (-1 : Int32)), .val (.int (-1 : Int32)), .val (.int (-1 : Int32)), .val (.int (0 : Int32)), .val (.int (5 : Int32)), .unset, .unset] []) _ _ _
          refine Ends.go (fun _ k => XS.aload X117.here hx rfl (hb hby at_140) rfl rfl k) ?_
          show Ends p e below s T117 (mkF m 142 #[.val (.int p0), .val (.int p1), .val (.int p2), .val (.int p3), .val (.int s4), .val (.int s5), .val (.int s6), .val (.int s7), .val (.int r1), .val (.int r2), .val (.int r3), .val (.int (63 : Int32)), .val (.ref b65), .val (.int (-1 : Int32)), .val (.int (-1 : Int32)), .val (.int (-1 : Int32)), .val (.int (0 : Int32)), .val (.int (5 : Int32)), .unset, .unset] [(.ref b65)]) _ _ _
          refine Ends.go (fun _ k => XS.iconst X117.here hx rfl (hb hby at_142) k) ?_
          show Ends p e below s T117 (mkF m 143 #[.val (.int p0), .val (.int p1), .val (.int p2), .val (.int p3), .val (.int s4), .val (.int s5), .val (.int s6), .val (.int s7), .val (.int r1), .val (.int r2), .val (.int r3), .val (.int (63 : Int32)), .val (.ref b65), .val (.int (-1 : Int32)), .val (.int (-1 : Int32)), .val (.int (-1 : Int32)), .val (.int (0 : Int32)), .val (.int (5 : Int32)), .unset, .unset] [(.int (4 : Int32)), (.ref b65)]) _ _ _
          refine Ends.go (fun _ k => XS.iload X117.here hx rfl (hb hby at_143) rfl k) ?_
          show Ends p e below s T117 (mkF m 145 #[.val (.int p0), .val (.int p1), .val (.int p2), .val (.int p3), .val (.int s4), .val (.int s5), .val (.int s6), .val (.int s7), .val (.int r1), .val (.int r2), .val (.int r3), .val (.int (63 : Int32)), .val (.ref b65), .val (.int (-1 : Int32)), .val (.int (-1 : Int32)), .val (.int (-1 : Int32)), .val (.int (0 : Int32)), .val (.int (5 : Int32)), .unset, .unset] [(.int r2), (.int (4 : Int32)), (.ref b65)]) _ _ _
          obtain ⟨cl118, Ar118, q118, S118, M118, H118, G118⟩ := id V117
          have hin118 := inb_of (j := (4 : Int32)) S118 ⟨by decide, by decide⟩
          obtain ⟨T118, h118, X118, e118, W118, st118⟩ := stC X117 hx hZ e117 Ar118 (j := (4 : Int32)) hin118 (g := (mkF m 145 #[.val (.int p0), .val (.int p1), .val (.int p2), .val (.int p3), .val (.int s4), .val (.int s5), .val (.int s6), .val (.int s7), .val (.int r1), .val (.int r2), .val (.int r3), .val (.int (63 : Int32)), .val (.ref b65), .val (.int (-1 : Int32)), .val (.int (-1 : Int32)), .val (.int (-1 : Int32)), .val (.int (0 : Int32)), .val (.int (5 : Int32)), .unset, .unset] [(.int r2), (.int (4 : Int32)), (.ref b65)])) rfl rfl (hb hby at_145)
          refine Ends.go st118 ?_
          have V118 : Arv Z h118 b65 k65 .char (6 : Int32) [(.int (nar .char r1)), (.int (58 : Int32)), (.int (47 : Int32)), (.int (47 : Int32)), (.int (nar .char r2)), (.int (0 : Int32))] (.int (0 : Int32)) := Arv.set Ar118 q118 S118 M118 H118 G118 (fits_nar_char _) W118 4 rfl (Nat.le_of_ble_eq_true rfl)
          have K118 := K117.wr W118 (Or.inr sz_b65)
          have O118 := O117.wr W118 g_b65
          have N118 := Fr.snoc X118 N117 g_b65
          show Ends p e below s T118 (mkF m 146 #[.val (.int p0), .val (.int p1), .val (.int p2), .val (.int p3), .val (.int s4), .val (.int s5), .val (.int s6), .val (.int s7), .val (.int r1), .val (.int r2), .val (.int r3), .val (.int (63 : Int32)), .val (.ref b65), .val (.int (-1 : Int32)), .val (.int (-1 : Int32)), .val (.int (-1 : Int32)), .val (.int (0 : Int32)), .val (.int (5 : Int32)), .unset, .unset] []) _ _ _
          refine Ends.go (fun _ k => XS.iconst X118.here hx rfl (hb hby at_146) k) ?_
          show Ends p e below s T118 (mkF m 147 #[.val (.int p0), .val (.int p1), .val (.int p2), .val (.int p3), .val (.int s4), .val (.int s5), .val (.int s6), .val (.int s7), .val (.int r1), .val (.int r2), .val (.int r3), .val (.int (63 : Int32)), .val (.ref b65), .val (.int (-1 : Int32)), .val (.int (-1 : Int32)), .val (.int (-1 : Int32)), .val (.int (0 : Int32)), .val (.int (5 : Int32)), .unset, .unset] [(.int (1 : Int32))]) _ _ _
          refine Ends.go (fun _ k => XS.istore X118.here hx rfl (hb hby at_147) rfl (l' := #[.val (.int p0), .val (.int p1), .val (.int p2), .val (.int p3), .val (.int s4), .val (.int s5), .val (.int s6), .val (.int s7), .val (.int r1), .val (.int r2), .val (.int r3), .val (.int (63 : Int32)), .val (.ref b65), .val (.int (1 : Int32)), .val (.int (-1 : Int32)), .val (.int (-1 : Int32)), .val (.int (0 : Int32)), .val (.int (5 : Int32)), .unset, .unset]) rfl k) ?_
          show Ends p e below s T118 (mkF m 149 #[.val (.int p0), .val (.int p1), .val (.int p2), .val (.int p3), .val (.int s4), .val (.int s5), .val (.int s6), .val (.int s7), .val (.int r1), .val (.int r2), .val (.int r3), .val (.int (63 : Int32)), .val (.ref b65), .val (.int (1 : Int32)), .val (.int (-1 : Int32)), .val (.int (-1 : Int32)), .val (.int (0 : Int32)), .val (.int (5 : Int32)), .unset, .unset] []) _ _ _
          refine Ends.go (fun _ k => XS.iconst X118.here hx rfl (hb hby at_149) k) ?_
          show Ends p e below s T118 (mkF m 150 #[.val (.int p0), .val (.int p1), .val (.int p2), .val (.int p3), .val (.int s4), .val (.int s5), .val (.int s6), .val (.int s7), .val (.int r1), .val (.int r2), .val (.int r3), .val (.int (63 : Int32)), .val (.ref b65), .val (.int (1 : Int32)), .val (.int (-1 : Int32)), .val (.int (-1 : Int32)), .val (.int (0 : Int32)), .val (.int (5 : Int32)), .unset, .unset] [(.int (4 : Int32))]) _ _ _
          refine Ends.go (fun _ k => XS.istore X118.here hx rfl (hb hby at_150) rfl (l' := #[.val (.int p0), .val (.int p1), .val (.int p2), .val (.int p3), .val (.int s4), .val (.int s5), .val (.int s6), .val (.int s7), .val (.int r1), .val (.int r2), .val (.int r3), .val (.int (63 : Int32)), .val (.ref b65), .val (.int (1 : Int32)), .val (.int (4 : Int32)), .val (.int (-1 : Int32)), .val (.int (0 : Int32)), .val (.int (5 : Int32)), .unset, .unset]) rfl k) ?_
          show Ends p e below s T118 (mkF m 152 #[.val (.int p0), .val (.int p1), .val (.int p2), .val (.int p3), .val (.int s4), .val (.int s5), .val (.int s6), .val (.int s7), .val (.int r1), .val (.int r2), .val (.int r3), .val (.int (63 : Int32)), .val (.ref b65), .val (.int (1 : Int32)), .val (.int (4 : Int32)), .val (.int (-1 : Int32)), .val (.int (0 : Int32)), .val (.int (5 : Int32)), .unset, .unset] []) _ _ _
          refine Ends.go (fun _ k => XS.iconst X118.here hx rfl (hb hby at_152) k) ?_
          show Ends p e below s T118 (mkF m 153 #[.val (.int p0), .val (.int p1), .val (.int p2), .val (.int p3), .val (.int s4), .val (.int s5), .val (.int s6), .val (.int s7), .val (.int r1), .val (.int r2), .val (.int r3), .val (.int (63 : Int32)), .val (.ref b65), .val (.int (1 : Int32)), .val (.int (4 : Int32)), .val (.int (-1 : Int32)), .val (.int (0 : Int32)), .val (.int (5 : Int32)), .unset, .unset] [(.int (5 : Int32))]) _ _ _
          refine Ends.go (fun _ k => XS.istore X118.here hx rfl (hb hby at_153) rfl (l' := #[.val (.int p0), .val (.int p1), .val (.int p2), .val (.int p3), .val (.int s4), .val (.int s5), .val (.int s6), .val (.int s7), .val (.int r1), .val (.int r2), .val (.int r3), .val (.int (63 : Int32)), .val (.ref b65), .val (.int (1 : Int32)), .val (.int (4 : Int32)), .val (.int (5 : Int32)), .val (.int (0 : Int32)), .val (.int (5 : Int32)), .unset, .unset]) rfl k) ?_
          show Ends p e below s T118 (mkF m 155 #[.val (.int p0), .val (.int p1), .val (.int p2), .val (.int p3), .val (.int s4), .val (.int s5), .val (.int s6), .val (.int s7), .val (.int r1), .val (.int r2), .val (.int r3), .val (.int (63 : Int32)), .val (.ref b65), .val (.int (1 : Int32)), .val (.int (4 : Int32)), .val (.int (5 : Int32)), .val (.int (0 : Int32)), .val (.int (5 : Int32)), .unset, .unset] []) _ _ _
          refine Ends.go (fun _ k => XS.iconst X118.here hx rfl (hb hby at_155) k) ?_
          show Ends p e below s T118 (mkF m 156 #[.val (.int p0), .val (.int p1), .val (.int p2), .val (.int p3), .val (.int s4), .val (.int s5), .val (.int s6), .val (.int s7), .val (.int r1), .val (.int r2), .val (.int r3), .val (.int (63 : Int32)), .val (.ref b65), .val (.int (1 : Int32)), .val (.int (4 : Int32)), .val (.int (5 : Int32)), .val (.int (0 : Int32)), .val (.int (5 : Int32)), .unset, .unset] [(.int (5 : Int32))]) _ _ _
          refine Ends.go (fun _ k => XS.istore X118.here hx rfl (hb hby at_156) rfl (l' := #[.val (.int p0), .val (.int p1), .val (.int p2), .val (.int p3), .val (.int s4), .val (.int s5), .val (.int s6), .val (.int s7), .val (.int r1), .val (.int r2), .val (.int r3), .val (.int (63 : Int32)), .val (.ref b65), .val (.int (1 : Int32)), .val (.int (4 : Int32)), .val (.int (5 : Int32)), .val (.int (5 : Int32)), .val (.int (5 : Int32)), .unset, .unset]) rfl k) ?_
          show Ends p e below s T118 (mkF m 158 #[.val (.int p0), .val (.int p1), .val (.int p2), .val (.int p3), .val (.int s4), .val (.int s5), .val (.int s6), .val (.int s7), .val (.int r1), .val (.int r2), .val (.int r3), .val (.int (63 : Int32)), .val (.ref b65), .val (.int (1 : Int32)), .val (.int (4 : Int32)), .val (.int (5 : Int32)), .val (.int (5 : Int32)), .val (.int (5 : Int32)), .unset, .unset] []) _ _ _
          refine Ends.go (fun _ k => XS.goto X118.here hx rfl (pc0 := 158) (pc' := 324) rfl (hb hby at_158) (by decide) (by decide) k) ?_
          show Ends p e below s T118 (mkF m 324 #[.val (.int p0), .val (.int p1), .val (.int p2), .val (.int p3), .val (.int s4), .val (.int s5), .val (.int s6), .val (.int s7), .val (.int r1), .val (.int r2), .val (.int r3), .val (.int (63 : Int32)), .val (.ref b65), .val (.int (1 : Int32)), .val (.int (4 : Int32)), .val (.int (5 : Int32)), .val (.int (5 : Int32)), .val (.int (5 : Int32)), .unset, .unset] []) _ _ _
          refine Ends.go (fun _ k => XS.aload X118.here hx rfl (hb hby at_324) rfl rfl k) ?_
          show Ends p e below s T118 (mkF m 326 #[.val (.int p0), .val (.int p1), .val (.int p2), .val (.int p3), .val (.int s4), .val (.int s5), .val (.int s6), .val (.int s7), .val (.int r1), .val (.int r2), .val (.int r3), .val (.int (63 : Int32)), .val (.ref b65), .val (.int (1 : Int32)), .val (.int (4 : Int32)), .val (.int (5 : Int32)), .val (.int (5 : Int32)), .val (.int (5 : Int32)), .unset, .unset] [(.ref b65)]) _ _ _
          refine Ends.go (fun _ k => XS.iconst X118.here hx rfl (hb hby at_326) k) ?_
          show Ends p e below s T118 (mkF m 327 #[.val (.int p0), .val (.int p1), .val (.int p2), .val (.int p3), .val (.int s4), .val (.int s5), .val (.int s6), .val (.int s7), .val (.int r1), .val (.int r2), .val (.int r3), .val (.int (63 : Int32)), .val (.ref b65), .val (.int (1 : Int32)), .val (.int (4 : Int32)), .val (.int (5 : Int32)), .val (.int (5 : Int32)), .val (.int (5 : Int32)), .unset, .unset] [(.int (5 : Int32)), (.ref b65)]) _ _ _
          refine Ends.go (fun _ k => XS.iload X118.here hx rfl (hb hby at_327) rfl k) ?_
          show Ends p e below s T118 (mkF m 329 #[.val (.int p0), .val (.int p1), .val (.int p2), .val (.int p3), .val (.int s4), .val (.int s5), .val (.int s6), .val (.int s7), .val (.int r1), .val (.int r2), .val (.int r3), .val (.int (63 : Int32)), .val (.ref b65), .val (.int (1 : Int32)), .val (.int (4 : Int32)), .val (.int (5 : Int32)), .val (.int (5 : Int32)), .val (.int (5 : Int32)), .unset, .unset] [(.int (63 : Int32)), (.int (5 : Int32)), (.ref b65)]) _ _ _
          obtain ⟨cl119, Ar119, q119, S119, M119, H119, G119⟩ := id V118
          have hin119 := inb_of (j := (5 : Int32)) S119 ⟨by decide, by decide⟩
          obtain ⟨T119, h119, X119, e119, W119, st119⟩ := stC X118 hx hZ e118 Ar119 (j := (5 : Int32)) hin119 (g := (mkF m 329 #[.val (.int p0), .val (.int p1), .val (.int p2), .val (.int p3), .val (.int s4), .val (.int s5), .val (.int s6), .val (.int s7), .val (.int r1), .val (.int r2), .val (.int r3), .val (.int (63 : Int32)), .val (.ref b65), .val (.int (1 : Int32)), .val (.int (4 : Int32)), .val (.int (5 : Int32)), .val (.int (5 : Int32)), .val (.int (5 : Int32)), .unset, .unset] [(.int (63 : Int32)), (.int (5 : Int32)), (.ref b65)])) rfl rfl (hb hby at_329)
          refine Ends.go st119 ?_
          have V119 : Arv Z h119 b65 k65 .char (6 : Int32) [(.int (nar .char r1)), (.int (58 : Int32)), (.int (47 : Int32)), (.int (47 : Int32)), (.int (nar .char r2)), (.int (63 : Int32))] (.int (0 : Int32)) := Arv.set Ar119 q119 S119 M119 H119 G119 rfl W119 5 rfl (Nat.le_of_ble_eq_true rfl)
          have K119 := K118.wr W119 (Or.inr sz_b65)
          have O119 := O118.wr W119 g_b65
          have N119 := Fr.snoc X119 N118 g_b65
          show Ends p e below s T119 (mkF m 330 #[.val (.int p0), .val (.int p1), .val (.int p2), .val (.int p3), .val (.int s4), .val (.int s5), .val (.int s6), .val (.int s7), .val (.int r1), .val (.int r2), .val (.int r3), .val (.int (63 : Int32)), .val (.ref b65), .val (.int (1 : Int32)), .val (.int (4 : Int32)), .val (.int (5 : Int32)), .val (.int (5 : Int32)), .val (.int (5 : Int32)), .unset, .unset] []) _ _ _
          refine Ends.go (fun _ k => XS.iload X119.here hx rfl (hb hby at_330) rfl k) ?_
          show Ends p e below s T119 (mkF m 332 #[.val (.int p0), .val (.int p1), .val (.int p2), .val (.int p3), .val (.int s4), .val (.int s5), .val (.int s6), .val (.int s7), .val (.int r1), .val (.int r2), .val (.int r3), .val (.int (63 : Int32)), .val (.ref b65), .val (.int (1 : Int32)), .val (.int (4 : Int32)), .val (.int (5 : Int32)), .val (.int (5 : Int32)), .val (.int (5 : Int32)), .unset, .unset] [(.int s6)]) _ _ _
          refine Ends.go (fun _ k => XS.ifNo X119.here hx rfl (hb hby at_332) rfl ((if0 _ _).trans (feq (hc73_4 : ¬ (s6 = (0 : Int32)))).1) k) ?_
          show Ends p e below s T119 (mkF m 335 #[.val (.int p0), .val (.int p1), .val (.int p2), .val (.int p3), .val (.int s4), .val (.int s5), .val (.int s6), .val (.int s7), .val (.int r1), .val (.int r2), .val (.int r3), .val (.int (63 : Int32)), .val (.ref b65), .val (.int (1 : Int32)), .val (.int (4 : Int32)), .val (.int (5 : Int32)), .val (.int (5 : Int32)), .val (.int (5 : Int32)), .unset, .unset] []) _ _ _
          refine Ends.go (fun _ k => XS.bipush X119.here hx rfl (hb hby at_335) k) ?_
          show Ends p e below s T119 (mkF m 337 #[.val (.int p0), .val (.int p1), .val (.int p2), .val (.int p3), .val (.int s4), .val (.int s5), .val (.int s6), .val (.int s7), .val (.int r1), .val (.int r2), .val (.int r3), .val (.int (63 : Int32)), .val (.ref b65), .val (.int (1 : Int32)), .val (.int (4 : Int32)), .val (.int (5 : Int32)), .val (.int (5 : Int32)), .val (.int (5 : Int32)), .unset, .unset] [(.int (6 : Int32))]) _ _ _
          refine Ends.go (fun _ k => XS.goto X119.here hx rfl (pc0 := 337) (pc' := 341) rfl (hb hby at_337) (by decide) (by decide) k) ?_
          show Ends p e below s T119 (mkF m 341 #[.val (.int p0), .val (.int p1), .val (.int p2), .val (.int p3), .val (.int s4), .val (.int s5), .val (.int s6), .val (.int s7), .val (.int r1), .val (.int r2), .val (.int r3), .val (.int (63 : Int32)), .val (.ref b65), .val (.int (1 : Int32)), .val (.int (4 : Int32)), .val (.int (5 : Int32)), .val (.int (5 : Int32)), .val (.int (5 : Int32)), .unset, .unset] [(.int (6 : Int32))]) _ _ _
          refine Ends.go (fun _ k => XS.istore X119.here hx rfl (hb hby at_341) rfl (l' := #[.val (.int p0), .val (.int p1), .val (.int p2), .val (.int p3), .val (.int s4), .val (.int s5), .val (.int s6), .val (.int s7), .val (.int r1), .val (.int r2), .val (.int r3), .val (.int (63 : Int32)), .val (.ref b65), .val (.int (1 : Int32)), .val (.int (4 : Int32)), .val (.int (5 : Int32)), .val (.int (5 : Int32)), .val (.int (5 : Int32)), .val (.int (6 : Int32)), .unset]) rfl k) ?_
          show Ends p e below s T119 (mkF m 343 #[.val (.int p0), .val (.int p1), .val (.int p2), .val (.int p3), .val (.int s4), .val (.int s5), .val (.int s6), .val (.int s7), .val (.int r1), .val (.int r2), .val (.int r3), .val (.int (63 : Int32)), .val (.ref b65), .val (.int (1 : Int32)), .val (.int (4 : Int32)), .val (.int (5 : Int32)), .val (.int (5 : Int32)), .val (.int (5 : Int32)), .val (.int (6 : Int32)), .unset] []) _ _ _
          obtain ⟨T120, h120, X120, e120, E120, A120, D120, -, st120⟩ := newO X119 hx hZ hown (hw _ (List.mem_of_getElem? (i := 6) rfl)) (hw _ (List.mem_of_getElem? (i := 7) rfl)) (hw _ (List.mem_of_getElem? (i := 8) rfl)) e119 (g := (mkF m 343 #[.val (.int p0), .val (.int p1), .val (.int p2), .val (.int p3), .val (.int s4), .val (.int s5), .val (.int s6), .val (.int s7), .val (.int r1), .val (.int r2), .val (.int r3), .val (.int (63 : Int32)), .val (.ref b65), .val (.int (1 : Int32)), .val (.int (4 : Int32)), .val (.int (5 : Int32)), .val (.int (5 : Int32)), .val (.int (5 : Int32)), .val (.int (6 : Int32)), .unset] [])) rfl (hb hby at_343) (by decide) (by decide)
          obtain ⟨b120, g120⟩ : ∃ z, z = h119.size := ⟨_, rfl⟩
          rw [← g120] at A120 D120 st120
          refine Ends.go st120 ?_
          have ne_b65_b120 : b65 ≠ b120 := Nat.ne_of_lt (Nat.lt_of_lt_of_le V119.lt (Nat.le_of_eq g120.symm))
          have g_b120 : n0 ≤ b120 := Nat.le_trans (own_old_le O119) (Nat.le_of_eq g120.symm)
          have sz_b120 : h0.size ≤ b120 := Nat.le_trans K119.1 (Nat.le_of_eq g120.symm)
          have K120 := K119.ext E120
          have O120 := O119.ext E120
          have F_mText_b120 : Fld Z h120 b120 "com/example/authority/authority/UriReference" "mText" "Ljava/lang/String;" .null := D120 (Or.inr (hw _ (List.mem_of_getElem? (i := 43) rfl))) (ty := (.object "java/lang/String")) (by decide)
          have F_mSchemeEnd_b120 : Fld Z h120 b120 "com/example/authority/authority/UriReference" "mSchemeEnd" "I" (.int (0 : Int32)) := D120 (Or.inr (hw _ (List.mem_of_getElem? (i := 45) rfl))) (ty := .int) (by decide)
          have F_mHostStart_b120 : Fld Z h120 b120 "com/example/authority/authority/UriReference" "mHostStart" "I" (.int (0 : Int32)) := D120 (Or.inr (hw _ (List.mem_of_getElem? (i := 47) rfl))) (ty := .int) (by decide)
          have F_mHostEnd_b120 : Fld Z h120 b120 "com/example/authority/authority/UriReference" "mHostEnd" "I" (.int (0 : Int32)) := D120 (Or.inr (hw _ (List.mem_of_getElem? (i := 49) rfl))) (ty := .int) (by decide)
          have F_mPathStart_b120 : Fld Z h120 b120 "com/example/authority/authority/UriReference" "mPathStart" "I" (.int (0 : Int32)) := D120 (Or.inr (hw _ (List.mem_of_getElem? (i := 51) rfl))) (ty := .int) (by decide)
          have F_mPathEnd_b120 : Fld Z h120 b120 "com/example/authority/authority/UriReference" "mPathEnd" "I" (.int (0 : Int32)) := D120 (Or.inr (hw _ (List.mem_of_getElem? (i := 53) rfl))) (ty := .int) (by decide)
          have F_mQueryEnd_b120 : Fld Z h120 b120 "com/example/authority/authority/UriReference" "mQueryEnd" "I" (.int (0 : Int32)) := D120 (Or.inr (hw _ (List.mem_of_getElem? (i := 55) rfl))) (ty := .int) (by decide)
          show Ends p e below s T120 (mkF m 346 #[.val (.int p0), .val (.int p1), .val (.int p2), .val (.int p3), .val (.int s4), .val (.int s5), .val (.int s6), .val (.int s7), .val (.int r1), .val (.int r2), .val (.int r3), .val (.int (63 : Int32)), .val (.ref b65), .val (.int (1 : Int32)), .val (.int (4 : Int32)), .val (.int (5 : Int32)), .val (.int (5 : Int32)), .val (.int (5 : Int32)), .val (.int (6 : Int32)), .unset] [(.ref b120)]) _ _ _
          refine Ends.go (fun _ k => XS.dup X120.here hx rfl (hb hby at_346) rfl rfl k) ?_
          show Ends p e below s T120 (mkF m 347 #[.val (.int p0), .val (.int p1), .val (.int p2), .val (.int p3), .val (.int s4), .val (.int s5), .val (.int s6), .val (.int s7), .val (.int r1), .val (.int r2), .val (.int r3), .val (.int (63 : Int32)), .val (.ref b65), .val (.int (1 : Int32)), .val (.int (4 : Int32)), .val (.int (5 : Int32)), .val (.int (5 : Int32)), .val (.int (5 : Int32)), .val (.int (6 : Int32)), .unset] [(.ref b120), (.ref b120)]) _ _ _
          obtain ⟨T121, h121, X121, e121, E121, A121, D121, -, st121⟩ := newO X120 hx hZ hown (hw _ (List.mem_of_getElem? (i := 9) rfl)) (hw _ (List.mem_of_getElem? (i := 10) rfl)) (hw _ (List.mem_of_getElem? (i := 11) rfl)) e120 (g := (mkF m 347 #[.val (.int p0), .val (.int p1), .val (.int p2), .val (.int p3), .val (.int s4), .val (.int s5), .val (.int s6), .val (.int s7), .val (.int r1), .val (.int r2), .val (.int r3), .val (.int (63 : Int32)), .val (.ref b65), .val (.int (1 : Int32)), .val (.int (4 : Int32)), .val (.int (5 : Int32)), .val (.int (5 : Int32)), .val (.int (5 : Int32)), .val (.int (6 : Int32)), .unset] [(.ref b120), (.ref b120)])) rfl (hb hby at_347) (by decide) (by decide)
          obtain ⟨b121, g121⟩ : ∃ z, z = h120.size := ⟨_, rfl⟩
          rw [← g121] at A121 D121 st121
          refine Ends.go st121 ?_
          have ne_b65_b121 : b65 ≠ b121 := Nat.ne_of_lt (Nat.lt_of_lt_of_le (V119.ext E120).lt (Nat.le_of_eq g121.symm))
          have ne_b120_b121 : b120 ≠ b121 := Nat.ne_of_lt (Nat.lt_of_lt_of_le A120.lt (Nat.le_of_eq g121.symm))
          have g_b121 : n0 ≤ b121 := Nat.le_trans (own_old_le O120) (Nat.le_of_eq g121.symm)
          have sz_b121 : h0.size ≤ b121 := Nat.le_trans K120.1 (Nat.le_of_eq g121.symm)
          have K121 := K120.ext E121
          have O121 := O120.ext E121
          have F_coder_b121 : Fld Z h121 b121 "java/lang/String" "coder" "B" (.int (0 : Int32)) := D121 (Or.inr (hw _ (List.mem_of_getElem? (i := 35) rfl))) (ty := .byte) (by decide)
          have F_value_b121 : Fld Z h121 b121 "java/lang/String" "value" "[B" .null := D121 (Or.inr (hw _ (List.mem_of_getElem? (i := 37) rfl))) (ty := (.array .byte)) (by decide)
          show Ends p e below s T121 (mkF m 350 #[.val (.int p0), .val (.int p1), .val (.int p2), .val (.int p3), .val (.int s4), .val (.int s5), .val (.int s6), .val (.int s7), .val (.int r1), .val (.int r2), .val (.int r3), .val (.int (63 : Int32)), .val (.ref b65), .val (.int (1 : Int32)), .val (.int (4 : Int32)), .val (.int (5 : Int32)), .val (.int (5 : Int32)), .val (.int (5 : Int32)), .val (.int (6 : Int32)), .unset] [(.ref b121), (.ref b120), (.ref b120)]) _ _ _
          refine Ends.go (fun _ k => XS.dup X121.here hx rfl (hb hby at_350) rfl rfl k) ?_
          show Ends p e below s T121 (mkF m 351 #[.val (.int p0), .val (.int p1), .val (.int p2), .val (.int p3), .val (.int s4), .val (.int s5), .val (.int s6), .val (.int s7), .val (.int r1), .val (.int r2), .val (.int r3), .val (.int (63 : Int32)), .val (.ref b65), .val (.int (1 : Int32)), .val (.int (4 : Int32)), .val (.int (5 : Int32)), .val (.int (5 : Int32)), .val (.int (5 : Int32)), .val (.int (6 : Int32)), .unset] [(.ref b121), (.ref b121), (.ref b120), (.ref b120)]) _ _ _
          refine Ends.go (fun _ k => XS.aload X121.here hx rfl (hb hby at_351) rfl rfl k) ?_
          show Ends p e below s T121 (mkF m 353 #[.val (.int p0), .val (.int p1), .val (.int p2), .val (.int p3), .val (.int s4), .val (.int s5), .val (.int s6), .val (.int s7), .val (.int r1), .val (.int r2), .val (.int r3), .val (.int (63 : Int32)), .val (.ref b65), .val (.int (1 : Int32)), .val (.int (4 : Int32)), .val (.int (5 : Int32)), .val (.int (5 : Int32)), .val (.int (5 : Int32)), .val (.int (6 : Int32)), .unset] [(.ref b65), (.ref b121), (.ref b121), (.ref b120), (.ref b120)]) _ _ _
          have hp122 : ∀ c ∈ ([(nar .char r1), (58 : Int32), (47 : Int32), (47 : Int32), (nar .char r2), (63 : Int32)] : List Int32), ¬ c < 0 ∧ ¬ (255 : Int32) < c := by
            intro c hc
            simp only [List.mem_cons, List.not_mem_nil, or_false] at hc
            rcases hc with rfl | rfl | rfl | rfl | rfl | rfl
            · exact own_nar hr1
            · exact (by decide)
            · exact (by decide)
            · exact (by decide)
            · exact own_nar hr2
            · exact (by decide)
          obtain ⟨_, _, ⟨T122, L122, k122, n122⟩, -, X122, ⟨Lc122, hQ122, l122, y122, z122⟩, st122⟩ := X121.specialBack hx (y := (⟨"java/lang/String", "<init>", "([C)V"⟩ : MethodName)) rfl hown (mvT hZ (hw _ (List.mem_of_getElem? (i := 12) rfl))) (mvT hZ (hw _ (List.mem_of_getElem? (i := 13) rfl))) (mvT hZ (hw _ (List.mem_of_getElem? (i := 14) rfl))) (by decide) (StrChars.Road.backV (W := 3) hZ hws (kI := 4) (hw _ (List.mem_of_getElem? (i := 10) rfl)) (cs := ([(nar .char r1), (58 : Int32), (47 : Int32), (47 : Int32), (nar .char r2), (63 : Int32)] : List Int32)) (bs := ([(nar .char r1), (58 : Int32), (47 : Int32), (47 : Int32), (nar .char r2), (63 : Int32)] : List Int32).map (fun c => c.toInt8.toInt32)) (n := 6) g_b121 (own_old_le O121) A121 F_value_b121 F_coder_b121 ((V119.ext E120).ext E121) (O2.ext O121.2) P5 rfl rfl (by decide) (by decide) hp122 rfl (by decide) (by decide)) (g := (mkF m 353 #[.val (.int p0), .val (.int p1), .val (.int p2), .val (.int p3), .val (.int s4), .val (.int s5), .val (.int s6), .val (.int s7), .val (.int r1), .val (.int r2), .val (.int r3), .val (.int (63 : Int32)), .val (.ref b65), .val (.int (1 : Int32)), .val (.int (4 : Int32)), .val (.int (5 : Int32)), .val (.int (5 : Int32)), .val (.int (5 : Int32)), .val (.int (6 : Int32)), .unset] [(.ref b65), (.ref b121), (.ref b121), (.ref b120), (.ref b120)])) rfl (by rw [hml]; rfl) (Steps.refl _) (a := b121) (argsL := [(.ref b65)]) (rest := [(.ref b121), (.ref b120), (.ref b120)]) (lenOf pd0_1 rfl) rfl (by show 2 * 0 + _ ≤ _; exact Nat.le_of_eq rfl) (hb hby at_353) (fun _ _ => ⟨rfl, e121, (by decide : 3 + 1 ≤ _), (by decide : 17 + 6 ≤ _)⟩)
          dsimp only [Pt.U, Pt.locs, Pt.cells, Pt.slots] at X122 l122 y122 z122 st122 hQ122
          subst l122 y122 z122
          obtain ⟨rfl, N122q, K122c, Eq122, Cq122, t122, kb122, -, ht122, ht122', Vq122, Aq122⟩ := hQ122
          have N122 := Fr.app N119 N122q
          refine Ends.go (fun _ k => st122.trans k) ?_
          have ne_b65_t122 : b65 ≠ t122 := Nat.ne_of_lt (Nat.lt_of_lt_of_le ((V119.ext E120).ext E121).lt ht122)
          have ne_b120_t122 : b120 ≠ t122 := Nat.ne_of_lt (Nat.lt_of_lt_of_le (A120.ext E121).lt ht122)
          have ne_b121_t122 : b121 ≠ t122 := Nat.ne_of_lt (Nat.lt_of_lt_of_le A121.lt ht122)
          have g_t122 : n0 ≤ t122 := Nat.le_trans (own_old_le O121) ht122
          have sz_t122 : h0.size ≤ t122 := Nat.le_trans K121.1 ht122
          obtain ⟨h122, e122⟩ : ∃ z, T122.heap = z := ⟨_, rfl⟩
          rw [e122] at K122c Eq122 Cq122 Vq122 Aq122
          have K122 := K121.trans K122c (allS (Or.inr sz_b121) all0)
          have O122 := O121.keep K122c (allS g_b121 all0)
          show Ends p e below s T122 (mkF m 356 #[.val (.int p0), .val (.int p1), .val (.int p2), .val (.int p3), .val (.int s4), .val (.int s5), .val (.int s6), .val (.int s7), .val (.int r1), .val (.int r2), .val (.int r3), .val (.int (63 : Int32)), .val (.ref b65), .val (.int (1 : Int32)), .val (.int (4 : Int32)), .val (.int (5 : Int32)), .val (.int (5 : Int32)), .val (.int (5 : Int32)), .val (.int (6 : Int32)), .unset] [(.ref b121), (.ref b120), (.ref b120)]) _ _ _
          refine Ends.go (fun _ k => XS.iload X122.here hx rfl (hb hby at_356) rfl k) ?_
          show Ends p e below s T122 (mkF m 358 #[.val (.int p0), .val (.int p1), .val (.int p2), .val (.int p3), .val (.int s4), .val (.int s5), .val (.int s6), .val (.int s7), .val (.int r1), .val (.int r2), .val (.int r3), .val (.int (63 : Int32)), .val (.ref b65), .val (.int (1 : Int32)), .val (.int (4 : Int32)), .val (.int (5 : Int32)), .val (.int (5 : Int32)), .val (.int (5 : Int32)), .val (.int (6 : Int32)), .unset] [(.int (1 : Int32)), (.ref b121), (.ref b120), (.ref b120)]) _ _ _
          refine Ends.go (fun _ k => XS.iload X122.here hx rfl (hb hby at_358) rfl k) ?_
          show Ends p e below s T122 (mkF m 360 #[.val (.int p0), .val (.int p1), .val (.int p2), .val (.int p3), .val (.int s4), .val (.int s5), .val (.int s6), .val (.int s7), .val (.int r1), .val (.int r2), .val (.int r3), .val (.int (63 : Int32)), .val (.ref b65), .val (.int (1 : Int32)), .val (.int (4 : Int32)), .val (.int (5 : Int32)), .val (.int (5 : Int32)), .val (.int (5 : Int32)), .val (.int (6 : Int32)), .unset] [(.int (4 : Int32)), (.int (1 : Int32)), (.ref b121), (.ref b120), (.ref b120)]) _ _ _
          refine Ends.go (fun _ k => XS.iload X122.here hx rfl (hb hby at_360) rfl k) ?_
          show Ends p e below s T122 (mkF m 362 #[.val (.int p0), .val (.int p1), .val (.int p2), .val (.int p3), .val (.int s4), .val (.int s5), .val (.int s6), .val (.int s7), .val (.int r1), .val (.int r2), .val (.int r3), .val (.int (63 : Int32)), .val (.ref b65), .val (.int (1 : Int32)), .val (.int (4 : Int32)), .val (.int (5 : Int32)), .val (.int (5 : Int32)), .val (.int (5 : Int32)), .val (.int (6 : Int32)), .unset] [(.int (5 : Int32)), (.int (4 : Int32)), (.int (1 : Int32)), (.ref b121), (.ref b120), (.ref b120)]) _ _ _
          refine Ends.go (fun _ k => XS.iload X122.here hx rfl (hb hby at_362) rfl k) ?_
          show Ends p e below s T122 (mkF m 364 #[.val (.int p0), .val (.int p1), .val (.int p2), .val (.int p3), .val (.int s4), .val (.int s5), .val (.int s6), .val (.int s7), .val (.int r1), .val (.int r2), .val (.int r3), .val (.int (63 : Int32)), .val (.ref b65), .val (.int (1 : Int32)), .val (.int (4 : Int32)), .val (.int (5 : Int32)), .val (.int (5 : Int32)), .val (.int (5 : Int32)), .val (.int (6 : Int32)), .unset] [(.int (5 : Int32)), (.int (5 : Int32)), (.int (4 : Int32)), (.int (1 : Int32)), (.ref b121), (.ref b120), (.ref b120)]) _ _ _
          refine Ends.go (fun _ k => XS.iload X122.here hx rfl (hb hby at_364) rfl k) ?_
          show Ends p e below s T122 (mkF m 366 #[.val (.int p0), .val (.int p1), .val (.int p2), .val (.int p3), .val (.int s4), .val (.int s5), .val (.int s6), .val (.int s7), .val (.int r1), .val (.int r2), .val (.int r3), .val (.int (63 : Int32)), .val (.ref b65), .val (.int (1 : Int32)), .val (.int (4 : Int32)), .val (.int (5 : Int32)), .val (.int (5 : Int32)), .val (.int (5 : Int32)), .val (.int (6 : Int32)), .unset] [(.int (5 : Int32)), (.int (5 : Int32)), (.int (5 : Int32)), (.int (4 : Int32)), (.int (1 : Int32)), (.ref b121), (.ref b120), (.ref b120)]) _ _ _
          refine Ends.go (fun _ k => XS.iload X122.here hx rfl (hb hby at_366) rfl k) ?_
          show Ends p e below s T122 (mkF m 368 #[.val (.int p0), .val (.int p1), .val (.int p2), .val (.int p3), .val (.int s4), .val (.int s5), .val (.int s6), .val (.int s7), .val (.int r1), .val (.int r2), .val (.int r3), .val (.int (63 : Int32)), .val (.ref b65), .val (.int (1 : Int32)), .val (.int (4 : Int32)), .val (.int (5 : Int32)), .val (.int (5 : Int32)), .val (.int (5 : Int32)), .val (.int (6 : Int32)), .unset] [(.int (6 : Int32)), (.int (5 : Int32)), (.int (5 : Int32)), (.int (5 : Int32)), (.int (4 : Int32)), (.int (1 : Int32)), (.ref b121), (.ref b120), (.ref b120)]) _ _ _
          obtain ⟨_, _, ⟨T123, L123, k123, n123⟩, -, X123, ⟨Lc123, hQ123, l123, y123, z123⟩, st123⟩ := X122.specialBack hx (y := (⟨"com/example/authority/authority/UriReference", "<init>", "(Ljava/lang/String;IIIIII)V"⟩ : MethodName)) rfl hown (mvT hZ (hw _ (List.mem_of_getElem? (i := 38) rfl))) (mvT hZ (hw _ (List.mem_of_getElem? (i := 39) rfl))) (mvT hZ (hw _ (List.mem_of_getElem? (i := 40) rfl))) (by decide) (own_backOf (W := 1) (rmI l Z a0 hw [] n0 h122 O122 b120 b121 (1 : Int32) (4 : Int32) (5 : Int32) (5 : Int32) (5 : Int32) (6 : Int32) g_b120 ((A120.ext E121).keep K122c) ((F_mText_b120.ext E121).keep K122c (ninS ne_b120_b121 nin0)) ((F_mSchemeEnd_b120.ext E121).keep K122c (ninS ne_b120_b121 nin0)) ((F_mHostStart_b120.ext E121).keep K122c (ninS ne_b120_b121 nin0)) ((F_mHostEnd_b120.ext E121).keep K122c (ninS ne_b120_b121 nin0)) ((F_mPathStart_b120.ext E121).keep K122c (ninS ne_b120_b121 nin0)) ((F_mPathEnd_b120.ext E121).keep K122c (ninS ne_b120_b121 nin0)) ((F_mQueryEnd_b120.ext E121).keep K122c (ninS ne_b120_b121 nin0))) hZ (hw _ (List.mem_of_getElem? (i := 40) rfl)) (hw _ (List.mem_of_getElem? (i := 8) rfl)) (by decide) (by decide)) (g := (mkF m 368 #[.val (.int p0), .val (.int p1), .val (.int p2), .val (.int p3), .val (.int s4), .val (.int s5), .val (.int s6), .val (.int s7), .val (.int r1), .val (.int r2), .val (.int r3), .val (.int (63 : Int32)), .val (.ref b65), .val (.int (1 : Int32)), .val (.int (4 : Int32)), .val (.int (5 : Int32)), .val (.int (5 : Int32)), .val (.int (5 : Int32)), .val (.int (6 : Int32)), .unset] [(.int (6 : Int32)), (.int (5 : Int32)), (.int (5 : Int32)), (.int (5 : Int32)), (.int (4 : Int32)), (.int (1 : Int32)), (.ref b121), (.ref b120), (.ref b120)])) rfl (by rw [hml]; rfl) (Steps.refl _) (a := b120) (argsL := [(.ref b121), (.int (1 : Int32)), (.int (4 : Int32)), (.int (5 : Int32)), (.int (5 : Int32)), (.int (5 : Int32)), (.int (6 : Int32))]) (rest := [(.ref b120)]) (lenOf pd0_2 rfl) rfl (by show 2 * 0 + _ ≤ _; exact Nat.le_of_eq rfl) (hb hby at_368) (fun _ _ => ⟨rfl, e122, (by decide : 4 + 0 ≤ _), (by decide : 23 + 0 ≤ _)⟩)
          dsimp only [Pt.U, Pt.locs, Pt.cells, Pt.slots] at X123 l123 y123 z123 st123 hQ123
          subst l123 y123 z123
          obtain ⟨rfl, N123q, K123c, Eq123, Fq123_mText, Fq123_mSchemeEnd, Fq123_mHostStart, Fq123_mHostEnd, Fq123_mPathStart, Fq123_mPathEnd, Fq123_mQueryEnd⟩ := hQ123
          have N123 := Fr.app N122 N123q
          refine Ends.go (fun _ k => st123.trans k) ?_
          obtain ⟨h123, e123⟩ : ∃ z, T123.heap = z := ⟨_, rfl⟩
          rw [e123] at K123c Eq123 Fq123_mText Fq123_mSchemeEnd Fq123_mHostStart Fq123_mHostEnd Fq123_mPathStart Fq123_mPathEnd Fq123_mQueryEnd
          have K123 := K122.trans K123c (allS (Or.inr sz_b120) all0)
          have O123 := O122.keep K123c (allS g_b120 all0)
          show Ends p e below s T123 (mkF m 371 #[.val (.int p0), .val (.int p1), .val (.int p2), .val (.int p3), .val (.int s4), .val (.int s5), .val (.int s6), .val (.int s7), .val (.int r1), .val (.int r2), .val (.int r3), .val (.int (63 : Int32)), .val (.ref b65), .val (.int (1 : Int32)), .val (.int (4 : Int32)), .val (.int (5 : Int32)), .val (.int (5 : Int32)), .val (.int (5 : Int32)), .val (.int (6 : Int32)), .unset] [(.ref b120)]) _ _ _
          refine Ends.go (fun _ k => XS.astore X123.here hx rfl (hb hby at_371) rfl rfl (l' := #[.val (.int p0), .val (.int p1), .val (.int p2), .val (.int p3), .val (.int s4), .val (.int s5), .val (.int s6), .val (.int s7), .val (.int r1), .val (.int r2), .val (.int r3), .val (.int (63 : Int32)), .val (.ref b65), .val (.int (1 : Int32)), .val (.int (4 : Int32)), .val (.int (5 : Int32)), .val (.int (5 : Int32)), .val (.int (5 : Int32)), .val (.int (6 : Int32)), .val (.ref b120)]) rfl k) ?_
          show Ends p e below s T123 (mkF m 373 #[.val (.int p0), .val (.int p1), .val (.int p2), .val (.int p3), .val (.int s4), .val (.int s5), .val (.int s6), .val (.int s7), .val (.int r1), .val (.int r2), .val (.int r3), .val (.int (63 : Int32)), .val (.ref b65), .val (.int (1 : Int32)), .val (.int (4 : Int32)), .val (.int (5 : Int32)), .val (.int (5 : Int32)), .val (.int (5 : Int32)), .val (.int (6 : Int32)), .val (.ref b120)] []) _ _ _
          refine Ends.go (fun _ k => XS.aload X123.here hx rfl (hb hby at_373) rfl rfl k) ?_
          show Ends p e below s T123 (mkF m 375 #[.val (.int p0), .val (.int p1), .val (.int p2), .val (.int p3), .val (.int s4), .val (.int s5), .val (.int s6), .val (.int s7), .val (.int r1), .val (.int r2), .val (.int r3), .val (.int (63 : Int32)), .val (.ref b65), .val (.int (1 : Int32)), .val (.int (4 : Int32)), .val (.int (5 : Int32)), .val (.int (5 : Int32)), .val (.int (5 : Int32)), .val (.int (6 : Int32)), .val (.ref b120)] [(.ref b120)]) _ _ _
          obtain ⟨cq124, kq124, q124a, q124b, q124c⟩ := isOf hZ e123 Eq123
          obtain ⟨_, _, ⟨T124, L124, k124, n124⟩, -, X124, ⟨Lc124, hQ124, l124, y124, z124⟩, st124⟩ := X123.virtualBack hx (y := (⟨"com/example/authority/authority/UriReference", "isUri", "()Z"⟩ : MethodName)) (z := (⟨"com/example/authority/authority/UriReference", "isUri", "()Z"⟩ : MethodName)) hown (mvT hZ (hw _ (List.mem_of_getElem? (i := 56) rfl))) (mvT hZ (hw _ (List.mem_of_getElem? (i := 57) rfl))) (notFace_of_selects (args := #[]) (mvT hZ (hw _ (List.mem_of_getElem? (i := 59) rfl)))) (mvT hZ (hw _ (List.mem_of_getElem? (i := 59) rfl))) (mvT hZ (hw _ (List.mem_of_getElem? (i := 58) rfl))) (by decide) (own_backOf (W := 0) (rmQ l Z a0 hw [] n0 h123 O123 b120 (1 : Int32) Fq123_mSchemeEnd (1 : Int32) (by decide)) hZ (hw _ (List.mem_of_getElem? (i := 60) rfl)) (hw _ (List.mem_of_getElem? (i := 8) rfl)) (by decide) (by decide)) q124a q124c (g := (mkF m 375 #[.val (.int p0), .val (.int p1), .val (.int p2), .val (.int p3), .val (.int s4), .val (.int s5), .val (.int s6), .val (.int s7), .val (.int r1), .val (.int r2), .val (.int r3), .val (.int (63 : Int32)), .val (.ref b65), .val (.int (1 : Int32)), .val (.int (4 : Int32)), .val (.int (5 : Int32)), .val (.int (5 : Int32)), .val (.int (5 : Int32)), .val (.int (6 : Int32)), .val (.ref b120)] [(.ref b120)])) rfl (by rw [hml]; rfl) (Steps.refl _) (argsL := []) (rest := []) (lenOf pd0_3 rfl) rfl (by show 2 * 0 + _ ≤ _; exact Nat.le_of_eq rfl) (hb hby at_375) (fun _ _ => ⟨rfl, e123, (by decide : 4 + 0 ≤ _), (by decide : 23 + 0 ≤ _)⟩)
          dsimp only [Pt.U, Pt.locs, Pt.cells, Pt.slots] at X124 l124 y124 z124 st124 hQ124
          subst l124 y124 z124
          obtain ⟨rfl, N124q, e124q⟩ := hQ124
          have N124 := Fr.app N123 N124q
          refine Ends.go (fun _ k => st124.trans k) ?_
          show Ends p e below s T124 (mkF m 378 #[.val (.int p0), .val (.int p1), .val (.int p2), .val (.int p3), .val (.int s4), .val (.int s5), .val (.int s6), .val (.int s7), .val (.int r1), .val (.int r2), .val (.int r3), .val (.int (63 : Int32)), .val (.ref b65), .val (.int (1 : Int32)), .val (.int (4 : Int32)), .val (.int (5 : Int32)), .val (.int (5 : Int32)), .val (.int (5 : Int32)), .val (.int (6 : Int32)), .val (.ref b120)] [(.int (1 : Int32))]) _ _ _
          refine Ends.go (fun _ k => XS.iload X124.here hx rfl (hb hby at_378) rfl k) ?_
          show Ends p e below s T124 (mkF m 380 #[.val (.int p0), .val (.int p1), .val (.int p2), .val (.int p3), .val (.int s4), .val (.int s5), .val (.int s6), .val (.int s7), .val (.int r1), .val (.int r2), .val (.int r3), .val (.int (63 : Int32)), .val (.ref b65), .val (.int (1 : Int32)), .val (.int (4 : Int32)), .val (.int (5 : Int32)), .val (.int (5 : Int32)), .val (.int (5 : Int32)), .val (.int (6 : Int32)), .val (.ref b120)] [(.int s4), (.int (1 : Int32))]) _ _ _
          refine Ends.go (fun _ k => XS.icmpNo X124.here hx rfl (hb hby at_380) rfl (teq ((h4.resolve_left hc108_66).symm : (1 : Int32) = s4)).2 k) ?_
          show Ends p e below s T124 (mkF m 383 #[.val (.int p0), .val (.int p1), .val (.int p2), .val (.int p3), .val (.int s4), .val (.int s5), .val (.int s6), .val (.int s7), .val (.int r1), .val (.int r2), .val (.int r3), .val (.int (63 : Int32)), .val (.ref b65), .val (.int (1 : Int32)), .val (.int (4 : Int32)), .val (.int (5 : Int32)), .val (.int (5 : Int32)), .val (.int (5 : Int32)), .val (.int (6 : Int32)), .val (.ref b120)] []) _ _ _
          refine Ends.go (fun _ k => XS.iconst X124.here hx rfl (hb hby at_383) k) ?_
          show Ends p e below s T124 (mkF m 384 #[.val (.int p0), .val (.int p1), .val (.int p2), .val (.int p3), .val (.int s4), .val (.int s5), .val (.int s6), .val (.int s7), .val (.int r1), .val (.int r2), .val (.int r3), .val (.int (63 : Int32)), .val (.ref b65), .val (.int (1 : Int32)), .val (.int (4 : Int32)), .val (.int (5 : Int32)), .val (.int (5 : Int32)), .val (.int (5 : Int32)), .val (.int (6 : Int32)), .val (.ref b120)] [(.int (1 : Int32))]) _ _ _
          refine Ends.go (fun _ k => XS.goto X124.here hx rfl (pc0 := 384) (pc' := 388) rfl (hb hby at_384) (by decide) (by decide) k) ?_
          show Ends p e below s T124 (mkF m 388 #[.val (.int p0), .val (.int p1), .val (.int p2), .val (.int p3), .val (.int s4), .val (.int s5), .val (.int s6), .val (.int s7), .val (.int r1), .val (.int r2), .val (.int r3), .val (.int (63 : Int32)), .val (.ref b65), .val (.int (1 : Int32)), .val (.int (4 : Int32)), .val (.int (5 : Int32)), .val (.int (5 : Int32)), .val (.int (5 : Int32)), .val (.int (6 : Int32)), .val (.ref b120)] [(.int (1 : Int32))]) _ _ _
          refine Ends.retZ X124 hx Bd.notSynchronized (t := .boolean) Bd.returns (by simp) (hb hby at_388) (by decide) (by decide) ?_
          exact ⟨rfl, N124⟩
  show Ends p e below s s₁ (mkF m 0 #[.val (.int p0), .val (.int p1), .val (.int p2), .val (.int p3), .unset, .unset, .unset, .unset, .unset, .unset, .unset, .unset, .unset, .unset, .unset, .unset, .unset, .unset, .unset, .unset] []) _ _ _
  refine Ends.go (fun _ k => XS.iloadN X0.here hx rfl (hb hby at_0) rfl k) ?_
  show Ends p e below s s₁ (mkF m 1 #[.val (.int p0), .val (.int p1), .val (.int p2), .val (.int p3), .unset, .unset, .unset, .unset, .unset, .unset, .unset, .unset, .unset, .unset, .unset, .unset, .unset, .unset, .unset, .unset] [(.int p0)]) _ _ _
  refine Ends.go (fun _ k => XS.iconst X0.here hx rfl (hb hby at_1) k) ?_
  show Ends p e below s s₁ (mkF m 2 #[.val (.int p0), .val (.int p1), .val (.int p2), .val (.int p3), .unset, .unset, .unset, .unset, .unset, .unset, .unset, .unset, .unset, .unset, .unset, .unset, .unset, .unset, .unset, .unset] [(.int (1 : Int32)), (.int p0)]) _ _ _
  refine Ends.go (fun _ k => XS.iand X0.here hx rfl (hb hby at_2) rfl k) ?_
  show Ends p e below s s₁ (mkF m 3 #[.val (.int p0), .val (.int p1), .val (.int p2), .val (.int p3), .unset, .unset, .unset, .unset, .unset, .unset, .unset, .unset, .unset, .unset, .unset, .unset, .unset, .unset, .unset, .unset] [(.int (p0 &&& (1 : Int32)))]) _ _ _
  by_cases hc3_125 : (p0 &&& (1 : Int32)) = (0 : Int32)
  · refine Ends.go (fun _ k => XS.ifYes X0.here hx rfl (pc0 := 3) (pc' := 10) rfl (hb hby at_3) rfl ((if0 _ _).trans (teq hc3_125).1) (by decide) (by decide) k) ?_
    show Ends p e below s s₁ (mkF m 10 #[.val (.int p0), .val (.int p1), .val (.int p2), .val (.int p3), .unset, .unset, .unset, .unset, .unset, .unset, .unset, .unset, .unset, .unset, .unset, .unset, .unset, .unset, .unset, .unset] []) _ _ _
    refine Ends.go (fun _ k => XS.iconst X0.here hx rfl (hb hby at_10) k) ?_
    show Ends p e below s s₁ (mkF m 11 #[.val (.int p0), .val (.int p1), .val (.int p2), .val (.int p3), .unset, .unset, .unset, .unset, .unset, .unset, .unset, .unset, .unset, .unset, .unset, .unset, .unset, .unset, .unset, .unset] [(.int (0 : Int32))]) _ _ _
    refine Ends.go (fun _ k => XS.istore X0.here hx rfl (hb hby at_11) rfl (l' := #[.val (.int p0), .val (.int p1), .val (.int p2), .val (.int p3), .val (.int (0 : Int32)), .unset, .unset, .unset, .unset, .unset, .unset, .unset, .unset, .unset, .unset, .unset, .unset, .unset, .unset, .unset]) rfl k) ?_
    show Ends p e below s s₁ (mkF m 13 #[.val (.int p0), .val (.int p1), .val (.int p2), .val (.int p3), .val (.int (0 : Int32)), .unset, .unset, .unset, .unset, .unset, .unset, .unset, .unset, .unset, .unset, .unset, .unset, .unset, .unset, .unset] []) _ _ _
    refine Ends.go (fun _ k => XS.iloadN X0.here hx rfl (hb hby at_13) rfl k) ?_
    show Ends p e below s s₁ (mkF m 14 #[.val (.int p0), .val (.int p1), .val (.int p2), .val (.int p3), .val (.int (0 : Int32)), .unset, .unset, .unset, .unset, .unset, .unset, .unset, .unset, .unset, .unset, .unset, .unset, .unset, .unset, .unset] [(.int p0)]) _ _ _
    refine Ends.go (fun _ k => XS.iconst X0.here hx rfl (hb hby at_14) k) ?_
    show Ends p e below s s₁ (mkF m 15 #[.val (.int p0), .val (.int p1), .val (.int p2), .val (.int p3), .val (.int (0 : Int32)), .unset, .unset, .unset, .unset, .unset, .unset, .unset, .unset, .unset, .unset, .unset, .unset, .unset, .unset, .unset] [(.int (2 : Int32)), (.int p0)]) _ _ _
    refine Ends.go (fun _ k => XS.iand X0.here hx rfl (hb hby at_15) rfl k) ?_
    show Ends p e below s s₁ (mkF m 16 #[.val (.int p0), .val (.int p1), .val (.int p2), .val (.int p3), .val (.int (0 : Int32)), .unset, .unset, .unset, .unset, .unset, .unset, .unset, .unset, .unset, .unset, .unset, .unset, .unset, .unset, .unset] [(.int (p0 &&& (2 : Int32)))]) _ _ _
    by_cases hc16_126 : (p0 &&& (2 : Int32)) = (0 : Int32)
    · refine Ends.go (fun _ k => XS.ifYes X0.here hx rfl (pc0 := 16) (pc' := 23) rfl (hb hby at_16) rfl ((if0 _ _).trans (teq hc16_126).1) (by decide) (by decide) k) ?_
      show Ends p e below s s₁ (mkF m 23 #[.val (.int p0), .val (.int p1), .val (.int p2), .val (.int p3), .val (.int (0 : Int32)), .unset, .unset, .unset, .unset, .unset, .unset, .unset, .unset, .unset, .unset, .unset, .unset, .unset, .unset, .unset] []) _ _ _
      refine Ends.go (fun _ k => XS.iconst X0.here hx rfl (hb hby at_23) k) ?_
      show Ends p e below s s₁ (mkF m 24 #[.val (.int p0), .val (.int p1), .val (.int p2), .val (.int p3), .val (.int (0 : Int32)), .unset, .unset, .unset, .unset, .unset, .unset, .unset, .unset, .unset, .unset, .unset, .unset, .unset, .unset, .unset] [(.int (0 : Int32))]) _ _ _
      refine Ends.go (fun _ k => XS.istore X0.here hx rfl (hb hby at_24) rfl (l' := #[.val (.int p0), .val (.int p1), .val (.int p2), .val (.int p3), .val (.int (0 : Int32)), .val (.int (0 : Int32)), .unset, .unset, .unset, .unset, .unset, .unset, .unset, .unset, .unset, .unset, .unset, .unset, .unset, .unset]) rfl k) ?_
      show Ends p e below s s₁ (mkF m 26 #[.val (.int p0), .val (.int p1), .val (.int p2), .val (.int p3), .val (.int (0 : Int32)), .val (.int (0 : Int32)), .unset, .unset, .unset, .unset, .unset, .unset, .unset, .unset, .unset, .unset, .unset, .unset, .unset, .unset] []) _ _ _
      refine Ends.go (fun _ k => XS.iloadN X0.here hx rfl (hb hby at_26) rfl k) ?_
      show Ends p e below s s₁ (mkF m 27 #[.val (.int p0), .val (.int p1), .val (.int p2), .val (.int p3), .val (.int (0 : Int32)), .val (.int (0 : Int32)), .unset, .unset, .unset, .unset, .unset, .unset, .unset, .unset, .unset, .unset, .unset, .unset, .unset, .unset] [(.int p0)]) _ _ _
      refine Ends.go (fun _ k => XS.iconst X0.here hx rfl (hb hby at_27) k) ?_
      show Ends p e below s s₁ (mkF m 28 #[.val (.int p0), .val (.int p1), .val (.int p2), .val (.int p3), .val (.int (0 : Int32)), .val (.int (0 : Int32)), .unset, .unset, .unset, .unset, .unset, .unset, .unset, .unset, .unset, .unset, .unset, .unset, .unset, .unset] [(.int (4 : Int32)), (.int p0)]) _ _ _
      refine Ends.go (fun _ k => XS.iand X0.here hx rfl (hb hby at_28) rfl k) ?_
      show Ends p e below s s₁ (mkF m 29 #[.val (.int p0), .val (.int p1), .val (.int p2), .val (.int p3), .val (.int (0 : Int32)), .val (.int (0 : Int32)), .unset, .unset, .unset, .unset, .unset, .unset, .unset, .unset, .unset, .unset, .unset, .unset, .unset, .unset] [(.int (p0 &&& (4 : Int32)))]) _ _ _
      by_cases hc29_127 : (p0 &&& (4 : Int32)) = (0 : Int32)
      · refine Ends.go (fun _ k => XS.ifYes X0.here hx rfl (pc0 := 29) (pc' := 36) rfl (hb hby at_29) rfl ((if0 _ _).trans (teq hc29_127).1) (by decide) (by decide) k) ?_
        show Ends p e below s s₁ (mkF m 36 #[.val (.int p0), .val (.int p1), .val (.int p2), .val (.int p3), .val (.int (0 : Int32)), .val (.int (0 : Int32)), .unset, .unset, .unset, .unset, .unset, .unset, .unset, .unset, .unset, .unset, .unset, .unset, .unset, .unset] []) _ _ _
        refine Ends.go (fun _ k => XS.iconst X0.here hx rfl (hb hby at_36) k) ?_
        show Ends p e below s s₁ (mkF m 37 #[.val (.int p0), .val (.int p1), .val (.int p2), .val (.int p3), .val (.int (0 : Int32)), .val (.int (0 : Int32)), .unset, .unset, .unset, .unset, .unset, .unset, .unset, .unset, .unset, .unset, .unset, .unset, .unset, .unset] [(.int (0 : Int32))]) _ _ _
        refine Ends.go (fun _ k => XS.istore X0.here hx rfl (hb hby at_37) rfl (l' := #[.val (.int p0), .val (.int p1), .val (.int p2), .val (.int p3), .val (.int (0 : Int32)), .val (.int (0 : Int32)), .val (.int (0 : Int32)), .unset, .unset, .unset, .unset, .unset, .unset, .unset, .unset, .unset, .unset, .unset, .unset, .unset]) rfl k) ?_
        show Ends p e below s s₁ (mkF m 39 #[.val (.int p0), .val (.int p1), .val (.int p2), .val (.int p3), .val (.int (0 : Int32)), .val (.int (0 : Int32)), .val (.int (0 : Int32)), .unset, .unset, .unset, .unset, .unset, .unset, .unset, .unset, .unset, .unset, .unset, .unset, .unset] []) _ _ _
        refine Ends.go (fun _ k => XS.iloadN X0.here hx rfl (hb hby at_39) rfl k) ?_
        show Ends p e below s s₁ (mkF m 40 #[.val (.int p0), .val (.int p1), .val (.int p2), .val (.int p3), .val (.int (0 : Int32)), .val (.int (0 : Int32)), .val (.int (0 : Int32)), .unset, .unset, .unset, .unset, .unset, .unset, .unset, .unset, .unset, .unset, .unset, .unset, .unset] [(.int p0)]) _ _ _
        refine Ends.go (fun _ k => XS.bipush X0.here hx rfl (hb hby at_40) k) ?_
        show Ends p e below s s₁ (mkF m 42 #[.val (.int p0), .val (.int p1), .val (.int p2), .val (.int p3), .val (.int (0 : Int32)), .val (.int (0 : Int32)), .val (.int (0 : Int32)), .unset, .unset, .unset, .unset, .unset, .unset, .unset, .unset, .unset, .unset, .unset, .unset, .unset] [(.int (8 : Int32)), (.int p0)]) _ _ _
        refine Ends.go (fun _ k => XS.iand X0.here hx rfl (hb hby at_42) rfl k) ?_
        show Ends p e below s s₁ (mkF m 43 #[.val (.int p0), .val (.int p1), .val (.int p2), .val (.int p3), .val (.int (0 : Int32)), .val (.int (0 : Int32)), .val (.int (0 : Int32)), .unset, .unset, .unset, .unset, .unset, .unset, .unset, .unset, .unset, .unset, .unset, .unset, .unset] [(.int (p0 &&& (8 : Int32)))]) _ _ _
        by_cases hc43_128 : (p0 &&& (8 : Int32)) = (0 : Int32)
        · refine Ends.go (fun _ k => XS.ifYes X0.here hx rfl (pc0 := 43) (pc' := 50) rfl (hb hby at_43) rfl ((if0 _ _).trans (teq hc43_128).1) (by decide) (by decide) k) ?_
          show Ends p e below s s₁ (mkF m 50 #[.val (.int p0), .val (.int p1), .val (.int p2), .val (.int p3), .val (.int (0 : Int32)), .val (.int (0 : Int32)), .val (.int (0 : Int32)), .unset, .unset, .unset, .unset, .unset, .unset, .unset, .unset, .unset, .unset, .unset, .unset, .unset] []) _ _ _
          refine Ends.go (fun _ k => XS.iconst X0.here hx rfl (hb hby at_50) k) ?_
          show Ends p e below s s₁ (mkF m 51 #[.val (.int p0), .val (.int p1), .val (.int p2), .val (.int p3), .val (.int (0 : Int32)), .val (.int (0 : Int32)), .val (.int (0 : Int32)), .unset, .unset, .unset, .unset, .unset, .unset, .unset, .unset, .unset, .unset, .unset, .unset, .unset] [(.int (0 : Int32))]) _ _ _
          refine Ends.go (fun _ k => XS.istore X0.here hx rfl (hb hby at_51) rfl (l' := #[.val (.int p0), .val (.int p1), .val (.int p2), .val (.int p3), .val (.int (0 : Int32)), .val (.int (0 : Int32)), .val (.int (0 : Int32)), .val (.int (0 : Int32)), .unset, .unset, .unset, .unset, .unset, .unset, .unset, .unset, .unset, .unset, .unset, .unset]) rfl k) ?_
          show Ends p e below s s₁ (mkF m 53 #[.val (.int p0), .val (.int p1), .val (.int p2), .val (.int p3), .val (.int (0 : Int32)), .val (.int (0 : Int32)), .val (.int (0 : Int32)), .val (.int (0 : Int32)), .unset, .unset, .unset, .unset, .unset, .unset, .unset, .unset, .unset, .unset, .unset, .unset] []) _ _ _
          exact J53 _ _ _ _ (by decide)
        · refine Ends.go (fun _ k => XS.ifNo X0.here hx rfl (hb hby at_43) rfl ((if0 _ _).trans (feq hc43_128).1) k) ?_
          show Ends p e below s s₁ (mkF m 46 #[.val (.int p0), .val (.int p1), .val (.int p2), .val (.int p3), .val (.int (0 : Int32)), .val (.int (0 : Int32)), .val (.int (0 : Int32)), .unset, .unset, .unset, .unset, .unset, .unset, .unset, .unset, .unset, .unset, .unset, .unset, .unset] []) _ _ _
          refine Ends.go (fun _ k => XS.iconst X0.here hx rfl (hb hby at_46) k) ?_
          show Ends p e below s s₁ (mkF m 47 #[.val (.int p0), .val (.int p1), .val (.int p2), .val (.int p3), .val (.int (0 : Int32)), .val (.int (0 : Int32)), .val (.int (0 : Int32)), .unset, .unset, .unset, .unset, .unset, .unset, .unset, .unset, .unset, .unset, .unset, .unset, .unset] [(.int (1 : Int32))]) _ _ _
          refine Ends.go (fun _ k => XS.goto X0.here hx rfl (pc0 := 47) (pc' := 51) rfl (hb hby at_47) (by decide) (by decide) k) ?_
          show Ends p e below s s₁ (mkF m 51 #[.val (.int p0), .val (.int p1), .val (.int p2), .val (.int p3), .val (.int (0 : Int32)), .val (.int (0 : Int32)), .val (.int (0 : Int32)), .unset, .unset, .unset, .unset, .unset, .unset, .unset, .unset, .unset, .unset, .unset, .unset, .unset] [(.int (1 : Int32))]) _ _ _
          refine Ends.go (fun _ k => XS.istore X0.here hx rfl (hb hby at_51) rfl (l' := #[.val (.int p0), .val (.int p1), .val (.int p2), .val (.int p3), .val (.int (0 : Int32)), .val (.int (0 : Int32)), .val (.int (0 : Int32)), .val (.int (1 : Int32)), .unset, .unset, .unset, .unset, .unset, .unset, .unset, .unset, .unset, .unset, .unset, .unset]) rfl k) ?_
          show Ends p e below s s₁ (mkF m 53 #[.val (.int p0), .val (.int p1), .val (.int p2), .val (.int p3), .val (.int (0 : Int32)), .val (.int (0 : Int32)), .val (.int (0 : Int32)), .val (.int (1 : Int32)), .unset, .unset, .unset, .unset, .unset, .unset, .unset, .unset, .unset, .unset, .unset, .unset] []) _ _ _
          exact J53 _ _ _ _ (by decide)
      · refine Ends.go (fun _ k => XS.ifNo X0.here hx rfl (hb hby at_29) rfl ((if0 _ _).trans (feq hc29_127).1) k) ?_
        show Ends p e below s s₁ (mkF m 32 #[.val (.int p0), .val (.int p1), .val (.int p2), .val (.int p3), .val (.int (0 : Int32)), .val (.int (0 : Int32)), .unset, .unset, .unset, .unset, .unset, .unset, .unset, .unset, .unset, .unset, .unset, .unset, .unset, .unset] []) _ _ _
        refine Ends.go (fun _ k => XS.iconst X0.here hx rfl (hb hby at_32) k) ?_
        show Ends p e below s s₁ (mkF m 33 #[.val (.int p0), .val (.int p1), .val (.int p2), .val (.int p3), .val (.int (0 : Int32)), .val (.int (0 : Int32)), .unset, .unset, .unset, .unset, .unset, .unset, .unset, .unset, .unset, .unset, .unset, .unset, .unset, .unset] [(.int (1 : Int32))]) _ _ _
        refine Ends.go (fun _ k => XS.goto X0.here hx rfl (pc0 := 33) (pc' := 37) rfl (hb hby at_33) (by decide) (by decide) k) ?_
        show Ends p e below s s₁ (mkF m 37 #[.val (.int p0), .val (.int p1), .val (.int p2), .val (.int p3), .val (.int (0 : Int32)), .val (.int (0 : Int32)), .unset, .unset, .unset, .unset, .unset, .unset, .unset, .unset, .unset, .unset, .unset, .unset, .unset, .unset] [(.int (1 : Int32))]) _ _ _
        refine Ends.go (fun _ k => XS.istore X0.here hx rfl (hb hby at_37) rfl (l' := #[.val (.int p0), .val (.int p1), .val (.int p2), .val (.int p3), .val (.int (0 : Int32)), .val (.int (0 : Int32)), .val (.int (1 : Int32)), .unset, .unset, .unset, .unset, .unset, .unset, .unset, .unset, .unset, .unset, .unset, .unset, .unset]) rfl k) ?_
        show Ends p e below s s₁ (mkF m 39 #[.val (.int p0), .val (.int p1), .val (.int p2), .val (.int p3), .val (.int (0 : Int32)), .val (.int (0 : Int32)), .val (.int (1 : Int32)), .unset, .unset, .unset, .unset, .unset, .unset, .unset, .unset, .unset, .unset, .unset, .unset, .unset] []) _ _ _
        refine Ends.go (fun _ k => XS.iloadN X0.here hx rfl (hb hby at_39) rfl k) ?_
        show Ends p e below s s₁ (mkF m 40 #[.val (.int p0), .val (.int p1), .val (.int p2), .val (.int p3), .val (.int (0 : Int32)), .val (.int (0 : Int32)), .val (.int (1 : Int32)), .unset, .unset, .unset, .unset, .unset, .unset, .unset, .unset, .unset, .unset, .unset, .unset, .unset] [(.int p0)]) _ _ _
        refine Ends.go (fun _ k => XS.bipush X0.here hx rfl (hb hby at_40) k) ?_
        show Ends p e below s s₁ (mkF m 42 #[.val (.int p0), .val (.int p1), .val (.int p2), .val (.int p3), .val (.int (0 : Int32)), .val (.int (0 : Int32)), .val (.int (1 : Int32)), .unset, .unset, .unset, .unset, .unset, .unset, .unset, .unset, .unset, .unset, .unset, .unset, .unset] [(.int (8 : Int32)), (.int p0)]) _ _ _
        refine Ends.go (fun _ k => XS.iand X0.here hx rfl (hb hby at_42) rfl k) ?_
        show Ends p e below s s₁ (mkF m 43 #[.val (.int p0), .val (.int p1), .val (.int p2), .val (.int p3), .val (.int (0 : Int32)), .val (.int (0 : Int32)), .val (.int (1 : Int32)), .unset, .unset, .unset, .unset, .unset, .unset, .unset, .unset, .unset, .unset, .unset, .unset, .unset] [(.int (p0 &&& (8 : Int32)))]) _ _ _
        by_cases hc43_129 : (p0 &&& (8 : Int32)) = (0 : Int32)
        · refine Ends.go (fun _ k => XS.ifYes X0.here hx rfl (pc0 := 43) (pc' := 50) rfl (hb hby at_43) rfl ((if0 _ _).trans (teq hc43_129).1) (by decide) (by decide) k) ?_
          show Ends p e below s s₁ (mkF m 50 #[.val (.int p0), .val (.int p1), .val (.int p2), .val (.int p3), .val (.int (0 : Int32)), .val (.int (0 : Int32)), .val (.int (1 : Int32)), .unset, .unset, .unset, .unset, .unset, .unset, .unset, .unset, .unset, .unset, .unset, .unset, .unset] []) _ _ _
          refine Ends.go (fun _ k => XS.iconst X0.here hx rfl (hb hby at_50) k) ?_
          show Ends p e below s s₁ (mkF m 51 #[.val (.int p0), .val (.int p1), .val (.int p2), .val (.int p3), .val (.int (0 : Int32)), .val (.int (0 : Int32)), .val (.int (1 : Int32)), .unset, .unset, .unset, .unset, .unset, .unset, .unset, .unset, .unset, .unset, .unset, .unset, .unset] [(.int (0 : Int32))]) _ _ _
          refine Ends.go (fun _ k => XS.istore X0.here hx rfl (hb hby at_51) rfl (l' := #[.val (.int p0), .val (.int p1), .val (.int p2), .val (.int p3), .val (.int (0 : Int32)), .val (.int (0 : Int32)), .val (.int (1 : Int32)), .val (.int (0 : Int32)), .unset, .unset, .unset, .unset, .unset, .unset, .unset, .unset, .unset, .unset, .unset, .unset]) rfl k) ?_
          show Ends p e below s s₁ (mkF m 53 #[.val (.int p0), .val (.int p1), .val (.int p2), .val (.int p3), .val (.int (0 : Int32)), .val (.int (0 : Int32)), .val (.int (1 : Int32)), .val (.int (0 : Int32)), .unset, .unset, .unset, .unset, .unset, .unset, .unset, .unset, .unset, .unset, .unset, .unset] []) _ _ _
          exact J53 _ _ _ _ (by decide)
        · refine Ends.go (fun _ k => XS.ifNo X0.here hx rfl (hb hby at_43) rfl ((if0 _ _).trans (feq hc43_129).1) k) ?_
          show Ends p e below s s₁ (mkF m 46 #[.val (.int p0), .val (.int p1), .val (.int p2), .val (.int p3), .val (.int (0 : Int32)), .val (.int (0 : Int32)), .val (.int (1 : Int32)), .unset, .unset, .unset, .unset, .unset, .unset, .unset, .unset, .unset, .unset, .unset, .unset, .unset] []) _ _ _
          refine Ends.go (fun _ k => XS.iconst X0.here hx rfl (hb hby at_46) k) ?_
          show Ends p e below s s₁ (mkF m 47 #[.val (.int p0), .val (.int p1), .val (.int p2), .val (.int p3), .val (.int (0 : Int32)), .val (.int (0 : Int32)), .val (.int (1 : Int32)), .unset, .unset, .unset, .unset, .unset, .unset, .unset, .unset, .unset, .unset, .unset, .unset, .unset] [(.int (1 : Int32))]) _ _ _
          refine Ends.go (fun _ k => XS.goto X0.here hx rfl (pc0 := 47) (pc' := 51) rfl (hb hby at_47) (by decide) (by decide) k) ?_
          show Ends p e below s s₁ (mkF m 51 #[.val (.int p0), .val (.int p1), .val (.int p2), .val (.int p3), .val (.int (0 : Int32)), .val (.int (0 : Int32)), .val (.int (1 : Int32)), .unset, .unset, .unset, .unset, .unset, .unset, .unset, .unset, .unset, .unset, .unset, .unset, .unset] [(.int (1 : Int32))]) _ _ _
          refine Ends.go (fun _ k => XS.istore X0.here hx rfl (hb hby at_51) rfl (l' := #[.val (.int p0), .val (.int p1), .val (.int p2), .val (.int p3), .val (.int (0 : Int32)), .val (.int (0 : Int32)), .val (.int (1 : Int32)), .val (.int (1 : Int32)), .unset, .unset, .unset, .unset, .unset, .unset, .unset, .unset, .unset, .unset, .unset, .unset]) rfl k) ?_
          show Ends p e below s s₁ (mkF m 53 #[.val (.int p0), .val (.int p1), .val (.int p2), .val (.int p3), .val (.int (0 : Int32)), .val (.int (0 : Int32)), .val (.int (1 : Int32)), .val (.int (1 : Int32)), .unset, .unset, .unset, .unset, .unset, .unset, .unset, .unset, .unset, .unset, .unset, .unset] []) _ _ _
          exact J53 _ _ _ _ (by decide)
    · refine Ends.go (fun _ k => XS.ifNo X0.here hx rfl (hb hby at_16) rfl ((if0 _ _).trans (feq hc16_126).1) k) ?_
      show Ends p e below s s₁ (mkF m 19 #[.val (.int p0), .val (.int p1), .val (.int p2), .val (.int p3), .val (.int (0 : Int32)), .unset, .unset, .unset, .unset, .unset, .unset, .unset, .unset, .unset, .unset, .unset, .unset, .unset, .unset, .unset] []) _ _ _
      refine Ends.go (fun _ k => XS.iconst X0.here hx rfl (hb hby at_19) k) ?_
      show Ends p e below s s₁ (mkF m 20 #[.val (.int p0), .val (.int p1), .val (.int p2), .val (.int p3), .val (.int (0 : Int32)), .unset, .unset, .unset, .unset, .unset, .unset, .unset, .unset, .unset, .unset, .unset, .unset, .unset, .unset, .unset] [(.int (1 : Int32))]) _ _ _
      refine Ends.go (fun _ k => XS.goto X0.here hx rfl (pc0 := 20) (pc' := 24) rfl (hb hby at_20) (by decide) (by decide) k) ?_
      show Ends p e below s s₁ (mkF m 24 #[.val (.int p0), .val (.int p1), .val (.int p2), .val (.int p3), .val (.int (0 : Int32)), .unset, .unset, .unset, .unset, .unset, .unset, .unset, .unset, .unset, .unset, .unset, .unset, .unset, .unset, .unset] [(.int (1 : Int32))]) _ _ _
      refine Ends.go (fun _ k => XS.istore X0.here hx rfl (hb hby at_24) rfl (l' := #[.val (.int p0), .val (.int p1), .val (.int p2), .val (.int p3), .val (.int (0 : Int32)), .val (.int (1 : Int32)), .unset, .unset, .unset, .unset, .unset, .unset, .unset, .unset, .unset, .unset, .unset, .unset, .unset, .unset]) rfl k) ?_
      show Ends p e below s s₁ (mkF m 26 #[.val (.int p0), .val (.int p1), .val (.int p2), .val (.int p3), .val (.int (0 : Int32)), .val (.int (1 : Int32)), .unset, .unset, .unset, .unset, .unset, .unset, .unset, .unset, .unset, .unset, .unset, .unset, .unset, .unset] []) _ _ _
      refine Ends.go (fun _ k => XS.iloadN X0.here hx rfl (hb hby at_26) rfl k) ?_
      show Ends p e below s s₁ (mkF m 27 #[.val (.int p0), .val (.int p1), .val (.int p2), .val (.int p3), .val (.int (0 : Int32)), .val (.int (1 : Int32)), .unset, .unset, .unset, .unset, .unset, .unset, .unset, .unset, .unset, .unset, .unset, .unset, .unset, .unset] [(.int p0)]) _ _ _
      refine Ends.go (fun _ k => XS.iconst X0.here hx rfl (hb hby at_27) k) ?_
      show Ends p e below s s₁ (mkF m 28 #[.val (.int p0), .val (.int p1), .val (.int p2), .val (.int p3), .val (.int (0 : Int32)), .val (.int (1 : Int32)), .unset, .unset, .unset, .unset, .unset, .unset, .unset, .unset, .unset, .unset, .unset, .unset, .unset, .unset] [(.int (4 : Int32)), (.int p0)]) _ _ _
      refine Ends.go (fun _ k => XS.iand X0.here hx rfl (hb hby at_28) rfl k) ?_
      show Ends p e below s s₁ (mkF m 29 #[.val (.int p0), .val (.int p1), .val (.int p2), .val (.int p3), .val (.int (0 : Int32)), .val (.int (1 : Int32)), .unset, .unset, .unset, .unset, .unset, .unset, .unset, .unset, .unset, .unset, .unset, .unset, .unset, .unset] [(.int (p0 &&& (4 : Int32)))]) _ _ _
      by_cases hc29_130 : (p0 &&& (4 : Int32)) = (0 : Int32)
      · refine Ends.go (fun _ k => XS.ifYes X0.here hx rfl (pc0 := 29) (pc' := 36) rfl (hb hby at_29) rfl ((if0 _ _).trans (teq hc29_130).1) (by decide) (by decide) k) ?_
        show Ends p e below s s₁ (mkF m 36 #[.val (.int p0), .val (.int p1), .val (.int p2), .val (.int p3), .val (.int (0 : Int32)), .val (.int (1 : Int32)), .unset, .unset, .unset, .unset, .unset, .unset, .unset, .unset, .unset, .unset, .unset, .unset, .unset, .unset] []) _ _ _
        refine Ends.go (fun _ k => XS.iconst X0.here hx rfl (hb hby at_36) k) ?_
        show Ends p e below s s₁ (mkF m 37 #[.val (.int p0), .val (.int p1), .val (.int p2), .val (.int p3), .val (.int (0 : Int32)), .val (.int (1 : Int32)), .unset, .unset, .unset, .unset, .unset, .unset, .unset, .unset, .unset, .unset, .unset, .unset, .unset, .unset] [(.int (0 : Int32))]) _ _ _
        refine Ends.go (fun _ k => XS.istore X0.here hx rfl (hb hby at_37) rfl (l' := #[.val (.int p0), .val (.int p1), .val (.int p2), .val (.int p3), .val (.int (0 : Int32)), .val (.int (1 : Int32)), .val (.int (0 : Int32)), .unset, .unset, .unset, .unset, .unset, .unset, .unset, .unset, .unset, .unset, .unset, .unset, .unset]) rfl k) ?_
        show Ends p e below s s₁ (mkF m 39 #[.val (.int p0), .val (.int p1), .val (.int p2), .val (.int p3), .val (.int (0 : Int32)), .val (.int (1 : Int32)), .val (.int (0 : Int32)), .unset, .unset, .unset, .unset, .unset, .unset, .unset, .unset, .unset, .unset, .unset, .unset, .unset] []) _ _ _
        refine Ends.go (fun _ k => XS.iloadN X0.here hx rfl (hb hby at_39) rfl k) ?_
        show Ends p e below s s₁ (mkF m 40 #[.val (.int p0), .val (.int p1), .val (.int p2), .val (.int p3), .val (.int (0 : Int32)), .val (.int (1 : Int32)), .val (.int (0 : Int32)), .unset, .unset, .unset, .unset, .unset, .unset, .unset, .unset, .unset, .unset, .unset, .unset, .unset] [(.int p0)]) _ _ _
        refine Ends.go (fun _ k => XS.bipush X0.here hx rfl (hb hby at_40) k) ?_
        show Ends p e below s s₁ (mkF m 42 #[.val (.int p0), .val (.int p1), .val (.int p2), .val (.int p3), .val (.int (0 : Int32)), .val (.int (1 : Int32)), .val (.int (0 : Int32)), .unset, .unset, .unset, .unset, .unset, .unset, .unset, .unset, .unset, .unset, .unset, .unset, .unset] [(.int (8 : Int32)), (.int p0)]) _ _ _
        refine Ends.go (fun _ k => XS.iand X0.here hx rfl (hb hby at_42) rfl k) ?_
        show Ends p e below s s₁ (mkF m 43 #[.val (.int p0), .val (.int p1), .val (.int p2), .val (.int p3), .val (.int (0 : Int32)), .val (.int (1 : Int32)), .val (.int (0 : Int32)), .unset, .unset, .unset, .unset, .unset, .unset, .unset, .unset, .unset, .unset, .unset, .unset, .unset] [(.int (p0 &&& (8 : Int32)))]) _ _ _
        by_cases hc43_131 : (p0 &&& (8 : Int32)) = (0 : Int32)
        · refine Ends.go (fun _ k => XS.ifYes X0.here hx rfl (pc0 := 43) (pc' := 50) rfl (hb hby at_43) rfl ((if0 _ _).trans (teq hc43_131).1) (by decide) (by decide) k) ?_
          show Ends p e below s s₁ (mkF m 50 #[.val (.int p0), .val (.int p1), .val (.int p2), .val (.int p3), .val (.int (0 : Int32)), .val (.int (1 : Int32)), .val (.int (0 : Int32)), .unset, .unset, .unset, .unset, .unset, .unset, .unset, .unset, .unset, .unset, .unset, .unset, .unset] []) _ _ _
          refine Ends.go (fun _ k => XS.iconst X0.here hx rfl (hb hby at_50) k) ?_
          show Ends p e below s s₁ (mkF m 51 #[.val (.int p0), .val (.int p1), .val (.int p2), .val (.int p3), .val (.int (0 : Int32)), .val (.int (1 : Int32)), .val (.int (0 : Int32)), .unset, .unset, .unset, .unset, .unset, .unset, .unset, .unset, .unset, .unset, .unset, .unset, .unset] [(.int (0 : Int32))]) _ _ _
          refine Ends.go (fun _ k => XS.istore X0.here hx rfl (hb hby at_51) rfl (l' := #[.val (.int p0), .val (.int p1), .val (.int p2), .val (.int p3), .val (.int (0 : Int32)), .val (.int (1 : Int32)), .val (.int (0 : Int32)), .val (.int (0 : Int32)), .unset, .unset, .unset, .unset, .unset, .unset, .unset, .unset, .unset, .unset, .unset, .unset]) rfl k) ?_
          show Ends p e below s s₁ (mkF m 53 #[.val (.int p0), .val (.int p1), .val (.int p2), .val (.int p3), .val (.int (0 : Int32)), .val (.int (1 : Int32)), .val (.int (0 : Int32)), .val (.int (0 : Int32)), .unset, .unset, .unset, .unset, .unset, .unset, .unset, .unset, .unset, .unset, .unset, .unset] []) _ _ _
          exact J53 _ _ _ _ (by decide)
        · refine Ends.go (fun _ k => XS.ifNo X0.here hx rfl (hb hby at_43) rfl ((if0 _ _).trans (feq hc43_131).1) k) ?_
          show Ends p e below s s₁ (mkF m 46 #[.val (.int p0), .val (.int p1), .val (.int p2), .val (.int p3), .val (.int (0 : Int32)), .val (.int (1 : Int32)), .val (.int (0 : Int32)), .unset, .unset, .unset, .unset, .unset, .unset, .unset, .unset, .unset, .unset, .unset, .unset, .unset] []) _ _ _
          refine Ends.go (fun _ k => XS.iconst X0.here hx rfl (hb hby at_46) k) ?_
          show Ends p e below s s₁ (mkF m 47 #[.val (.int p0), .val (.int p1), .val (.int p2), .val (.int p3), .val (.int (0 : Int32)), .val (.int (1 : Int32)), .val (.int (0 : Int32)), .unset, .unset, .unset, .unset, .unset, .unset, .unset, .unset, .unset, .unset, .unset, .unset, .unset] [(.int (1 : Int32))]) _ _ _
          refine Ends.go (fun _ k => XS.goto X0.here hx rfl (pc0 := 47) (pc' := 51) rfl (hb hby at_47) (by decide) (by decide) k) ?_
          show Ends p e below s s₁ (mkF m 51 #[.val (.int p0), .val (.int p1), .val (.int p2), .val (.int p3), .val (.int (0 : Int32)), .val (.int (1 : Int32)), .val (.int (0 : Int32)), .unset, .unset, .unset, .unset, .unset, .unset, .unset, .unset, .unset, .unset, .unset, .unset, .unset] [(.int (1 : Int32))]) _ _ _
          refine Ends.go (fun _ k => XS.istore X0.here hx rfl (hb hby at_51) rfl (l' := #[.val (.int p0), .val (.int p1), .val (.int p2), .val (.int p3), .val (.int (0 : Int32)), .val (.int (1 : Int32)), .val (.int (0 : Int32)), .val (.int (1 : Int32)), .unset, .unset, .unset, .unset, .unset, .unset, .unset, .unset, .unset, .unset, .unset, .unset]) rfl k) ?_
          show Ends p e below s s₁ (mkF m 53 #[.val (.int p0), .val (.int p1), .val (.int p2), .val (.int p3), .val (.int (0 : Int32)), .val (.int (1 : Int32)), .val (.int (0 : Int32)), .val (.int (1 : Int32)), .unset, .unset, .unset, .unset, .unset, .unset, .unset, .unset, .unset, .unset, .unset, .unset] []) _ _ _
          exact J53 _ _ _ _ (by decide)
      · refine Ends.go (fun _ k => XS.ifNo X0.here hx rfl (hb hby at_29) rfl ((if0 _ _).trans (feq hc29_130).1) k) ?_
        show Ends p e below s s₁ (mkF m 32 #[.val (.int p0), .val (.int p1), .val (.int p2), .val (.int p3), .val (.int (0 : Int32)), .val (.int (1 : Int32)), .unset, .unset, .unset, .unset, .unset, .unset, .unset, .unset, .unset, .unset, .unset, .unset, .unset, .unset] []) _ _ _
        refine Ends.go (fun _ k => XS.iconst X0.here hx rfl (hb hby at_32) k) ?_
        show Ends p e below s s₁ (mkF m 33 #[.val (.int p0), .val (.int p1), .val (.int p2), .val (.int p3), .val (.int (0 : Int32)), .val (.int (1 : Int32)), .unset, .unset, .unset, .unset, .unset, .unset, .unset, .unset, .unset, .unset, .unset, .unset, .unset, .unset] [(.int (1 : Int32))]) _ _ _
        refine Ends.go (fun _ k => XS.goto X0.here hx rfl (pc0 := 33) (pc' := 37) rfl (hb hby at_33) (by decide) (by decide) k) ?_
        show Ends p e below s s₁ (mkF m 37 #[.val (.int p0), .val (.int p1), .val (.int p2), .val (.int p3), .val (.int (0 : Int32)), .val (.int (1 : Int32)), .unset, .unset, .unset, .unset, .unset, .unset, .unset, .unset, .unset, .unset, .unset, .unset, .unset, .unset] [(.int (1 : Int32))]) _ _ _
        refine Ends.go (fun _ k => XS.istore X0.here hx rfl (hb hby at_37) rfl (l' := #[.val (.int p0), .val (.int p1), .val (.int p2), .val (.int p3), .val (.int (0 : Int32)), .val (.int (1 : Int32)), .val (.int (1 : Int32)), .unset, .unset, .unset, .unset, .unset, .unset, .unset, .unset, .unset, .unset, .unset, .unset, .unset]) rfl k) ?_
        show Ends p e below s s₁ (mkF m 39 #[.val (.int p0), .val (.int p1), .val (.int p2), .val (.int p3), .val (.int (0 : Int32)), .val (.int (1 : Int32)), .val (.int (1 : Int32)), .unset, .unset, .unset, .unset, .unset, .unset, .unset, .unset, .unset, .unset, .unset, .unset, .unset] []) _ _ _
        refine Ends.go (fun _ k => XS.iloadN X0.here hx rfl (hb hby at_39) rfl k) ?_
        show Ends p e below s s₁ (mkF m 40 #[.val (.int p0), .val (.int p1), .val (.int p2), .val (.int p3), .val (.int (0 : Int32)), .val (.int (1 : Int32)), .val (.int (1 : Int32)), .unset, .unset, .unset, .unset, .unset, .unset, .unset, .unset, .unset, .unset, .unset, .unset, .unset] [(.int p0)]) _ _ _
        refine Ends.go (fun _ k => XS.bipush X0.here hx rfl (hb hby at_40) k) ?_
        show Ends p e below s s₁ (mkF m 42 #[.val (.int p0), .val (.int p1), .val (.int p2), .val (.int p3), .val (.int (0 : Int32)), .val (.int (1 : Int32)), .val (.int (1 : Int32)), .unset, .unset, .unset, .unset, .unset, .unset, .unset, .unset, .unset, .unset, .unset, .unset, .unset] [(.int (8 : Int32)), (.int p0)]) _ _ _
        refine Ends.go (fun _ k => XS.iand X0.here hx rfl (hb hby at_42) rfl k) ?_
        show Ends p e below s s₁ (mkF m 43 #[.val (.int p0), .val (.int p1), .val (.int p2), .val (.int p3), .val (.int (0 : Int32)), .val (.int (1 : Int32)), .val (.int (1 : Int32)), .unset, .unset, .unset, .unset, .unset, .unset, .unset, .unset, .unset, .unset, .unset, .unset, .unset] [(.int (p0 &&& (8 : Int32)))]) _ _ _
        by_cases hc43_132 : (p0 &&& (8 : Int32)) = (0 : Int32)
        · refine Ends.go (fun _ k => XS.ifYes X0.here hx rfl (pc0 := 43) (pc' := 50) rfl (hb hby at_43) rfl ((if0 _ _).trans (teq hc43_132).1) (by decide) (by decide) k) ?_
          show Ends p e below s s₁ (mkF m 50 #[.val (.int p0), .val (.int p1), .val (.int p2), .val (.int p3), .val (.int (0 : Int32)), .val (.int (1 : Int32)), .val (.int (1 : Int32)), .unset, .unset, .unset, .unset, .unset, .unset, .unset, .unset, .unset, .unset, .unset, .unset, .unset] []) _ _ _
          refine Ends.go (fun _ k => XS.iconst X0.here hx rfl (hb hby at_50) k) ?_
          show Ends p e below s s₁ (mkF m 51 #[.val (.int p0), .val (.int p1), .val (.int p2), .val (.int p3), .val (.int (0 : Int32)), .val (.int (1 : Int32)), .val (.int (1 : Int32)), .unset, .unset, .unset, .unset, .unset, .unset, .unset, .unset, .unset, .unset, .unset, .unset, .unset] [(.int (0 : Int32))]) _ _ _
          refine Ends.go (fun _ k => XS.istore X0.here hx rfl (hb hby at_51) rfl (l' := #[.val (.int p0), .val (.int p1), .val (.int p2), .val (.int p3), .val (.int (0 : Int32)), .val (.int (1 : Int32)), .val (.int (1 : Int32)), .val (.int (0 : Int32)), .unset, .unset, .unset, .unset, .unset, .unset, .unset, .unset, .unset, .unset, .unset, .unset]) rfl k) ?_
          show Ends p e below s s₁ (mkF m 53 #[.val (.int p0), .val (.int p1), .val (.int p2), .val (.int p3), .val (.int (0 : Int32)), .val (.int (1 : Int32)), .val (.int (1 : Int32)), .val (.int (0 : Int32)), .unset, .unset, .unset, .unset, .unset, .unset, .unset, .unset, .unset, .unset, .unset, .unset] []) _ _ _
          exact J53 _ _ _ _ (by decide)
        · refine Ends.go (fun _ k => XS.ifNo X0.here hx rfl (hb hby at_43) rfl ((if0 _ _).trans (feq hc43_132).1) k) ?_
          show Ends p e below s s₁ (mkF m 46 #[.val (.int p0), .val (.int p1), .val (.int p2), .val (.int p3), .val (.int (0 : Int32)), .val (.int (1 : Int32)), .val (.int (1 : Int32)), .unset, .unset, .unset, .unset, .unset, .unset, .unset, .unset, .unset, .unset, .unset, .unset, .unset] []) _ _ _
          refine Ends.go (fun _ k => XS.iconst X0.here hx rfl (hb hby at_46) k) ?_
          show Ends p e below s s₁ (mkF m 47 #[.val (.int p0), .val (.int p1), .val (.int p2), .val (.int p3), .val (.int (0 : Int32)), .val (.int (1 : Int32)), .val (.int (1 : Int32)), .unset, .unset, .unset, .unset, .unset, .unset, .unset, .unset, .unset, .unset, .unset, .unset, .unset] [(.int (1 : Int32))]) _ _ _
          refine Ends.go (fun _ k => XS.goto X0.here hx rfl (pc0 := 47) (pc' := 51) rfl (hb hby at_47) (by decide) (by decide) k) ?_
          show Ends p e below s s₁ (mkF m 51 #[.val (.int p0), .val (.int p1), .val (.int p2), .val (.int p3), .val (.int (0 : Int32)), .val (.int (1 : Int32)), .val (.int (1 : Int32)), .unset, .unset, .unset, .unset, .unset, .unset, .unset, .unset, .unset, .unset, .unset, .unset, .unset] [(.int (1 : Int32))]) _ _ _
          refine Ends.go (fun _ k => XS.istore X0.here hx rfl (hb hby at_51) rfl (l' := #[.val (.int p0), .val (.int p1), .val (.int p2), .val (.int p3), .val (.int (0 : Int32)), .val (.int (1 : Int32)), .val (.int (1 : Int32)), .val (.int (1 : Int32)), .unset, .unset, .unset, .unset, .unset, .unset, .unset, .unset, .unset, .unset, .unset, .unset]) rfl k) ?_
          show Ends p e below s s₁ (mkF m 53 #[.val (.int p0), .val (.int p1), .val (.int p2), .val (.int p3), .val (.int (0 : Int32)), .val (.int (1 : Int32)), .val (.int (1 : Int32)), .val (.int (1 : Int32)), .unset, .unset, .unset, .unset, .unset, .unset, .unset, .unset, .unset, .unset, .unset, .unset] []) _ _ _
          exact J53 _ _ _ _ (by decide)
  · refine Ends.go (fun _ k => XS.ifNo X0.here hx rfl (hb hby at_3) rfl ((if0 _ _).trans (feq hc3_125).1) k) ?_
    show Ends p e below s s₁ (mkF m 6 #[.val (.int p0), .val (.int p1), .val (.int p2), .val (.int p3), .unset, .unset, .unset, .unset, .unset, .unset, .unset, .unset, .unset, .unset, .unset, .unset, .unset, .unset, .unset, .unset] []) _ _ _
    refine Ends.go (fun _ k => XS.iconst X0.here hx rfl (hb hby at_6) k) ?_
    show Ends p e below s s₁ (mkF m 7 #[.val (.int p0), .val (.int p1), .val (.int p2), .val (.int p3), .unset, .unset, .unset, .unset, .unset, .unset, .unset, .unset, .unset, .unset, .unset, .unset, .unset, .unset, .unset, .unset] [(.int (1 : Int32))]) _ _ _
    refine Ends.go (fun _ k => XS.goto X0.here hx rfl (pc0 := 7) (pc' := 11) rfl (hb hby at_7) (by decide) (by decide) k) ?_
    show Ends p e below s s₁ (mkF m 11 #[.val (.int p0), .val (.int p1), .val (.int p2), .val (.int p3), .unset, .unset, .unset, .unset, .unset, .unset, .unset, .unset, .unset, .unset, .unset, .unset, .unset, .unset, .unset, .unset] [(.int (1 : Int32))]) _ _ _
    refine Ends.go (fun _ k => XS.istore X0.here hx rfl (hb hby at_11) rfl (l' := #[.val (.int p0), .val (.int p1), .val (.int p2), .val (.int p3), .val (.int (1 : Int32)), .unset, .unset, .unset, .unset, .unset, .unset, .unset, .unset, .unset, .unset, .unset, .unset, .unset, .unset, .unset]) rfl k) ?_
    show Ends p e below s s₁ (mkF m 13 #[.val (.int p0), .val (.int p1), .val (.int p2), .val (.int p3), .val (.int (1 : Int32)), .unset, .unset, .unset, .unset, .unset, .unset, .unset, .unset, .unset, .unset, .unset, .unset, .unset, .unset, .unset] []) _ _ _
    refine Ends.go (fun _ k => XS.iloadN X0.here hx rfl (hb hby at_13) rfl k) ?_
    show Ends p e below s s₁ (mkF m 14 #[.val (.int p0), .val (.int p1), .val (.int p2), .val (.int p3), .val (.int (1 : Int32)), .unset, .unset, .unset, .unset, .unset, .unset, .unset, .unset, .unset, .unset, .unset, .unset, .unset, .unset, .unset] [(.int p0)]) _ _ _
    refine Ends.go (fun _ k => XS.iconst X0.here hx rfl (hb hby at_14) k) ?_
    show Ends p e below s s₁ (mkF m 15 #[.val (.int p0), .val (.int p1), .val (.int p2), .val (.int p3), .val (.int (1 : Int32)), .unset, .unset, .unset, .unset, .unset, .unset, .unset, .unset, .unset, .unset, .unset, .unset, .unset, .unset, .unset] [(.int (2 : Int32)), (.int p0)]) _ _ _
    refine Ends.go (fun _ k => XS.iand X0.here hx rfl (hb hby at_15) rfl k) ?_
    show Ends p e below s s₁ (mkF m 16 #[.val (.int p0), .val (.int p1), .val (.int p2), .val (.int p3), .val (.int (1 : Int32)), .unset, .unset, .unset, .unset, .unset, .unset, .unset, .unset, .unset, .unset, .unset, .unset, .unset, .unset, .unset] [(.int (p0 &&& (2 : Int32)))]) _ _ _
    by_cases hc16_133 : (p0 &&& (2 : Int32)) = (0 : Int32)
    · refine Ends.go (fun _ k => XS.ifYes X0.here hx rfl (pc0 := 16) (pc' := 23) rfl (hb hby at_16) rfl ((if0 _ _).trans (teq hc16_133).1) (by decide) (by decide) k) ?_
      show Ends p e below s s₁ (mkF m 23 #[.val (.int p0), .val (.int p1), .val (.int p2), .val (.int p3), .val (.int (1 : Int32)), .unset, .unset, .unset, .unset, .unset, .unset, .unset, .unset, .unset, .unset, .unset, .unset, .unset, .unset, .unset] []) _ _ _
      refine Ends.go (fun _ k => XS.iconst X0.here hx rfl (hb hby at_23) k) ?_
      show Ends p e below s s₁ (mkF m 24 #[.val (.int p0), .val (.int p1), .val (.int p2), .val (.int p3), .val (.int (1 : Int32)), .unset, .unset, .unset, .unset, .unset, .unset, .unset, .unset, .unset, .unset, .unset, .unset, .unset, .unset, .unset] [(.int (0 : Int32))]) _ _ _
      refine Ends.go (fun _ k => XS.istore X0.here hx rfl (hb hby at_24) rfl (l' := #[.val (.int p0), .val (.int p1), .val (.int p2), .val (.int p3), .val (.int (1 : Int32)), .val (.int (0 : Int32)), .unset, .unset, .unset, .unset, .unset, .unset, .unset, .unset, .unset, .unset, .unset, .unset, .unset, .unset]) rfl k) ?_
      show Ends p e below s s₁ (mkF m 26 #[.val (.int p0), .val (.int p1), .val (.int p2), .val (.int p3), .val (.int (1 : Int32)), .val (.int (0 : Int32)), .unset, .unset, .unset, .unset, .unset, .unset, .unset, .unset, .unset, .unset, .unset, .unset, .unset, .unset] []) _ _ _
      refine Ends.go (fun _ k => XS.iloadN X0.here hx rfl (hb hby at_26) rfl k) ?_
      show Ends p e below s s₁ (mkF m 27 #[.val (.int p0), .val (.int p1), .val (.int p2), .val (.int p3), .val (.int (1 : Int32)), .val (.int (0 : Int32)), .unset, .unset, .unset, .unset, .unset, .unset, .unset, .unset, .unset, .unset, .unset, .unset, .unset, .unset] [(.int p0)]) _ _ _
      refine Ends.go (fun _ k => XS.iconst X0.here hx rfl (hb hby at_27) k) ?_
      show Ends p e below s s₁ (mkF m 28 #[.val (.int p0), .val (.int p1), .val (.int p2), .val (.int p3), .val (.int (1 : Int32)), .val (.int (0 : Int32)), .unset, .unset, .unset, .unset, .unset, .unset, .unset, .unset, .unset, .unset, .unset, .unset, .unset, .unset] [(.int (4 : Int32)), (.int p0)]) _ _ _
      refine Ends.go (fun _ k => XS.iand X0.here hx rfl (hb hby at_28) rfl k) ?_
      show Ends p e below s s₁ (mkF m 29 #[.val (.int p0), .val (.int p1), .val (.int p2), .val (.int p3), .val (.int (1 : Int32)), .val (.int (0 : Int32)), .unset, .unset, .unset, .unset, .unset, .unset, .unset, .unset, .unset, .unset, .unset, .unset, .unset, .unset] [(.int (p0 &&& (4 : Int32)))]) _ _ _
      by_cases hc29_134 : (p0 &&& (4 : Int32)) = (0 : Int32)
      · refine Ends.go (fun _ k => XS.ifYes X0.here hx rfl (pc0 := 29) (pc' := 36) rfl (hb hby at_29) rfl ((if0 _ _).trans (teq hc29_134).1) (by decide) (by decide) k) ?_
        show Ends p e below s s₁ (mkF m 36 #[.val (.int p0), .val (.int p1), .val (.int p2), .val (.int p3), .val (.int (1 : Int32)), .val (.int (0 : Int32)), .unset, .unset, .unset, .unset, .unset, .unset, .unset, .unset, .unset, .unset, .unset, .unset, .unset, .unset] []) _ _ _
        refine Ends.go (fun _ k => XS.iconst X0.here hx rfl (hb hby at_36) k) ?_
        show Ends p e below s s₁ (mkF m 37 #[.val (.int p0), .val (.int p1), .val (.int p2), .val (.int p3), .val (.int (1 : Int32)), .val (.int (0 : Int32)), .unset, .unset, .unset, .unset, .unset, .unset, .unset, .unset, .unset, .unset, .unset, .unset, .unset, .unset] [(.int (0 : Int32))]) _ _ _
        refine Ends.go (fun _ k => XS.istore X0.here hx rfl (hb hby at_37) rfl (l' := #[.val (.int p0), .val (.int p1), .val (.int p2), .val (.int p3), .val (.int (1 : Int32)), .val (.int (0 : Int32)), .val (.int (0 : Int32)), .unset, .unset, .unset, .unset, .unset, .unset, .unset, .unset, .unset, .unset, .unset, .unset, .unset]) rfl k) ?_
        show Ends p e below s s₁ (mkF m 39 #[.val (.int p0), .val (.int p1), .val (.int p2), .val (.int p3), .val (.int (1 : Int32)), .val (.int (0 : Int32)), .val (.int (0 : Int32)), .unset, .unset, .unset, .unset, .unset, .unset, .unset, .unset, .unset, .unset, .unset, .unset, .unset] []) _ _ _
        refine Ends.go (fun _ k => XS.iloadN X0.here hx rfl (hb hby at_39) rfl k) ?_
        show Ends p e below s s₁ (mkF m 40 #[.val (.int p0), .val (.int p1), .val (.int p2), .val (.int p3), .val (.int (1 : Int32)), .val (.int (0 : Int32)), .val (.int (0 : Int32)), .unset, .unset, .unset, .unset, .unset, .unset, .unset, .unset, .unset, .unset, .unset, .unset, .unset] [(.int p0)]) _ _ _
        refine Ends.go (fun _ k => XS.bipush X0.here hx rfl (hb hby at_40) k) ?_
        show Ends p e below s s₁ (mkF m 42 #[.val (.int p0), .val (.int p1), .val (.int p2), .val (.int p3), .val (.int (1 : Int32)), .val (.int (0 : Int32)), .val (.int (0 : Int32)), .unset, .unset, .unset, .unset, .unset, .unset, .unset, .unset, .unset, .unset, .unset, .unset, .unset] [(.int (8 : Int32)), (.int p0)]) _ _ _
        refine Ends.go (fun _ k => XS.iand X0.here hx rfl (hb hby at_42) rfl k) ?_
        show Ends p e below s s₁ (mkF m 43 #[.val (.int p0), .val (.int p1), .val (.int p2), .val (.int p3), .val (.int (1 : Int32)), .val (.int (0 : Int32)), .val (.int (0 : Int32)), .unset, .unset, .unset, .unset, .unset, .unset, .unset, .unset, .unset, .unset, .unset, .unset, .unset] [(.int (p0 &&& (8 : Int32)))]) _ _ _
        by_cases hc43_135 : (p0 &&& (8 : Int32)) = (0 : Int32)
        · refine Ends.go (fun _ k => XS.ifYes X0.here hx rfl (pc0 := 43) (pc' := 50) rfl (hb hby at_43) rfl ((if0 _ _).trans (teq hc43_135).1) (by decide) (by decide) k) ?_
          show Ends p e below s s₁ (mkF m 50 #[.val (.int p0), .val (.int p1), .val (.int p2), .val (.int p3), .val (.int (1 : Int32)), .val (.int (0 : Int32)), .val (.int (0 : Int32)), .unset, .unset, .unset, .unset, .unset, .unset, .unset, .unset, .unset, .unset, .unset, .unset, .unset] []) _ _ _
          refine Ends.go (fun _ k => XS.iconst X0.here hx rfl (hb hby at_50) k) ?_
          show Ends p e below s s₁ (mkF m 51 #[.val (.int p0), .val (.int p1), .val (.int p2), .val (.int p3), .val (.int (1 : Int32)), .val (.int (0 : Int32)), .val (.int (0 : Int32)), .unset, .unset, .unset, .unset, .unset, .unset, .unset, .unset, .unset, .unset, .unset, .unset, .unset] [(.int (0 : Int32))]) _ _ _
          refine Ends.go (fun _ k => XS.istore X0.here hx rfl (hb hby at_51) rfl (l' := #[.val (.int p0), .val (.int p1), .val (.int p2), .val (.int p3), .val (.int (1 : Int32)), .val (.int (0 : Int32)), .val (.int (0 : Int32)), .val (.int (0 : Int32)), .unset, .unset, .unset, .unset, .unset, .unset, .unset, .unset, .unset, .unset, .unset, .unset]) rfl k) ?_
          show Ends p e below s s₁ (mkF m 53 #[.val (.int p0), .val (.int p1), .val (.int p2), .val (.int p3), .val (.int (1 : Int32)), .val (.int (0 : Int32)), .val (.int (0 : Int32)), .val (.int (0 : Int32)), .unset, .unset, .unset, .unset, .unset, .unset, .unset, .unset, .unset, .unset, .unset, .unset] []) _ _ _
          exact J53 _ _ _ _ (by decide)
        · refine Ends.go (fun _ k => XS.ifNo X0.here hx rfl (hb hby at_43) rfl ((if0 _ _).trans (feq hc43_135).1) k) ?_
          show Ends p e below s s₁ (mkF m 46 #[.val (.int p0), .val (.int p1), .val (.int p2), .val (.int p3), .val (.int (1 : Int32)), .val (.int (0 : Int32)), .val (.int (0 : Int32)), .unset, .unset, .unset, .unset, .unset, .unset, .unset, .unset, .unset, .unset, .unset, .unset, .unset] []) _ _ _
          refine Ends.go (fun _ k => XS.iconst X0.here hx rfl (hb hby at_46) k) ?_
          show Ends p e below s s₁ (mkF m 47 #[.val (.int p0), .val (.int p1), .val (.int p2), .val (.int p3), .val (.int (1 : Int32)), .val (.int (0 : Int32)), .val (.int (0 : Int32)), .unset, .unset, .unset, .unset, .unset, .unset, .unset, .unset, .unset, .unset, .unset, .unset, .unset] [(.int (1 : Int32))]) _ _ _
          refine Ends.go (fun _ k => XS.goto X0.here hx rfl (pc0 := 47) (pc' := 51) rfl (hb hby at_47) (by decide) (by decide) k) ?_
          show Ends p e below s s₁ (mkF m 51 #[.val (.int p0), .val (.int p1), .val (.int p2), .val (.int p3), .val (.int (1 : Int32)), .val (.int (0 : Int32)), .val (.int (0 : Int32)), .unset, .unset, .unset, .unset, .unset, .unset, .unset, .unset, .unset, .unset, .unset, .unset, .unset] [(.int (1 : Int32))]) _ _ _
          refine Ends.go (fun _ k => XS.istore X0.here hx rfl (hb hby at_51) rfl (l' := #[.val (.int p0), .val (.int p1), .val (.int p2), .val (.int p3), .val (.int (1 : Int32)), .val (.int (0 : Int32)), .val (.int (0 : Int32)), .val (.int (1 : Int32)), .unset, .unset, .unset, .unset, .unset, .unset, .unset, .unset, .unset, .unset, .unset, .unset]) rfl k) ?_
          show Ends p e below s s₁ (mkF m 53 #[.val (.int p0), .val (.int p1), .val (.int p2), .val (.int p3), .val (.int (1 : Int32)), .val (.int (0 : Int32)), .val (.int (0 : Int32)), .val (.int (1 : Int32)), .unset, .unset, .unset, .unset, .unset, .unset, .unset, .unset, .unset, .unset, .unset, .unset] []) _ _ _
          exact J53 _ _ _ _ (by decide)
      · refine Ends.go (fun _ k => XS.ifNo X0.here hx rfl (hb hby at_29) rfl ((if0 _ _).trans (feq hc29_134).1) k) ?_
        show Ends p e below s s₁ (mkF m 32 #[.val (.int p0), .val (.int p1), .val (.int p2), .val (.int p3), .val (.int (1 : Int32)), .val (.int (0 : Int32)), .unset, .unset, .unset, .unset, .unset, .unset, .unset, .unset, .unset, .unset, .unset, .unset, .unset, .unset] []) _ _ _
        refine Ends.go (fun _ k => XS.iconst X0.here hx rfl (hb hby at_32) k) ?_
        show Ends p e below s s₁ (mkF m 33 #[.val (.int p0), .val (.int p1), .val (.int p2), .val (.int p3), .val (.int (1 : Int32)), .val (.int (0 : Int32)), .unset, .unset, .unset, .unset, .unset, .unset, .unset, .unset, .unset, .unset, .unset, .unset, .unset, .unset] [(.int (1 : Int32))]) _ _ _
        refine Ends.go (fun _ k => XS.goto X0.here hx rfl (pc0 := 33) (pc' := 37) rfl (hb hby at_33) (by decide) (by decide) k) ?_
        show Ends p e below s s₁ (mkF m 37 #[.val (.int p0), .val (.int p1), .val (.int p2), .val (.int p3), .val (.int (1 : Int32)), .val (.int (0 : Int32)), .unset, .unset, .unset, .unset, .unset, .unset, .unset, .unset, .unset, .unset, .unset, .unset, .unset, .unset] [(.int (1 : Int32))]) _ _ _
        refine Ends.go (fun _ k => XS.istore X0.here hx rfl (hb hby at_37) rfl (l' := #[.val (.int p0), .val (.int p1), .val (.int p2), .val (.int p3), .val (.int (1 : Int32)), .val (.int (0 : Int32)), .val (.int (1 : Int32)), .unset, .unset, .unset, .unset, .unset, .unset, .unset, .unset, .unset, .unset, .unset, .unset, .unset]) rfl k) ?_
        show Ends p e below s s₁ (mkF m 39 #[.val (.int p0), .val (.int p1), .val (.int p2), .val (.int p3), .val (.int (1 : Int32)), .val (.int (0 : Int32)), .val (.int (1 : Int32)), .unset, .unset, .unset, .unset, .unset, .unset, .unset, .unset, .unset, .unset, .unset, .unset, .unset] []) _ _ _
        refine Ends.go (fun _ k => XS.iloadN X0.here hx rfl (hb hby at_39) rfl k) ?_
        show Ends p e below s s₁ (mkF m 40 #[.val (.int p0), .val (.int p1), .val (.int p2), .val (.int p3), .val (.int (1 : Int32)), .val (.int (0 : Int32)), .val (.int (1 : Int32)), .unset, .unset, .unset, .unset, .unset, .unset, .unset, .unset, .unset, .unset, .unset, .unset, .unset] [(.int p0)]) _ _ _
        refine Ends.go (fun _ k => XS.bipush X0.here hx rfl (hb hby at_40) k) ?_
        show Ends p e below s s₁ (mkF m 42 #[.val (.int p0), .val (.int p1), .val (.int p2), .val (.int p3), .val (.int (1 : Int32)), .val (.int (0 : Int32)), .val (.int (1 : Int32)), .unset, .unset, .unset, .unset, .unset, .unset, .unset, .unset, .unset, .unset, .unset, .unset, .unset] [(.int (8 : Int32)), (.int p0)]) _ _ _
        refine Ends.go (fun _ k => XS.iand X0.here hx rfl (hb hby at_42) rfl k) ?_
        show Ends p e below s s₁ (mkF m 43 #[.val (.int p0), .val (.int p1), .val (.int p2), .val (.int p3), .val (.int (1 : Int32)), .val (.int (0 : Int32)), .val (.int (1 : Int32)), .unset, .unset, .unset, .unset, .unset, .unset, .unset, .unset, .unset, .unset, .unset, .unset, .unset] [(.int (p0 &&& (8 : Int32)))]) _ _ _
        by_cases hc43_136 : (p0 &&& (8 : Int32)) = (0 : Int32)
        · refine Ends.go (fun _ k => XS.ifYes X0.here hx rfl (pc0 := 43) (pc' := 50) rfl (hb hby at_43) rfl ((if0 _ _).trans (teq hc43_136).1) (by decide) (by decide) k) ?_
          show Ends p e below s s₁ (mkF m 50 #[.val (.int p0), .val (.int p1), .val (.int p2), .val (.int p3), .val (.int (1 : Int32)), .val (.int (0 : Int32)), .val (.int (1 : Int32)), .unset, .unset, .unset, .unset, .unset, .unset, .unset, .unset, .unset, .unset, .unset, .unset, .unset] []) _ _ _
          refine Ends.go (fun _ k => XS.iconst X0.here hx rfl (hb hby at_50) k) ?_
          show Ends p e below s s₁ (mkF m 51 #[.val (.int p0), .val (.int p1), .val (.int p2), .val (.int p3), .val (.int (1 : Int32)), .val (.int (0 : Int32)), .val (.int (1 : Int32)), .unset, .unset, .unset, .unset, .unset, .unset, .unset, .unset, .unset, .unset, .unset, .unset, .unset] [(.int (0 : Int32))]) _ _ _
          refine Ends.go (fun _ k => XS.istore X0.here hx rfl (hb hby at_51) rfl (l' := #[.val (.int p0), .val (.int p1), .val (.int p2), .val (.int p3), .val (.int (1 : Int32)), .val (.int (0 : Int32)), .val (.int (1 : Int32)), .val (.int (0 : Int32)), .unset, .unset, .unset, .unset, .unset, .unset, .unset, .unset, .unset, .unset, .unset, .unset]) rfl k) ?_
          show Ends p e below s s₁ (mkF m 53 #[.val (.int p0), .val (.int p1), .val (.int p2), .val (.int p3), .val (.int (1 : Int32)), .val (.int (0 : Int32)), .val (.int (1 : Int32)), .val (.int (0 : Int32)), .unset, .unset, .unset, .unset, .unset, .unset, .unset, .unset, .unset, .unset, .unset, .unset] []) _ _ _
          exact J53 _ _ _ _ (by decide)
        · refine Ends.go (fun _ k => XS.ifNo X0.here hx rfl (hb hby at_43) rfl ((if0 _ _).trans (feq hc43_136).1) k) ?_
          show Ends p e below s s₁ (mkF m 46 #[.val (.int p0), .val (.int p1), .val (.int p2), .val (.int p3), .val (.int (1 : Int32)), .val (.int (0 : Int32)), .val (.int (1 : Int32)), .unset, .unset, .unset, .unset, .unset, .unset, .unset, .unset, .unset, .unset, .unset, .unset, .unset] []) _ _ _
          refine Ends.go (fun _ k => XS.iconst X0.here hx rfl (hb hby at_46) k) ?_
          show Ends p e below s s₁ (mkF m 47 #[.val (.int p0), .val (.int p1), .val (.int p2), .val (.int p3), .val (.int (1 : Int32)), .val (.int (0 : Int32)), .val (.int (1 : Int32)), .unset, .unset, .unset, .unset, .unset, .unset, .unset, .unset, .unset, .unset, .unset, .unset, .unset] [(.int (1 : Int32))]) _ _ _
          refine Ends.go (fun _ k => XS.goto X0.here hx rfl (pc0 := 47) (pc' := 51) rfl (hb hby at_47) (by decide) (by decide) k) ?_
          show Ends p e below s s₁ (mkF m 51 #[.val (.int p0), .val (.int p1), .val (.int p2), .val (.int p3), .val (.int (1 : Int32)), .val (.int (0 : Int32)), .val (.int (1 : Int32)), .unset, .unset, .unset, .unset, .unset, .unset, .unset, .unset, .unset, .unset, .unset, .unset, .unset] [(.int (1 : Int32))]) _ _ _
          refine Ends.go (fun _ k => XS.istore X0.here hx rfl (hb hby at_51) rfl (l' := #[.val (.int p0), .val (.int p1), .val (.int p2), .val (.int p3), .val (.int (1 : Int32)), .val (.int (0 : Int32)), .val (.int (1 : Int32)), .val (.int (1 : Int32)), .unset, .unset, .unset, .unset, .unset, .unset, .unset, .unset, .unset, .unset, .unset, .unset]) rfl k) ?_
          show Ends p e below s s₁ (mkF m 53 #[.val (.int p0), .val (.int p1), .val (.int p2), .val (.int p3), .val (.int (1 : Int32)), .val (.int (0 : Int32)), .val (.int (1 : Int32)), .val (.int (1 : Int32)), .unset, .unset, .unset, .unset, .unset, .unset, .unset, .unset, .unset, .unset, .unset, .unset] []) _ _ _
          exact J53 _ _ _ _ (by decide)
    · refine Ends.go (fun _ k => XS.ifNo X0.here hx rfl (hb hby at_16) rfl ((if0 _ _).trans (feq hc16_133).1) k) ?_
      show Ends p e below s s₁ (mkF m 19 #[.val (.int p0), .val (.int p1), .val (.int p2), .val (.int p3), .val (.int (1 : Int32)), .unset, .unset, .unset, .unset, .unset, .unset, .unset, .unset, .unset, .unset, .unset, .unset, .unset, .unset, .unset] []) _ _ _
      refine Ends.go (fun _ k => XS.iconst X0.here hx rfl (hb hby at_19) k) ?_
      show Ends p e below s s₁ (mkF m 20 #[.val (.int p0), .val (.int p1), .val (.int p2), .val (.int p3), .val (.int (1 : Int32)), .unset, .unset, .unset, .unset, .unset, .unset, .unset, .unset, .unset, .unset, .unset, .unset, .unset, .unset, .unset] [(.int (1 : Int32))]) _ _ _
      refine Ends.go (fun _ k => XS.goto X0.here hx rfl (pc0 := 20) (pc' := 24) rfl (hb hby at_20) (by decide) (by decide) k) ?_
      show Ends p e below s s₁ (mkF m 24 #[.val (.int p0), .val (.int p1), .val (.int p2), .val (.int p3), .val (.int (1 : Int32)), .unset, .unset, .unset, .unset, .unset, .unset, .unset, .unset, .unset, .unset, .unset, .unset, .unset, .unset, .unset] [(.int (1 : Int32))]) _ _ _
      refine Ends.go (fun _ k => XS.istore X0.here hx rfl (hb hby at_24) rfl (l' := #[.val (.int p0), .val (.int p1), .val (.int p2), .val (.int p3), .val (.int (1 : Int32)), .val (.int (1 : Int32)), .unset, .unset, .unset, .unset, .unset, .unset, .unset, .unset, .unset, .unset, .unset, .unset, .unset, .unset]) rfl k) ?_
      show Ends p e below s s₁ (mkF m 26 #[.val (.int p0), .val (.int p1), .val (.int p2), .val (.int p3), .val (.int (1 : Int32)), .val (.int (1 : Int32)), .unset, .unset, .unset, .unset, .unset, .unset, .unset, .unset, .unset, .unset, .unset, .unset, .unset, .unset] []) _ _ _
      refine Ends.go (fun _ k => XS.iloadN X0.here hx rfl (hb hby at_26) rfl k) ?_
      show Ends p e below s s₁ (mkF m 27 #[.val (.int p0), .val (.int p1), .val (.int p2), .val (.int p3), .val (.int (1 : Int32)), .val (.int (1 : Int32)), .unset, .unset, .unset, .unset, .unset, .unset, .unset, .unset, .unset, .unset, .unset, .unset, .unset, .unset] [(.int p0)]) _ _ _
      refine Ends.go (fun _ k => XS.iconst X0.here hx rfl (hb hby at_27) k) ?_
      show Ends p e below s s₁ (mkF m 28 #[.val (.int p0), .val (.int p1), .val (.int p2), .val (.int p3), .val (.int (1 : Int32)), .val (.int (1 : Int32)), .unset, .unset, .unset, .unset, .unset, .unset, .unset, .unset, .unset, .unset, .unset, .unset, .unset, .unset] [(.int (4 : Int32)), (.int p0)]) _ _ _
      refine Ends.go (fun _ k => XS.iand X0.here hx rfl (hb hby at_28) rfl k) ?_
      show Ends p e below s s₁ (mkF m 29 #[.val (.int p0), .val (.int p1), .val (.int p2), .val (.int p3), .val (.int (1 : Int32)), .val (.int (1 : Int32)), .unset, .unset, .unset, .unset, .unset, .unset, .unset, .unset, .unset, .unset, .unset, .unset, .unset, .unset] [(.int (p0 &&& (4 : Int32)))]) _ _ _
      by_cases hc29_137 : (p0 &&& (4 : Int32)) = (0 : Int32)
      · refine Ends.go (fun _ k => XS.ifYes X0.here hx rfl (pc0 := 29) (pc' := 36) rfl (hb hby at_29) rfl ((if0 _ _).trans (teq hc29_137).1) (by decide) (by decide) k) ?_
        show Ends p e below s s₁ (mkF m 36 #[.val (.int p0), .val (.int p1), .val (.int p2), .val (.int p3), .val (.int (1 : Int32)), .val (.int (1 : Int32)), .unset, .unset, .unset, .unset, .unset, .unset, .unset, .unset, .unset, .unset, .unset, .unset, .unset, .unset] []) _ _ _
        refine Ends.go (fun _ k => XS.iconst X0.here hx rfl (hb hby at_36) k) ?_
        show Ends p e below s s₁ (mkF m 37 #[.val (.int p0), .val (.int p1), .val (.int p2), .val (.int p3), .val (.int (1 : Int32)), .val (.int (1 : Int32)), .unset, .unset, .unset, .unset, .unset, .unset, .unset, .unset, .unset, .unset, .unset, .unset, .unset, .unset] [(.int (0 : Int32))]) _ _ _
        refine Ends.go (fun _ k => XS.istore X0.here hx rfl (hb hby at_37) rfl (l' := #[.val (.int p0), .val (.int p1), .val (.int p2), .val (.int p3), .val (.int (1 : Int32)), .val (.int (1 : Int32)), .val (.int (0 : Int32)), .unset, .unset, .unset, .unset, .unset, .unset, .unset, .unset, .unset, .unset, .unset, .unset, .unset]) rfl k) ?_
        show Ends p e below s s₁ (mkF m 39 #[.val (.int p0), .val (.int p1), .val (.int p2), .val (.int p3), .val (.int (1 : Int32)), .val (.int (1 : Int32)), .val (.int (0 : Int32)), .unset, .unset, .unset, .unset, .unset, .unset, .unset, .unset, .unset, .unset, .unset, .unset, .unset] []) _ _ _
        refine Ends.go (fun _ k => XS.iloadN X0.here hx rfl (hb hby at_39) rfl k) ?_
        show Ends p e below s s₁ (mkF m 40 #[.val (.int p0), .val (.int p1), .val (.int p2), .val (.int p3), .val (.int (1 : Int32)), .val (.int (1 : Int32)), .val (.int (0 : Int32)), .unset, .unset, .unset, .unset, .unset, .unset, .unset, .unset, .unset, .unset, .unset, .unset, .unset] [(.int p0)]) _ _ _
        refine Ends.go (fun _ k => XS.bipush X0.here hx rfl (hb hby at_40) k) ?_
        show Ends p e below s s₁ (mkF m 42 #[.val (.int p0), .val (.int p1), .val (.int p2), .val (.int p3), .val (.int (1 : Int32)), .val (.int (1 : Int32)), .val (.int (0 : Int32)), .unset, .unset, .unset, .unset, .unset, .unset, .unset, .unset, .unset, .unset, .unset, .unset, .unset] [(.int (8 : Int32)), (.int p0)]) _ _ _
        refine Ends.go (fun _ k => XS.iand X0.here hx rfl (hb hby at_42) rfl k) ?_
        show Ends p e below s s₁ (mkF m 43 #[.val (.int p0), .val (.int p1), .val (.int p2), .val (.int p3), .val (.int (1 : Int32)), .val (.int (1 : Int32)), .val (.int (0 : Int32)), .unset, .unset, .unset, .unset, .unset, .unset, .unset, .unset, .unset, .unset, .unset, .unset, .unset] [(.int (p0 &&& (8 : Int32)))]) _ _ _
        by_cases hc43_138 : (p0 &&& (8 : Int32)) = (0 : Int32)
        · refine Ends.go (fun _ k => XS.ifYes X0.here hx rfl (pc0 := 43) (pc' := 50) rfl (hb hby at_43) rfl ((if0 _ _).trans (teq hc43_138).1) (by decide) (by decide) k) ?_
          show Ends p e below s s₁ (mkF m 50 #[.val (.int p0), .val (.int p1), .val (.int p2), .val (.int p3), .val (.int (1 : Int32)), .val (.int (1 : Int32)), .val (.int (0 : Int32)), .unset, .unset, .unset, .unset, .unset, .unset, .unset, .unset, .unset, .unset, .unset, .unset, .unset] []) _ _ _
          refine Ends.go (fun _ k => XS.iconst X0.here hx rfl (hb hby at_50) k) ?_
          show Ends p e below s s₁ (mkF m 51 #[.val (.int p0), .val (.int p1), .val (.int p2), .val (.int p3), .val (.int (1 : Int32)), .val (.int (1 : Int32)), .val (.int (0 : Int32)), .unset, .unset, .unset, .unset, .unset, .unset, .unset, .unset, .unset, .unset, .unset, .unset, .unset] [(.int (0 : Int32))]) _ _ _
          refine Ends.go (fun _ k => XS.istore X0.here hx rfl (hb hby at_51) rfl (l' := #[.val (.int p0), .val (.int p1), .val (.int p2), .val (.int p3), .val (.int (1 : Int32)), .val (.int (1 : Int32)), .val (.int (0 : Int32)), .val (.int (0 : Int32)), .unset, .unset, .unset, .unset, .unset, .unset, .unset, .unset, .unset, .unset, .unset, .unset]) rfl k) ?_
          show Ends p e below s s₁ (mkF m 53 #[.val (.int p0), .val (.int p1), .val (.int p2), .val (.int p3), .val (.int (1 : Int32)), .val (.int (1 : Int32)), .val (.int (0 : Int32)), .val (.int (0 : Int32)), .unset, .unset, .unset, .unset, .unset, .unset, .unset, .unset, .unset, .unset, .unset, .unset] []) _ _ _
          exact J53 _ _ _ _ (by decide)
        · refine Ends.go (fun _ k => XS.ifNo X0.here hx rfl (hb hby at_43) rfl ((if0 _ _).trans (feq hc43_138).1) k) ?_
          show Ends p e below s s₁ (mkF m 46 #[.val (.int p0), .val (.int p1), .val (.int p2), .val (.int p3), .val (.int (1 : Int32)), .val (.int (1 : Int32)), .val (.int (0 : Int32)), .unset, .unset, .unset, .unset, .unset, .unset, .unset, .unset, .unset, .unset, .unset, .unset, .unset] []) _ _ _
          refine Ends.go (fun _ k => XS.iconst X0.here hx rfl (hb hby at_46) k) ?_
          show Ends p e below s s₁ (mkF m 47 #[.val (.int p0), .val (.int p1), .val (.int p2), .val (.int p3), .val (.int (1 : Int32)), .val (.int (1 : Int32)), .val (.int (0 : Int32)), .unset, .unset, .unset, .unset, .unset, .unset, .unset, .unset, .unset, .unset, .unset, .unset, .unset] [(.int (1 : Int32))]) _ _ _
          refine Ends.go (fun _ k => XS.goto X0.here hx rfl (pc0 := 47) (pc' := 51) rfl (hb hby at_47) (by decide) (by decide) k) ?_
          show Ends p e below s s₁ (mkF m 51 #[.val (.int p0), .val (.int p1), .val (.int p2), .val (.int p3), .val (.int (1 : Int32)), .val (.int (1 : Int32)), .val (.int (0 : Int32)), .unset, .unset, .unset, .unset, .unset, .unset, .unset, .unset, .unset, .unset, .unset, .unset, .unset] [(.int (1 : Int32))]) _ _ _
          refine Ends.go (fun _ k => XS.istore X0.here hx rfl (hb hby at_51) rfl (l' := #[.val (.int p0), .val (.int p1), .val (.int p2), .val (.int p3), .val (.int (1 : Int32)), .val (.int (1 : Int32)), .val (.int (0 : Int32)), .val (.int (1 : Int32)), .unset, .unset, .unset, .unset, .unset, .unset, .unset, .unset, .unset, .unset, .unset, .unset]) rfl k) ?_
          show Ends p e below s s₁ (mkF m 53 #[.val (.int p0), .val (.int p1), .val (.int p2), .val (.int p3), .val (.int (1 : Int32)), .val (.int (1 : Int32)), .val (.int (0 : Int32)), .val (.int (1 : Int32)), .unset, .unset, .unset, .unset, .unset, .unset, .unset, .unset, .unset, .unset, .unset, .unset] []) _ _ _
          exact J53 _ _ _ _ (by decide)
      · refine Ends.go (fun _ k => XS.ifNo X0.here hx rfl (hb hby at_29) rfl ((if0 _ _).trans (feq hc29_137).1) k) ?_
        show Ends p e below s s₁ (mkF m 32 #[.val (.int p0), .val (.int p1), .val (.int p2), .val (.int p3), .val (.int (1 : Int32)), .val (.int (1 : Int32)), .unset, .unset, .unset, .unset, .unset, .unset, .unset, .unset, .unset, .unset, .unset, .unset, .unset, .unset] []) _ _ _
        refine Ends.go (fun _ k => XS.iconst X0.here hx rfl (hb hby at_32) k) ?_
        show Ends p e below s s₁ (mkF m 33 #[.val (.int p0), .val (.int p1), .val (.int p2), .val (.int p3), .val (.int (1 : Int32)), .val (.int (1 : Int32)), .unset, .unset, .unset, .unset, .unset, .unset, .unset, .unset, .unset, .unset, .unset, .unset, .unset, .unset] [(.int (1 : Int32))]) _ _ _
        refine Ends.go (fun _ k => XS.goto X0.here hx rfl (pc0 := 33) (pc' := 37) rfl (hb hby at_33) (by decide) (by decide) k) ?_
        show Ends p e below s s₁ (mkF m 37 #[.val (.int p0), .val (.int p1), .val (.int p2), .val (.int p3), .val (.int (1 : Int32)), .val (.int (1 : Int32)), .unset, .unset, .unset, .unset, .unset, .unset, .unset, .unset, .unset, .unset, .unset, .unset, .unset, .unset] [(.int (1 : Int32))]) _ _ _
        refine Ends.go (fun _ k => XS.istore X0.here hx rfl (hb hby at_37) rfl (l' := #[.val (.int p0), .val (.int p1), .val (.int p2), .val (.int p3), .val (.int (1 : Int32)), .val (.int (1 : Int32)), .val (.int (1 : Int32)), .unset, .unset, .unset, .unset, .unset, .unset, .unset, .unset, .unset, .unset, .unset, .unset, .unset]) rfl k) ?_
        show Ends p e below s s₁ (mkF m 39 #[.val (.int p0), .val (.int p1), .val (.int p2), .val (.int p3), .val (.int (1 : Int32)), .val (.int (1 : Int32)), .val (.int (1 : Int32)), .unset, .unset, .unset, .unset, .unset, .unset, .unset, .unset, .unset, .unset, .unset, .unset, .unset] []) _ _ _
        refine Ends.go (fun _ k => XS.iloadN X0.here hx rfl (hb hby at_39) rfl k) ?_
        show Ends p e below s s₁ (mkF m 40 #[.val (.int p0), .val (.int p1), .val (.int p2), .val (.int p3), .val (.int (1 : Int32)), .val (.int (1 : Int32)), .val (.int (1 : Int32)), .unset, .unset, .unset, .unset, .unset, .unset, .unset, .unset, .unset, .unset, .unset, .unset, .unset] [(.int p0)]) _ _ _
        refine Ends.go (fun _ k => XS.bipush X0.here hx rfl (hb hby at_40) k) ?_
        show Ends p e below s s₁ (mkF m 42 #[.val (.int p0), .val (.int p1), .val (.int p2), .val (.int p3), .val (.int (1 : Int32)), .val (.int (1 : Int32)), .val (.int (1 : Int32)), .unset, .unset, .unset, .unset, .unset, .unset, .unset, .unset, .unset, .unset, .unset, .unset, .unset] [(.int (8 : Int32)), (.int p0)]) _ _ _
        refine Ends.go (fun _ k => XS.iand X0.here hx rfl (hb hby at_42) rfl k) ?_
        show Ends p e below s s₁ (mkF m 43 #[.val (.int p0), .val (.int p1), .val (.int p2), .val (.int p3), .val (.int (1 : Int32)), .val (.int (1 : Int32)), .val (.int (1 : Int32)), .unset, .unset, .unset, .unset, .unset, .unset, .unset, .unset, .unset, .unset, .unset, .unset, .unset] [(.int (p0 &&& (8 : Int32)))]) _ _ _
        by_cases hc43_139 : (p0 &&& (8 : Int32)) = (0 : Int32)
        · refine Ends.go (fun _ k => XS.ifYes X0.here hx rfl (pc0 := 43) (pc' := 50) rfl (hb hby at_43) rfl ((if0 _ _).trans (teq hc43_139).1) (by decide) (by decide) k) ?_
          show Ends p e below s s₁ (mkF m 50 #[.val (.int p0), .val (.int p1), .val (.int p2), .val (.int p3), .val (.int (1 : Int32)), .val (.int (1 : Int32)), .val (.int (1 : Int32)), .unset, .unset, .unset, .unset, .unset, .unset, .unset, .unset, .unset, .unset, .unset, .unset, .unset] []) _ _ _
          refine Ends.go (fun _ k => XS.iconst X0.here hx rfl (hb hby at_50) k) ?_
          show Ends p e below s s₁ (mkF m 51 #[.val (.int p0), .val (.int p1), .val (.int p2), .val (.int p3), .val (.int (1 : Int32)), .val (.int (1 : Int32)), .val (.int (1 : Int32)), .unset, .unset, .unset, .unset, .unset, .unset, .unset, .unset, .unset, .unset, .unset, .unset, .unset] [(.int (0 : Int32))]) _ _ _
          refine Ends.go (fun _ k => XS.istore X0.here hx rfl (hb hby at_51) rfl (l' := #[.val (.int p0), .val (.int p1), .val (.int p2), .val (.int p3), .val (.int (1 : Int32)), .val (.int (1 : Int32)), .val (.int (1 : Int32)), .val (.int (0 : Int32)), .unset, .unset, .unset, .unset, .unset, .unset, .unset, .unset, .unset, .unset, .unset, .unset]) rfl k) ?_
          show Ends p e below s s₁ (mkF m 53 #[.val (.int p0), .val (.int p1), .val (.int p2), .val (.int p3), .val (.int (1 : Int32)), .val (.int (1 : Int32)), .val (.int (1 : Int32)), .val (.int (0 : Int32)), .unset, .unset, .unset, .unset, .unset, .unset, .unset, .unset, .unset, .unset, .unset, .unset] []) _ _ _
          exact J53 _ _ _ _ (by decide)
        · refine Ends.go (fun _ k => XS.ifNo X0.here hx rfl (hb hby at_43) rfl ((if0 _ _).trans (feq hc43_139).1) k) ?_
          show Ends p e below s s₁ (mkF m 46 #[.val (.int p0), .val (.int p1), .val (.int p2), .val (.int p3), .val (.int (1 : Int32)), .val (.int (1 : Int32)), .val (.int (1 : Int32)), .unset, .unset, .unset, .unset, .unset, .unset, .unset, .unset, .unset, .unset, .unset, .unset, .unset] []) _ _ _
          refine Ends.go (fun _ k => XS.iconst X0.here hx rfl (hb hby at_46) k) ?_
          show Ends p e below s s₁ (mkF m 47 #[.val (.int p0), .val (.int p1), .val (.int p2), .val (.int p3), .val (.int (1 : Int32)), .val (.int (1 : Int32)), .val (.int (1 : Int32)), .unset, .unset, .unset, .unset, .unset, .unset, .unset, .unset, .unset, .unset, .unset, .unset, .unset] [(.int (1 : Int32))]) _ _ _
          refine Ends.go (fun _ k => XS.goto X0.here hx rfl (pc0 := 47) (pc' := 51) rfl (hb hby at_47) (by decide) (by decide) k) ?_
          show Ends p e below s s₁ (mkF m 51 #[.val (.int p0), .val (.int p1), .val (.int p2), .val (.int p3), .val (.int (1 : Int32)), .val (.int (1 : Int32)), .val (.int (1 : Int32)), .unset, .unset, .unset, .unset, .unset, .unset, .unset, .unset, .unset, .unset, .unset, .unset, .unset] [(.int (1 : Int32))]) _ _ _
          refine Ends.go (fun _ k => XS.istore X0.here hx rfl (hb hby at_51) rfl (l' := #[.val (.int p0), .val (.int p1), .val (.int p2), .val (.int p3), .val (.int (1 : Int32)), .val (.int (1 : Int32)), .val (.int (1 : Int32)), .val (.int (1 : Int32)), .unset, .unset, .unset, .unset, .unset, .unset, .unset, .unset, .unset, .unset, .unset, .unset]) rfl k) ?_
          show Ends p e below s s₁ (mkF m 53 #[.val (.int p0), .val (.int p1), .val (.int p2), .val (.int p3), .val (.int (1 : Int32)), .val (.int (1 : Int32)), .val (.int (1 : Int32)), .val (.int (1 : Int32)), .unset, .unset, .unset, .unset, .unset, .unset, .unset, .unset, .unset, .unset, .unset, .unset] []) _ _ _
          exact J53 _ _ _ _ (by decide)
set_option maxRecDepth 65536 in
set_option maxHeartbeats 40000000 in
theorem comes_1 {Post : Tables → Env → Array Value → State → Outcome → State → Prop} (hpost : ∀ tb e args s v u, (limb_1_1.after args s (.returned v) u = true ∧ limb_1_2.after args s (.returned v) u = true ∧ True) → FrameEnd s (.returned v) u (Jvm.fieldLocs frame_1_writes args s ++ Jvm.arrayLocs frame_1_arrays args s ++ Jvm.staticLocs frame_1_statics s) 16 128 → Post tb e args s (.returned v) u) :
    ArmFor flags0 classFile x code maxLocals ret World_1 tables_1 room_1 Calls_1 rest_1 Pre_1 Post := by
  intro l hfl _ _ p e ha hc hk s m args below hf hA hF happ hP
  obtain ⟨hcalls, hrest, hpre⟩ := hP
  obtain ⟨-, -, -, hnamed, -, -, -, hat⟩ := (Spec.applies_iff hf).mp happ
  obtain ⟨hg, hn⟩ := and_e (Cond.before_iff.mp (show (Jvm.Cond.and given_1 narrow_1).before args s = true from hpre))
  obtain ⟨g0a, g0b⟩ := and_e hg
  obtain ⟨g1a, g1b⟩ := and_e g0b
  obtain ⟨g2a, g2b⟩ := and_e g1b
  obtain ⟨g3a, g3b⟩ := and_e g2b
  obtain ⟨w0, w1, w2, w3, rfl⟩ : ∃ w0 w1 w2 w3 : Value, args = #[w0, w1, w2, w3] := by
    have hs : args.size = 4 := by simpa [Cond.value, given_1] using g0a
    obtain ⟨L⟩ := args
    match L, hs with
    | [w0, w1, w2, w3], _ => exact ⟨w0, w1, w2, w3, rfl⟩
  have hw := fun d (hd : d ∈ tables_1) => atoms_spec (ws := Jvm.Cond.code x code maxLocals ret :: tables_1) hat d (List.mem_cons_of_mem _ hd)
  have hfit : Fit s := fun {y c} hc i hi => by
    obtain ⟨ha, rfl⟩ := Array.getElem?_eq_some_iff.mp hc
    have q := List.all_eq_true.mp ((Array.all_eq_true_iff_forall_mem.mp hF) _ (Array.getElem_mem ha)) i (List.mem_range.mpr hi)
    simpa [Array.getElem?_eq_getElem hi] using q
  obtain ⟨hsets, hown0⟩ := atoms_of _ (rest_1_c_eq ▸ (show rest_1_c.before _ s = true from hrest))
  have hr0 := Cond.before_iff.mp hown0
  obtain ⟨i0, ei0⟩ := is_v g1a
  obtain rfl : w0 = (.int i0) := Option.some.inj ei0
  obtain ⟨i1, ei1⟩ := is_v g2a
  obtain rfl : w1 = (.int i1) := Option.some.inj ei1
  obtain ⟨i2, ei2⟩ := is_v g3a
  obtain rfl : w2 = (.int i2) := Option.some.inj ei2
  obtain ⟨i3, ei3⟩ := is_v g3b
  obtain rfl : w3 = (.int i3) := Option.some.inj ei3
  obtain ⟨G1, ev1⟩ := is_v (Cond.before_iff.mp (hsets _ (List.mem_of_getElem? (i := 1) rfl)))
  have O2 := Sta.start ev1 (Or.inl (hsets _ (List.mem_of_getElem? (i := 0) rfl)))
  have P5 : ¬ G1 = (0 : Int32) := gotF (Cond.eq_ints ev1 rfl) (not_v (Cond.before_iff.mp (hsets _ (List.mem_of_getElem? (i := 2) rfl))))
  obtain ⟨n, o, h1, h2, h3, _, L, rfl, ⟨rfl, N⟩, hq⟩ := rm0 l s _ hw tables_1 s.heap.size s.heap (Old.start s) i0 i1 i2 i3 G1 O2 P5 p e ha hc hk s m _ below hf ((Spec.applies_iff_loose hf).mp happ).1 ⟨rfl, State.Warmed39.refl s, rfl⟩ trivial
  refine ⟨n, _, h1, h2, h3, hpost _ _ _ _ _ _ ⟨Cond.after_iff.mpr rfl, Cond.after_iff.mpr (eq_i res_at (Term.int_eval (1)) rfl), trivial⟩ ⟨hq.1, hq.2.1, (hq.2.2.sift fun y hy => Or.inr (N y hy)).mono (by decide) (by decide)⟩⟩
theorem main_1_1 : Claimed_1_1 := comes_1 fun _ _ _ _ _ _ h hF => ⟨h.1, hF⟩
theorem main_1_2 : Claimed_1_2 := comes_1 fun _ _ _ _ _ _ h hF => ⟨h.2.1, hF⟩
end Jvm.Pilot.@@N@@
namespace Jvm.Pilot.@@N@@
open Jvm Jvm.ClassFile Sem Op Lib Jvm.Free Jvm.Stand Jvm.Pilot.@@N@@.Jvm.D
/-! MADE BY PROGRAM (witnessworld.py) out of the Statement's table words and the real class files: 20 classes; the members and pool entries that the words name. The judged class is class 1, her method 1. -/
namespace start1
open Jvm.ClassFile
def u (s : String) : CpInfo := .utf8 (stringToUtf16 s)
/-- a pool by its gaps: so many unusable entries, then the entry; so many at the end -/
def gap : Nat → List CpInfo → List CpInfo
  | 0, r => r
  | n + 1, r => .unusable :: gap n r
def poolList (es : List (Nat × CpInfo)) (last : Nat) : List CpInfo := es.foldr (fun e r => gap e.1 (e.2 :: r)) (gap last [])
def pool (es : List (Nat × CpInfo)) (last : Nat) : Array CpInfo := ⟨poolList es last⟩
def fileOf (pool : Array CpInfo) (this : Nat) (attrs : Array Attribute := #[]) (ms : Array MethodInfo := #[]) (fl : Nat := 33) (sup : Nat := 0) (ifs : Array Nat := #[]) (fds : Array FieldInfo := #[]) : ClassFile where
  minorVersion := 0
  majorVersion := 65
  constantPool := pool
  accessFlags := fl
  thisClass := this
  superClass := sup
  interfaces := ifs
  fields := fds
  methods := ms
  attributes := attrs
def plain (name : String) (sup : Option ClassId) : Class where
  name := name
  kind := .ordinary
  loader := none
  accessFlags := 33
  super := sup
  interfaces := #[]
  cf := none
  fields := #[]
  methods := #[]
  instanceTypes := #[]
  staticTypes := #[]
  resolved := #[]
  callSites := []
  init := .initialized
  statics := none
  mirror := none

def pool0 : Array CpInfo := pool [(5, u "<init>"), (0, u "()V"), (1, .class_ 10), (1, u "java/lang/Object")] 113

def k0c0 : Code := { maxStack := 0, maxLocals := 1, code := object_method_1_code, exceptionTable := #[], attributes := #[] }
def k0m0 : Method := { name := "<init>", desc := "()V", sig := { parameters := [], returnType := none }, accessFlags := 1, code := some k0c0 }
/-- java/lang/Object -/
def k0 : Class := { plain "java/lang/Object" none with
  accessFlags := 33
  interfaces := #[]
  cf := some (fileOf pool0 8 #[] #[{ accessFlags := 1, nameIndex := 5, descriptorIndex := 6, attributes := #[] }] 33 0 #[] #[])
  fields := #[]
  methods := #[k0m0]
  instanceTypes := #[]
  staticTypes := #[]
  resolved := Array.replicate 124 none
  statics := none }

def pool1 : Array CpInfo := pool [(2, .class_ 4), (1, u "java/lang/Object"), (0, u "<init>"), (0, u "()V"), (0, .methodref 8 9), (0, .class_ 10), (0, .nameAndType 11 12), (0, u "com/example/authority/authority/UriReferenceIsUriPinLaw"), (0, u "letter"), (0, u "(I)C"), (0, .class_ 14), (0, u "com/example/authority/authority/UriReference"), (0, .class_ 16), (0, u "java/lang/String"), (0, .methodref 15 18), (0, .nameAndType 5 19), (0, u "([C)V"), (0, .methodref 13 21), (0, .nameAndType 5 22), (0, u "(Ljava/lang/String;IIIIII)V"), (0, .methodref 13 24), (0, .nameAndType 25 26), (0, u "isUri"), (0, u "()Z"), (0, .integer 2147483647), (2, u "law"), (0, u "(IIII)Z")] 5

def k1m0 : Method := { name := "<init>", desc := "()V", sig := { parameters := [], returnType := none }, accessFlags := 1, code := none }
def k1c1 : Code := { maxStack := 9, maxLocals := 20, code := code, exceptionTable := #[], attributes := #[] }
def k1m1 : Method := { name := "law", desc := "(IIII)Z", sig := { parameters := [.int, .int, .int, .int], returnType := some .boolean }, accessFlags := 9, code := some k1c1 }
def k1c2 : Code := { maxStack := 3, maxLocals := 1, code := method_3_code, exceptionTable := #[], attributes := #[] }
def k1m2 : Method := { name := "letter", desc := "(I)C", sig := { parameters := [.int], returnType := some .char }, accessFlags := 10, code := some k1c2 }
/-- com/example/authority/authority/UriReferenceIsUriPinLaw -/
def k1 : Class := { plain "com/example/authority/authority/UriReferenceIsUriPinLaw" (some 0) with
  accessFlags := 49
  interfaces := #[]
  cf := some (fileOf pool1 8 #[] #[{ accessFlags := 1, nameIndex := 5, descriptorIndex := 6, attributes := #[] }, { accessFlags := 9, nameIndex := 30, descriptorIndex := 31, attributes := #[] }, { accessFlags := 10, nameIndex := 11, descriptorIndex := 12, attributes := #[] }] 49 2 #[] #[])
  fields := #[]
  methods := #[k1m0, k1m1, k1m2]
  instanceTypes := #[]
  staticTypes := #[]
  resolved := Array.replicate 37 none
  statics := none }

def pool2 : Array CpInfo := pool [(1, .methodref 2 3), (0, .class_ 4), (0, .nameAndType 5 6), (0, u "java/lang/Object"), (0, u "<init>"), (0, u "()V"), (0, .fieldref 8 9), (0, .class_ 10), (0, .nameAndType 11 12), (0, u "com/example/authority/authority/UriReference"), (0, u "mText"), (0, u "Ljava/lang/String;"), (0, .fieldref 8 14), (0, .nameAndType 15 16), (0, u "mSchemeEnd"), (0, u "I"), (0, .fieldref 8 18), (0, .nameAndType 19 16), (0, u "mHostStart"), (0, .fieldref 8 21), (0, .nameAndType 22 16), (0, u "mHostEnd"), (0, .fieldref 8 24), (0, .nameAndType 25 16), (0, u "mPathStart"), (0, .fieldref 8 27), (0, .nameAndType 28 16), (0, u "mPathEnd"), (0, .fieldref 8 30), (0, .nameAndType 31 16), (0, u "mQueryEnd"), (40, u "()Z"), (33, u "(Ljava/lang/String;IIIIII)V"), (91, u "isUri")] 60

def k2c0 : Code := { maxStack := 2, maxLocals := 8, code := prog_7_method_1_code, exceptionTable := #[], attributes := #[] }
def k2m0 : Method := { name := "<init>", desc := "(Ljava/lang/String;IIIIII)V", sig := { parameters := [(.object "java/lang/String"), .int, .int, .int, .int, .int, .int], returnType := none }, accessFlags := 0, code := some k2c0 }
def k2c1 : Code := { maxStack := 1, maxLocals := 1, code := prog_7_method_12_code, exceptionTable := #[], attributes := #[] }
def k2m1 : Method := { name := "isUri", desc := "()Z", sig := { parameters := [], returnType := some .boolean }, accessFlags := 1, code := some k2c1 }
/-- com/example/authority/authority/UriReference -/
def k2 : Class := { plain "com/example/authority/authority/UriReference" (some 0) with
  accessFlags := 49
  interfaces := #[]
  cf := some (fileOf pool2 8 #[] #[{ accessFlags := 0, nameIndex := 5, descriptorIndex := 106, attributes := #[] }, { accessFlags := 1, nameIndex := 198, descriptorIndex := 72, attributes := #[] }] 49 2 #[] #[{ accessFlags := 18, nameIndex := 11, descriptorIndex := 12, attributes := #[] }, { accessFlags := 18, nameIndex := 15, descriptorIndex := 16, attributes := #[] }, { accessFlags := 18, nameIndex := 19, descriptorIndex := 16, attributes := #[] }, { accessFlags := 18, nameIndex := 22, descriptorIndex := 16, attributes := #[] }, { accessFlags := 18, nameIndex := 25, descriptorIndex := 16, attributes := #[] }, { accessFlags := 18, nameIndex := 28, descriptorIndex := 16, attributes := #[] }, { accessFlags := 18, nameIndex := 31, descriptorIndex := 16, attributes := #[] }])
  fields := #[{ name := "mText", type := (.object "java/lang/String"), accessFlags := 18, slot := 0, constantValue := 0 }, { name := "mSchemeEnd", type := .int, accessFlags := 18, slot := 1, constantValue := 0 }, { name := "mHostStart", type := .int, accessFlags := 18, slot := 2, constantValue := 0 }, { name := "mHostEnd", type := .int, accessFlags := 18, slot := 3, constantValue := 0 }, { name := "mPathStart", type := .int, accessFlags := 18, slot := 4, constantValue := 0 }, { name := "mPathEnd", type := .int, accessFlags := 18, slot := 5, constantValue := 0 }, { name := "mQueryEnd", type := .int, accessFlags := 18, slot := 6, constantValue := 0 }]
  methods := #[k2m0, k2m1]
  instanceTypes := #[(.object "java/lang/String"), .int, .int, .int, .int, .int, .int]
  staticTypes := #[]
  resolved := Array.replicate 259 none
  statics := none }

def pool3 : Array CpInfo := pool [(1, .class_ 2), (0, u "java/io/Serializable"), (0, .class_ 4), (0, u "java/lang/Object")] 2

/-- java/io/Serializable -/
def k3 : Class := { plain "java/io/Serializable" (some 0) with
  accessFlags := 1537
  interfaces := #[]
  cf := some (fileOf pool3 1 #[] #[] 1537 3 #[] #[])
  fields := #[]
  methods := #[]
  instanceTypes := #[]
  staticTypes := #[]
  resolved := Array.replicate 7 none
  statics := none }

def pool4 : Array CpInfo := pool [(1, .class_ 2), (0, u "java/lang/Comparable"), (0, .class_ 4), (0, u "java/lang/Object")] 7

/-- java/lang/Comparable -/
def k4 : Class := { plain "java/lang/Comparable" (some 0) with
  accessFlags := 1537
  interfaces := #[]
  cf := some (fileOf pool4 1 #[] #[] 1537 3 #[] #[])
  fields := #[]
  methods := #[]
  instanceTypes := #[]
  staticTypes := #[]
  resolved := Array.replicate 12 none
  statics := none }

def pool5 : Array CpInfo := pool [(2, .class_ 4), (1, u "java/lang/CharSequence"), (42, .class_ 48), (0, u "java/lang/CharSequence$1CodePointIterator"), (10, .class_ 60), (0, u "java/lang/CharSequence$1CharIterator"), (5, .class_ 67), (0, u "java/lang/Object")] 63

/-- java/lang/CharSequence -/
def k5 : Class := { plain "java/lang/CharSequence" (some 0) with
  accessFlags := 1537
  interfaces := #[]
  cf := some (fileOf pool5 2 #[.nestMembers #[47, 59]] #[] 1537 66 #[] #[])
  fields := #[]
  methods := #[]
  instanceTypes := #[]
  staticTypes := #[]
  resolved := Array.replicate 131 none
  statics := none }

def pool6 : Array CpInfo := pool [(1, .class_ 2), (0, u "java/lang/constant/Constable"), (0, .class_ 4), (0, u "java/lang/Object")] 6

/-- java/lang/constant/Constable -/
def k6 : Class := { plain "java/lang/constant/Constable" (some 0) with
  accessFlags := 1537
  interfaces := #[]
  cf := some (fileOf pool6 1 #[] #[] 1537 3 #[] #[])
  fields := #[]
  methods := #[]
  instanceTypes := #[]
  staticTypes := #[]
  resolved := Array.replicate 11 none
  statics := none }

def pool7 : Array CpInfo := pool [(1, .class_ 2), (0, u "java/lang/constant/ConstantDesc"), (0, .class_ 4), (0, u "java/lang/Object")] 32

/-- java/lang/constant/ConstantDesc -/
def k7 : Class := { plain "java/lang/constant/ConstantDesc" (some 0) with
  accessFlags := 1537
  interfaces := #[]
  cf := some (fileOf pool7 1 #[] #[] 1537 3 #[] #[])
  fields := #[]
  methods := #[]
  instanceTypes := #[]
  staticTypes := #[]
  resolved := Array.replicate 37 none
  statics := none }

def pool8 : Array CpInfo := pool [(1, .methodref 2 3), (0, .class_ 4), (0, .nameAndType 5 6), (0, u "java/lang/Object"), (0, u "<init>"), (0, u "()V"), (2, .fieldref 10 11), (0, .class_ 12), (0, .nameAndType 13 14), (0, u "java/lang/String"), (0, u "value"), (0, u "[B"), (0, .fieldref 10 16), (0, .nameAndType 17 18), (0, u "coder"), (0, u "B"), (2, u "hash"), (0, u "I"), (2, u "hashIsZero"), (0, u "Z"), (0, .methodref 10 28), (0, .nameAndType 5 29), (0, u "([CIILjava/lang/Void;)V"), (8, .fieldref 10 39), (0, .nameAndType 40 26), (0, u "COMPACT_STRINGS"), (1, .class_ 44), (1, u "java/lang/StringUTF16"), (0, u "compress"), (1, .methodref 42 48), (0, .nameAndType 49 50), (0, u "coderFromArrayLen"), (0, u "([BI)B"), (126, .methodref 42 178), (0, .nameAndType 45 179), (0, u "([CII)[B"), (395, .class_ 576), (0, u "java/lang/CharSequence"), (22, u "CASE_INSENSITIVE_ORDER"), (0, u "Ljava/util/Comparator;"), (409, u "([C)V"), (90, u "serialPersistentFields"), (0, u "[Ljava/io/ObjectStreamField;"), (0, .class_ 1104), (0, u "java/lang/String$CaseInsensitiveComparator"), (1, .class_ 1107), (0, u "java/io/Serializable"), (0, .class_ 1109), (0, u "java/lang/Comparable"), (0, .class_ 1111), (0, u "java/lang/constant/Constable"), (0, .class_ 1113), (0, u "java/lang/constant/ConstantDesc"), (2, u "serialVersionUID"), (0, u "J"), (3, u "REPL"), (0, u "C"), (2, u "LATIN1"), (1, u "UTF16")] 323

def k8m0 : Method := { name := "<init>", desc := "()V", sig := { parameters := [], returnType := none }, accessFlags := 1, code := none }
def k8c1 : Code := { maxStack := 5, maxLocals := 2, code := jdk_42_method_3_code, exceptionTable := #[], attributes := #[] }
def k8m1 : Method := { name := "<init>", desc := "([C)V", sig := { parameters := [(.array .char)], returnType := none }, accessFlags := 1, code := some k8c1 }
def k8c2 : Code := { maxStack := 4, maxLocals := 6, code := jdk_42_method_149_code, exceptionTable := #[], attributes := #[] }
def k8m2 : Method := { name := "<init>", desc := "([CIILjava/lang/Void;)V", sig := { parameters := [(.array .char), .int, .int, (.object "java/lang/Void")], returnType := none }, accessFlags := 2, code := some k8c2 }
/-- java/lang/String -/
def k8 : Class := { plain "java/lang/String" (some 0) with
  accessFlags := 49
  interfaces := #[3, 4, 5, 6, 7]
  cf := some (fileOf pool8 10 #[.nestMembers #[1103]] #[{ accessFlags := 1, nameIndex := 5, descriptorIndex := 6, attributes := #[] }, { accessFlags := 1, nameIndex := 5, descriptorIndex := 1010, attributes := #[] }, { accessFlags := 2, nameIndex := 5, descriptorIndex := 29, attributes := #[] }] 49 2 #[1106, 1108, 575, 1110, 1112] #[{ accessFlags := 18, nameIndex := 13, descriptorIndex := 14, attributes := #[] }, { accessFlags := 18, nameIndex := 17, descriptorIndex := 18, attributes := #[] }, { accessFlags := 2, nameIndex := 21, descriptorIndex := 22, attributes := #[] }, { accessFlags := 2, nameIndex := 25, descriptorIndex := 26, attributes := #[] }, { accessFlags := 26, nameIndex := 1116, descriptorIndex := 1117, attributes := #[] }, { accessFlags := 24, nameIndex := 40, descriptorIndex := 26, attributes := #[] }, { accessFlags := 26, nameIndex := 1101, descriptorIndex := 1102, attributes := #[] }, { accessFlags := 26, nameIndex := 1121, descriptorIndex := 1122, attributes := #[] }, { accessFlags := 25, nameIndex := 599, descriptorIndex := 600, attributes := #[] }, { accessFlags := 24, nameIndex := 1125, descriptorIndex := 18, attributes := #[] }, { accessFlags := 24, nameIndex := 1127, descriptorIndex := 18, attributes := #[] }])
  fields := #[{ name := "value", type := (.array .byte), accessFlags := 18, slot := 0, constantValue := 0 }, { name := "coder", type := .byte, accessFlags := 18, slot := 1, constantValue := 0 }, { name := "hash", type := .int, accessFlags := 2, slot := 2, constantValue := 0 }, { name := "hashIsZero", type := .boolean, accessFlags := 2, slot := 3, constantValue := 0 }, { name := "serialVersionUID", type := .long, accessFlags := 26, slot := 0, constantValue := 0 }, { name := "COMPACT_STRINGS", type := .boolean, accessFlags := 24, slot := 1, constantValue := 0 }, { name := "serialPersistentFields", type := (.array (.object "java/io/ObjectStreamField")), accessFlags := 26, slot := 2, constantValue := 0 }, { name := "REPL", type := .char, accessFlags := 26, slot := 3, constantValue := 0 }, { name := "CASE_INSENSITIVE_ORDER", type := (.object "java/util/Comparator"), accessFlags := 25, slot := 4, constantValue := 0 }, { name := "LATIN1", type := .byte, accessFlags := 24, slot := 5, constantValue := 0 }, { name := "UTF16", type := .byte, accessFlags := 24, slot := 6, constantValue := 0 }]
  methods := #[k8m0, k8m1, k8m2]
  instanceTypes := #[(.array .byte), .byte, .int, .boolean]
  staticTypes := #[.long, .boolean, (.array (.object "java/io/ObjectStreamField")), .char, (.object "java/util/Comparator"), .byte, .byte]
  resolved := Array.replicate 1451 none
  statics := some 0 }

def pool9 : Array CpInfo := pool [(6, .class_ 8), (1, u "java/lang/Object"), (0, u "<init>"), (0, u "()V"), (1, .class_ 14), (1, u "java/lang/StringUTF16"), (31, u "$assertionsDisabled"), (0, u "Z"), (13, u "HI_BYTE_SHIFT"), (0, u "I"), (2, u "LO_BYTE_SHIFT"), (49, .methodref 12 116), (0, .nameAndType 117 118), (0, u "compress"), (0, u "([CI[BII)I"), (3, u "([CII)[B"), (138, u "coderFromArrayLen"), (0, u "([BI)B"), (106, .class_ 371), (1, u "java/lang/StringUTF16$LinesSpliterator"), (58, u "MAX_LENGTH"), (196, .class_ 628), (0, u "java/lang/StringUTF16$CodePointsSpliterator"), (0, .class_ 630), (0, u "java/lang/StringUTF16$CharsSpliterator")] 4

def k9m0 : Method := { name := "<init>", desc := "()V", sig := { parameters := [], returnType := none }, accessFlags := 0, code := none }
def k9c1 : Code := { maxStack := 2, maxLocals := 2, code := jdk_52_method_15_code, exceptionTable := #[], attributes := #[] }
def k9m1 : Method := { name := "coderFromArrayLen", desc := "([BI)B", sig := { parameters := [(.array .byte), .int], returnType := some .byte }, accessFlags := 8, code := some k9c1 }
def k9c2 : Code := { maxStack := 5, maxLocals := 6, code := jdk_52_method_16_code, exceptionTable := #[], attributes := #[] }
def k9m2 : Method := { name := "compress", desc := "([CII)[B", sig := { parameters := [(.array .char), .int, .int], returnType := some (.array .byte) }, accessFlags := 9, code := some k9c2 }
def k9c3 : Code := { maxStack := 3, maxLocals := 7, code := jdk_52_method_21_code, exceptionTable := #[], attributes := #[] }
def k9m3 : Method := { name := "compress", desc := "([CI[BII)I", sig := { parameters := [(.array .char), .int, (.array .byte), .int, .int], returnType := some .int }, accessFlags := 9, code := some k9c3 }
/-- java/lang/StringUTF16 -/
def k9 : Class := { plain "java/lang/StringUTF16" (some 0) with
  accessFlags := 48
  interfaces := #[]
  cf := some (fileOf pool9 12 #[.nestMembers #[627, 629, 369]] #[{ accessFlags := 0, nameIndex := 9, descriptorIndex := 10, attributes := #[] }, { accessFlags := 8, nameIndex := 261, descriptorIndex := 262, attributes := #[] }, { accessFlags := 9, nameIndex := 117, descriptorIndex := 122, attributes := #[] }, { accessFlags := 9, nameIndex := 117, descriptorIndex := 118, attributes := #[] }] 48 6 #[] #[{ accessFlags := 26, nameIndex := 61, descriptorIndex := 62, attributes := #[] }, { accessFlags := 26, nameIndex := 65, descriptorIndex := 62, attributes := #[] }, { accessFlags := 24, nameIndex := 430, descriptorIndex := 62, attributes := #[] }, { accessFlags := 4120, nameIndex := 46, descriptorIndex := 47, attributes := #[] }])
  fields := #[{ name := "HI_BYTE_SHIFT", type := .int, accessFlags := 26, slot := 0, constantValue := 0 }, { name := "LO_BYTE_SHIFT", type := .int, accessFlags := 26, slot := 1, constantValue := 0 }, { name := "MAX_LENGTH", type := .int, accessFlags := 24, slot := 2, constantValue := 0 }, { name := "$assertionsDisabled", type := .boolean, accessFlags := 4120, slot := 3, constantValue := 0 }]
  methods := #[k9m0, k9m1, k9m2, k9m3]
  instanceTypes := #[]
  staticTypes := #[.int, .int, .int, .boolean]
  resolved := Array.replicate 635 none
  statics := none }

def pool10 : Array CpInfo := pool [(4, .class_ 6), (1, u "java/lang/Object"), (0, u "<init>"), (0, u "()V"), (5, .class_ 16), (1, u "java/lang/StringLatin1"), (104, u "$assertionsDisabled"), (0, u "Z"), (98, .class_ 223), (1, u "java/lang/StringLatin1$LinesSpliterator"), (166, .class_ 391), (0, u "java/lang/StringLatin1$CharsSpliterator")] 3

def k10m0 : Method := { name := "<init>", desc := "()V", sig := { parameters := [], returnType := none }, accessFlags := 0, code := none }
/-- java/lang/StringLatin1 -/
def k10 : Class := { plain "java/lang/StringLatin1" (some 0) with
  accessFlags := 48
  interfaces := #[]
  cf := some (fileOf pool10 14 #[.nestMembers #[390, 221]] #[{ accessFlags := 0, nameIndex := 7, descriptorIndex := 8, attributes := #[] }] 48 4 #[] #[{ accessFlags := 4120, nameIndex := 121, descriptorIndex := 122, attributes := #[] }])
  fields := #[{ name := "$assertionsDisabled", type := .boolean, accessFlags := 4120, slot := 0, constantValue := 0 }]
  methods := #[k10m0]
  instanceTypes := #[]
  staticTypes := #[.boolean]
  resolved := Array.replicate 395 none
  statics := none }

def pool11 : Array CpInfo := pool [(2, .class_ 4), (1, u "java/lang/Object"), (0, u "<init>"), (0, u "()V"), (17, .class_ 26), (1, u "jdk/internal/util/Preconditions"), (28, .class_ 56), (0, u "jdk/internal/util/Preconditions$4"), (57, .class_ 115), (0, u "jdk/internal/util/Preconditions$1"), (7, u "SIOOBE_FORMATTER"), (0, u "Ljava/util/function/BiFunction;"), (0, .class_ 126), (0, u "jdk/internal/util/Preconditions$2"), (3, u "AIOOBE_FORMATTER"), (0, .class_ 132), (0, u "jdk/internal/util/Preconditions$3"), (3, u "IOOBE_FORMATTER")] 57

def k11m0 : Method := { name := "<init>", desc := "()V", sig := { parameters := [], returnType := none }, accessFlags := 1, code := none }
/-- jdk/internal/util/Preconditions -/
def k11 : Class := { plain "jdk/internal/util/Preconditions" (some 0) with
  accessFlags := 33
  interfaces := #[]
  cf := some (fileOf pool11 24 #[.nestMembers #[55, 131, 125, 114]] #[{ accessFlags := 1, nameIndex := 5, descriptorIndex := 6, attributes := #[] }] 33 2 #[] #[{ accessFlags := 25, nameIndex := 123, descriptorIndex := 124, attributes := #[] }, { accessFlags := 25, nameIndex := 130, descriptorIndex := 124, attributes := #[] }, { accessFlags := 25, nameIndex := 136, descriptorIndex := 124, attributes := #[] }])
  fields := #[{ name := "SIOOBE_FORMATTER", type := (.object "java/util/function/BiFunction"), accessFlags := 25, slot := 0, constantValue := 0 }, { name := "AIOOBE_FORMATTER", type := (.object "java/util/function/BiFunction"), accessFlags := 25, slot := 1, constantValue := 0 }, { name := "IOOBE_FORMATTER", type := (.object "java/util/function/BiFunction"), accessFlags := 25, slot := 2, constantValue := 0 }]
  methods := #[k11m0]
  instanceTypes := #[]
  staticTypes := #[(.object "java/util/function/BiFunction"), (.object "java/util/function/BiFunction"), (.object "java/util/function/BiFunction")]
  resolved := Array.replicate 194 none
  statics := some 1 }

def pool12 : Array CpInfo := pool [(9, u "<init>"), (6, .class_ 18), (1, u "java/lang/Object"), (0, u "()V"), (1, .class_ 23), (1, u "jdk/internal/util/ArraysSupport"), (0, u "LOG2_ARRAY_LONG_INDEX_SCALE"), (0, u "I"), (2, u "U"), (0, u "Ljdk/internal/misc/Unsafe;"), (8, u "BIG_ENDIAN"), (0, u "Z"), (8, u "LOG2_BYTE_BIT_SIZE"), (4, u "LOG2_ARRAY_INT_INDEX_SCALE"), (54, u "JLA"), (0, u "Ljdk/internal/access/JavaLangAccess;"), (11, u "LOG2_ARRAY_BOOLEAN_INDEX_SCALE"), (9, u "LOG2_ARRAY_BYTE_INDEX_SCALE"), (5, u "LOG2_ARRAY_CHAR_INDEX_SCALE"), (5, u "LOG2_ARRAY_SHORT_INDEX_SCALE"), (18, u "LOG2_ARRAY_FLOAT_INDEX_SCALE"), (24, u "LOG2_ARRAY_DOUBLE_INDEX_SCALE"), (89, u "T_BOOLEAN"), (2, u "T_CHAR"), (1, u "T_FLOAT"), (1, u "T_DOUBLE"), (1, u "T_BYTE"), (1, u "T_SHORT"), (1, u "T_INT"), (1, u "T_LONG"), (1, u "SOFT_MAX_ARRAY_LENGTH")] 83

def k12m0 : Method := { name := "<init>", desc := "()V", sig := { parameters := [], returnType := none }, accessFlags := 2, code := none }
/-- jdk/internal/util/ArraysSupport -/
def k12 : Class := { plain "jdk/internal/util/ArraysSupport" (some 0) with
  accessFlags := 33
  interfaces := #[]
  cf := some (fileOf pool12 21 #[] #[{ accessFlags := 2, nameIndex := 9, descriptorIndex := 19, attributes := #[] }] 33 16 #[] #[{ accessFlags := 24, nameIndex := 28, descriptorIndex := 29, attributes := #[] }, { accessFlags := 26, nameIndex := 38, descriptorIndex := 39, attributes := #[] }, { accessFlags := 25, nameIndex := 121, descriptorIndex := 25, attributes := #[] }, { accessFlags := 25, nameIndex := 131, descriptorIndex := 25, attributes := #[] }, { accessFlags := 25, nameIndex := 137, descriptorIndex := 25, attributes := #[] }, { accessFlags := 25, nameIndex := 143, descriptorIndex := 25, attributes := #[] }, { accessFlags := 25, nameIndex := 53, descriptorIndex := 25, attributes := #[] }, { accessFlags := 25, nameIndex := 24, descriptorIndex := 25, attributes := #[] }, { accessFlags := 25, nameIndex := 162, descriptorIndex := 25, attributes := #[] }, { accessFlags := 25, nameIndex := 187, descriptorIndex := 25, attributes := #[] }, { accessFlags := 26, nameIndex := 48, descriptorIndex := 25, attributes := #[] }, { accessFlags := 25, nameIndex := 277, descriptorIndex := 25, attributes := #[] }, { accessFlags := 25, nameIndex := 280, descriptorIndex := 25, attributes := #[] }, { accessFlags := 25, nameIndex := 282, descriptorIndex := 25, attributes := #[] }, { accessFlags := 25, nameIndex := 284, descriptorIndex := 25, attributes := #[] }, { accessFlags := 25, nameIndex := 286, descriptorIndex := 25, attributes := #[] }, { accessFlags := 25, nameIndex := 288, descriptorIndex := 25, attributes := #[] }, { accessFlags := 25, nameIndex := 290, descriptorIndex := 25, attributes := #[] }, { accessFlags := 25, nameIndex := 292, descriptorIndex := 25, attributes := #[] }, { accessFlags := 26, nameIndex := 108, descriptorIndex := 109, attributes := #[] }, { accessFlags := 25, nameIndex := 294, descriptorIndex := 25, attributes := #[] }])
  fields := #[{ name := "U", type := (.object "jdk/internal/misc/Unsafe"), accessFlags := 24, slot := 0, constantValue := 0 }, { name := "BIG_ENDIAN", type := .boolean, accessFlags := 26, slot := 1, constantValue := 0 }, { name := "LOG2_ARRAY_BOOLEAN_INDEX_SCALE", type := .int, accessFlags := 25, slot := 2, constantValue := 0 }, { name := "LOG2_ARRAY_BYTE_INDEX_SCALE", type := .int, accessFlags := 25, slot := 3, constantValue := 0 }, { name := "LOG2_ARRAY_CHAR_INDEX_SCALE", type := .int, accessFlags := 25, slot := 4, constantValue := 0 }, { name := "LOG2_ARRAY_SHORT_INDEX_SCALE", type := .int, accessFlags := 25, slot := 5, constantValue := 0 }, { name := "LOG2_ARRAY_INT_INDEX_SCALE", type := .int, accessFlags := 25, slot := 6, constantValue := 0 }, { name := "LOG2_ARRAY_LONG_INDEX_SCALE", type := .int, accessFlags := 25, slot := 7, constantValue := 0 }, { name := "LOG2_ARRAY_FLOAT_INDEX_SCALE", type := .int, accessFlags := 25, slot := 8, constantValue := 0 }, { name := "LOG2_ARRAY_DOUBLE_INDEX_SCALE", type := .int, accessFlags := 25, slot := 9, constantValue := 0 }, { name := "LOG2_BYTE_BIT_SIZE", type := .int, accessFlags := 26, slot := 10, constantValue := 0 }, { name := "T_BOOLEAN", type := .int, accessFlags := 25, slot := 11, constantValue := 0 }, { name := "T_CHAR", type := .int, accessFlags := 25, slot := 12, constantValue := 0 }, { name := "T_FLOAT", type := .int, accessFlags := 25, slot := 13, constantValue := 0 }, { name := "T_DOUBLE", type := .int, accessFlags := 25, slot := 14, constantValue := 0 }, { name := "T_BYTE", type := .int, accessFlags := 25, slot := 15, constantValue := 0 }, { name := "T_SHORT", type := .int, accessFlags := 25, slot := 16, constantValue := 0 }, { name := "T_INT", type := .int, accessFlags := 25, slot := 17, constantValue := 0 }, { name := "T_LONG", type := .int, accessFlags := 25, slot := 18, constantValue := 0 }, { name := "JLA", type := (.object "jdk/internal/access/JavaLangAccess"), accessFlags := 26, slot := 19, constantValue := 0 }, { name := "SOFT_MAX_ARRAY_LENGTH", type := .int, accessFlags := 25, slot := 20, constantValue := 0 }]
  methods := #[k12m0]
  instanceTypes := #[]
  staticTypes := #[(.object "jdk/internal/misc/Unsafe"), .boolean, .int, .int, .int, .int, .int, .int, .int, .int, .int, .int, .int, .int, .int, .int, .int, .int, .int, (.object "jdk/internal/access/JavaLangAccess"), .int]
  resolved := Array.replicate 378 none
  statics := none }

def pool13 : Array CpInfo := pool [(1, u "java/lang/Cloneable"), (0, .class_ 1), (0, u "java/lang/Object"), (0, .class_ 3)] 3

/-- java/lang/Cloneable -/
def k13 : Class := { plain "java/lang/Cloneable" (some 0) with
  accessFlags := 1537
  interfaces := #[]
  cf := some (fileOf pool13 2 #[] #[] 1537 4 #[] #[])
  fields := #[]
  methods := #[]
  instanceTypes := #[]
  staticTypes := #[]
  resolved := Array.replicate 8 none
  statics := none }

/-- the primitive byte -/
def k14 : Class := { plain "byte" none with kind := .primitive 'B', accessFlags := 0x411 }
/-- [B -/
def k15 : Class := { plain "[B" (some 0) with kind := .array 14 .byte, interfaces := #[13, 3], accessFlags := 1041 }

/-- the primitive char -/
def k16 : Class := { plain "char" none with kind := .primitive 'C', accessFlags := 0x411 }
/-- [C -/
def k17 : Class := { plain "[C" (some 0) with kind := .array 16 .char, interfaces := #[13, 3], accessFlags := 1041 }

/-- the primitive int -/
def k18 : Class := { plain "int" none with kind := .primitive 'I', accessFlags := 0x411 }
/-- [I -/
def k19 : Class := { plain "[I" (some 0) with kind := .array 18 .int, interfaces := #[13, 3], accessFlags := 1041 }

def heap : Heap := #[{ cls := 8, slots := #[.long 0, .int 1, .null, .int 0, .null, .int 0, .int 0], vm := .statics 8 },
  { cls := 11, slots := #[.null, .null, .null], vm := .statics 11 }]
def classes : Array Class := #[k0, k1, k2, k3, k4, k5, k6, k7, k8, k9, k10, k11, k12, k13, k14, k15, k16, k17, k18, k19]
def interned : List (Array UInt16 × Addr) := []
def slotsUsed : Nat := 10
def theMethod : MethodId := ⟨1, 1⟩
def args0 : Array Value := #[.int 5, .int 6, .int 7, .int 8]
def aboutOver (below : List Frame) : State where
  vm := { classes := classes, interned := interned.toArray }
  heap := heap
  slotsUsed := slotsUsed
  threads := #[{ frames := .invoking theMethod args0 :: below }]
def below0 : List Frame := [.native { method := ⟨0, 0⟩, args := #[] }]
def about1 : State := aboutOver below0
def p0 : Program := .bare "" "" ""
def e0 : Env := launch0.env 0 0 0
theorem w_frames : about1.frames = Frame.invoking theMethod args0 :: below0 := rfl
set_option maxRecDepth 65536 in
theorem w_args : argsFit about1.vm theMethod args0 = true := by decide +kernel
set_option maxRecDepth 65536 in
theorem w_heap : heapFits about1 = true := by decide +kernel
set_option maxRecDepth 65536 in
theorem w_runnable : about1.curStatus? = some .runnable := by decide +kernel
set_option maxRecDepth 65536 in
theorem w_alone : about1.alone = true := by decide +kernel
set_option maxRecDepth 65536 in
theorem w_named : about1.methodNamed? x = some theMethod := by decide +kernel
set_option maxRecDepth 65536 in
theorem w_hears : about1.hears theMethod below0 = true := by decide +kernel
set_option maxRecDepth 65536 in
theorem w_ripe : about1.ripe theMethod args0 below0 = true := by decide +kernel
theorem w_running : about1.status = .running := rfl
set_option maxRecDepth 65536 in
theorem w_room : about1.hasRoom e0.platform room_1 = true :=
  launch0.hasRoom_least _ room_1 (by decide +kernel) (by decide +kernel) (by decide +kernel) (by decide +kernel) (by decide +kernel) (by decide +kernel)
theorem allAtoms_all (ts : List Jvm.Cond) (a : Array Jvm.Value) (st : Jvm.State) : (allAtoms ts).before a st = ts.all (fun c => c.before a st) := by
  induction ts with
  | nil => rfl
  | cons c t ih =>
    show (Jvm.Cond.and c (allAtoms t)).before a st = _
    rw [Jvm.Cond.before_and, ih, List.all_cons]
def words1 : List Jvm.Cond := Jvm.Cond.code x code maxLocals ret :: tables_1
/-- a 'code' word, met by the world's own term for the bytes: nothing is compared byte by byte -/
theorem code_word {y : MethodName} {bytes : ByteArray} {mx : Nat} {rt : Option FieldType} {a : Array Value} {s : State} {m : MethodId} {meth : Method} {c : Code} (h1 : s.methodNamed? y = some m) (h2 : s.vm.method? m = some meth) (h3 : meth.code = some c) (h4 : c.code = bytes)
    (h5 : (c.maxLocals == mx && c.exceptionTable.isEmpty && decide (c.maxStack ≤ mostOperands) && decide (meth.sig.returnType = rt) && !meth.locks && decide (parseMethodDescriptor y.desc = some meth.sig)) = true) : (Jvm.Cond.code y bytes mx rt).before a s = true := by
  simp only [Bool.and_eq_true, beq_iff_eq, Bool.not_eq_true', decide_eq_true_eq] at h5
  obtain ⟨⟨⟨⟨⟨g1, g2⟩, g3⟩, g4⟩, g5⟩, g6⟩ := h5
  simp [Cond.before, Cond.holds, Cond.value, h1, h2, h3, h4, g1, g2, g3, g4, g5, g6]
def isCode : Jvm.Cond → Bool
  | .code _ _ _ _ => true
  | _ => false
theorem all_split {L : List Jvm.Cond} {P : Jvm.Cond → Bool} (h1 : L.all (fun c => isCode c || P c) = true) (h2 : ∀ c ∈ L.filter isCode, P c = true) : L.all P = true := by
  refine List.all_eq_true.mpr fun c hc => ?_
  have h := List.all_eq_true.mp h1 c hc
  rcases Bool.eq_false_or_eq_true (isCode c) with hi | hi
  · exact h2 c (List.mem_filter.mpr ⟨hc, hi⟩)
  · simpa [hi] using h
set_option maxRecDepth 65536 in
theorem w_c0 : (Jvm.Cond.code x code maxLocals ret).before args0 about1 = true := code_word (m := ⟨1, 1⟩) (meth := k1m1) (c := k1c1) (by decide +kernel) rfl rfl rfl (by decide +kernel)
set_option maxRecDepth 65536 in
theorem w_c1 : (Jvm.Cond.code ({ cls := "com/example/authority/authority/UriReferenceIsUriPinLaw", name := "letter", desc := "(I)C" } : Jvm.MethodName) method_3_code (1 : Nat) (Option.some Jvm.ClassFile.FieldType.char)).before args0 about1 = true := code_word (m := ⟨1, 2⟩) (meth := k1m2) (c := k1c2) (by decide +kernel) rfl rfl rfl (by decide +kernel)
set_option maxRecDepth 65536 in
theorem w_c2 : (Jvm.Cond.code ({ cls := "java/lang/String", name := "<init>", desc := "([C)V" } : Jvm.MethodName) jdk_42_method_3_code (2 : Nat) (Option.none : Option Jvm.ClassFile.FieldType)).before args0 about1 = true := code_word (m := ⟨8, 1⟩) (meth := k8m1) (c := k8c1) (by decide +kernel) rfl rfl rfl (by decide +kernel)
set_option maxRecDepth 65536 in
theorem w_c3 : (Jvm.Cond.code ({ cls := "java/lang/String", name := "<init>", desc := "([CIILjava/lang/Void;)V" } : Jvm.MethodName) jdk_42_method_149_code (6 : Nat) (Option.none : Option Jvm.ClassFile.FieldType)).before args0 about1 = true := code_word (m := ⟨8, 2⟩) (meth := k8m2) (c := k8c2) (by decide +kernel) rfl rfl rfl (by decide +kernel)
set_option maxRecDepth 65536 in
theorem w_c4 : (Jvm.Cond.code ({ cls := "java/lang/Object", name := "<init>", desc := "()V" } : Jvm.MethodName) object_method_1_code (1 : Nat) (Option.none : Option Jvm.ClassFile.FieldType)).before args0 about1 = true := code_word (m := ⟨0, 0⟩) (meth := k0m0) (c := k0c0) (by decide +kernel) rfl rfl rfl (by decide +kernel)
set_option maxRecDepth 65536 in
theorem w_c5 : (Jvm.Cond.code ({ cls := "java/lang/StringUTF16", name := "compress", desc := "([CII)[B" } : Jvm.MethodName) jdk_52_method_16_code (6 : Nat) (Option.some (Jvm.ClassFile.FieldType.array Jvm.ClassFile.FieldType.byte))).before args0 about1 = true := code_word (m := ⟨9, 2⟩) (meth := k9m2) (c := k9c2) (by decide +kernel) rfl rfl rfl (by decide +kernel)
set_option maxRecDepth 65536 in
theorem w_c6 : (Jvm.Cond.code ({ cls := "java/lang/StringUTF16", name := "compress", desc := "([CI[BII)I" } : Jvm.MethodName) jdk_52_method_21_code (7 : Nat) (Option.some Jvm.ClassFile.FieldType.int)).before args0 about1 = true := code_word (m := ⟨9, 3⟩) (meth := k9m3) (c := k9c3) (by decide +kernel) rfl rfl rfl (by decide +kernel)
set_option maxRecDepth 65536 in
theorem w_c7 : (Jvm.Cond.code ({ cls := "java/lang/StringUTF16", name := "coderFromArrayLen", desc := "([BI)B" } : Jvm.MethodName) jdk_52_method_15_code (2 : Nat) (Option.some Jvm.ClassFile.FieldType.byte)).before args0 about1 = true := code_word (m := ⟨9, 1⟩) (meth := k9m1) (c := k9c1) (by decide +kernel) rfl rfl rfl (by decide +kernel)
set_option maxRecDepth 65536 in
theorem w_c8 : (Jvm.Cond.code ({ cls := "com/example/authority/authority/UriReference", name := "<init>", desc := "(Ljava/lang/String;IIIIII)V" } : Jvm.MethodName) prog_7_method_1_code (8 : Nat) (Option.none : Option Jvm.ClassFile.FieldType)).before args0 about1 = true := code_word (m := ⟨2, 0⟩) (meth := k2m0) (c := k2c0) (by decide +kernel) rfl rfl rfl (by decide +kernel)
set_option maxRecDepth 65536 in
theorem w_c9 : (Jvm.Cond.code ({ cls := "com/example/authority/authority/UriReference", name := "isUri", desc := "()Z" } : Jvm.MethodName) prog_7_method_12_code (1 : Nat) (Option.some Jvm.ClassFile.FieldType.boolean)).before args0 about1 = true := code_word (m := ⟨2, 1⟩) (meth := k2m1) (c := k2c1) (by decide +kernel) rfl rfl rfl (by decide +kernel)
def codes1 : List Jvm.Cond := [Jvm.Cond.code x code maxLocals ret, Jvm.Cond.code ({ cls := "com/example/authority/authority/UriReferenceIsUriPinLaw", name := "letter", desc := "(I)C" } : Jvm.MethodName) method_3_code (1 : Nat) (Option.some Jvm.ClassFile.FieldType.char), Jvm.Cond.code ({ cls := "java/lang/String", name := "<init>", desc := "([C)V" } : Jvm.MethodName) jdk_42_method_3_code (2 : Nat) (Option.none : Option Jvm.ClassFile.FieldType), Jvm.Cond.code ({ cls := "java/lang/String", name := "<init>", desc := "([CIILjava/lang/Void;)V" } : Jvm.MethodName) jdk_42_method_149_code (6 : Nat) (Option.none : Option Jvm.ClassFile.FieldType), Jvm.Cond.code ({ cls := "java/lang/Object", name := "<init>", desc := "()V" } : Jvm.MethodName) object_method_1_code (1 : Nat) (Option.none : Option Jvm.ClassFile.FieldType), Jvm.Cond.code ({ cls := "java/lang/StringUTF16", name := "compress", desc := "([CII)[B" } : Jvm.MethodName) jdk_52_method_16_code (6 : Nat) (Option.some (Jvm.ClassFile.FieldType.array Jvm.ClassFile.FieldType.byte)), Jvm.Cond.code ({ cls := "java/lang/StringUTF16", name := "compress", desc := "([CI[BII)I" } : Jvm.MethodName) jdk_52_method_21_code (7 : Nat) (Option.some Jvm.ClassFile.FieldType.int), Jvm.Cond.code ({ cls := "java/lang/StringUTF16", name := "coderFromArrayLen", desc := "([BI)B" } : Jvm.MethodName) jdk_52_method_15_code (2 : Nat) (Option.some Jvm.ClassFile.FieldType.byte), Jvm.Cond.code ({ cls := "com/example/authority/authority/UriReference", name := "<init>", desc := "(Ljava/lang/String;IIIIII)V" } : Jvm.MethodName) prog_7_method_1_code (8 : Nat) (Option.none : Option Jvm.ClassFile.FieldType), Jvm.Cond.code ({ cls := "com/example/authority/authority/UriReference", name := "isUri", desc := "()Z" } : Jvm.MethodName) prog_7_method_12_code (1 : Nat) (Option.some Jvm.ClassFile.FieldType.boolean)]
set_option maxRecDepth 65536 in
theorem codes_eq : words1.filter isCode = codes1 := rfl
theorem w_codes : ∀ c ∈ words1.filter isCode, c.before args0 about1 = true := by
  rw [codes_eq]
  intro c hc
  simp only [codes1, List.mem_cons, List.not_mem_nil, or_false] at hc
  rcases hc with rfl | rfl | rfl | rfl | rfl | rfl | rfl | rfl | rfl | rfl
  · exact w_c0
  · exact w_c1
  · exact w_c2
  · exact w_c3
  · exact w_c4
  · exact w_c5
  · exact w_c6
  · exact w_c7
  · exact w_c8
  · exact w_c9
set_option maxRecDepth 65536 in
theorem w_t1 : (words1.take 24).all (fun c => isCode c || c.before args0 about1) = true := by decide +kernel
set_option maxRecDepth 65536 in
theorem w_t2 : ((words1.drop 24).take 24).all (fun c => isCode c || c.before args0 about1) = true := by decide +kernel
set_option maxRecDepth 65536 in
theorem w_t3 : ((words1.drop 24).drop 24).all (fun c => isCode c || c.before args0 about1) = true := by decide +kernel
theorem w_tables : (allAtoms (Jvm.Cond.code x code maxLocals ret :: tables_1)).before args0 about1 = true := by
  rw [allAtoms_all]
  show words1.all (fun c => c.before args0 about1) = true
  refine all_split ?_ w_codes
  rw [← List.take_append_drop 24 words1, List.all_append, w_t1, ← List.take_append_drop 24 (words1.drop 24), List.all_append, w_t2, w_t3]
  rfl
set_option maxRecDepth 65536 in
theorem w_rest : rest_1_c.before args0 about1 = true := by decide +kernel
set_option maxRecDepth 65536 in
theorem w_case : (Jvm.Cond.and given_1 narrow_1).before args0 about1 = true := by decide +kernel
theorem w_applies : (headSpec (Jvm.Cond.code x code maxLocals ret :: tables_1) room_1).applies x e0.platform about1 = true :=
  (Spec.applies_iff w_frames).mpr ⟨w_running, w_runnable, w_alone, w_named, w_hears, w_ripe, w_room, w_tables⟩
theorem atStart : AtStart classFile x code maxLocals ret World_1 tables_1 room_1 Calls_1 rest_1 Pre_1 launch0 p0 e0 about1 theMethod args0 below0 :=
  ⟨lists_1, trivial, launch0.admits_env _ _ _, launch0.least_env, fairChoices_fair.cas, fairChoices_fair.clock, w_frames, w_args, w_heap, w_applies, trivial, w_rest, w_case⟩
end start1
theorem witness_1 : WitnessClaimed_1 := ⟨start1.p0, start1.e0, start1.about1, start1.theMethod, start1.args0, start1.below0, start1.atStart⟩
end Jvm.Pilot.@@N@@
