import JvmDerived
import JvmDerived.Pilot.@@N@@Statement
import JvmDerived.Pilot.@@N@@Code
set_option linter.unusedVariables false
set_option linter.unusedSimpArgs false
/- laws to paste: Road.backV, Road.eqW, Road.codOf (cut by pick.py; bodies as the Statement names them) -/
namespace Jvm.Pilot.@@N@@
namespace StrChars
open Jvm Sem ClassFile Op Lib Jvm.Stand Jvm.Free.XT Jvm.Free.ALB Jvm.Free.JM Jvm.Free
open Jvm.Lib.Cold (StaticIs)
/-- a char array whose places are chars -/
def Ch (a : Addr) (A : Cell) (U : State) : Prop := Arr .char a A U ∧ Typed .char A
theorem Ch.mv {a : Addr} {A : Cell} {U U' : State} (h : Ch a A U) (hal : U.vm.Alike U'.vm) (hh : U'.heap = U.heap) : Ch a A U' := ⟨h.1.mv hal hh, h.2⟩
theorem Ch.keep {a : Addr} {A : Cell} {U U' : State} (h : Ch a A U) (hal : U.vm.Alike U'.vm) (hk : U'.heap[a]? = some A) : Ch a A U' := ⟨h.1.keep hal hk, h.2⟩
/-- what place i of a char[]'s cell holds -/
def cv (A : Cell) (i : Nat) : Int32 := match A.slots[i]? with | some (.int x) => x | _ => 0
theorem Ch.get {a : Addr} {A : Cell} {U : State} (h : Ch a A U) {i : Nat} (hi : i < A.slots.size) : A.slots[i]? = some (.int (cv A i)) := by
  have e := Array.getElem?_eq_getElem hi
  have f := h.2 i _ e
  unfold cv; rw [e]
  generalize A.slots[i] = v at f
  cases v <;> simp [fits] at f ⊢
/-- the byte that i2b leaves of a char -/
def lo8 (x : Int32) : Int32 := x.toInt8.toInt32
theorem fits_lo8 (y : Int32) : fits .byte (.int (lo8 y)) = true := by
  have h1 := y.toInt8.le_toInt
  have h2 := y.toInt8.toInt_lt
  simp only [lo8, fits, Bool.and_eq_true, decide_eq_true_eq, Int32.le_iff_toInt_le, Int8.toInt_toInt32, show (-128 : Int32).toInt = -128 from by decide, show (127 : Int32).toInt = 127 from by decide]
  omega
/-- A' is A but that each place j of lo .. hi - 1 holds f j -/
def Laid (A A' : Cell) (lo hi : Nat) (f : Nat → Value) : Prop := A'.cls = A.cls ∧ A'.vm = A.vm ∧ A'.slots.size = A.slots.size ∧ ∀ i, A'.slots[i]? = if lo ≤ i ∧ i < hi then some (f i) else A.slots[i]?
theorem Laid.zero (A : Cell) (lo : Nat) (f : Nat → Value) : Laid A A lo (lo + 0) f := ⟨rfl, rfl, rfl, fun i => by rw [if_neg (by omega)]⟩
theorem Laid.step {A Ak : Cell} {lo k : Nat} {f : Nat → Value} {v : Value} (h : Laid A Ak lo k f) (hlo : lo ≤ k) (hk : k < Ak.slots.size) (hv : v = f k) : Laid A (Ak.setSlot k v) lo (k + 1) f := by
  refine ⟨h.1, h.2.1, by simpa [Cell.setSlot] using h.2.2.1, fun i => ?_⟩
  by_cases e : k = i
  · subst e; rw [Cell.slots_setSlot_self v hk, if_pos (by omega), hv]
  · rw [Cell.slots_setSlot_ne v e, h.2.2.2 i]
    by_cases q : lo ≤ i ∧ i < k
    · rw [if_pos q, if_pos (by omega)]
    · rw [if_neg q, if_neg (by omega)]
def U16 : String := "java/lang/StringUTF16"
namespace Cmp5
def yN : MethodName := ⟨"java/lang/StringUTF16", "compress", "([CI[BII)I"⟩
abbrev yB : ByteArray := jdk_52_method_21_code
theorem d0 : decode yB 0 = .ok (.iconst 0, 1) := by decide +kernel
theorem d1 : decode yB 1 = .ok (.istore 5, 2) := by decide +kernel
theorem d3 : decode yB 3 = .ok (.iload 5, 2) := by decide +kernel
theorem d5 : decode yB 5 = .ok (.iload 4, 2) := by decide +kernel
theorem d7 : decode yB 7 = .ok (.if_icmp (.ge) 37, 3) := by decide +kernel
theorem d10 : decode yB 10 = .ok (.aload_n 0, 1) := by decide +kernel
theorem d11 : decode yB 11 = .ok (.iload_n 1, 1) := by decide +kernel
theorem d12 : decode yB 12 = .ok (.caload, 1) := by decide +kernel
theorem d13 : decode yB 13 = .ok (.istore 6, 2) := by decide +kernel
theorem d15 : decode yB 15 = .ok (.iload 6, 2) := by decide +kernel
theorem d17 : decode yB 17 = .ok (.sipush 255, 3) := by decide +kernel
theorem d20 : decode yB 20 = .ok (.if_icmp (.le) 6, 3) := by decide +kernel
theorem d26 : decode yB 26 = .ok (.aload_n 2, 1) := by decide +kernel
theorem d27 : decode yB 27 = .ok (.iload_n 3, 1) := by decide +kernel
theorem d28 : decode yB 28 = .ok (.iload 6, 2) := by decide +kernel
theorem d30 : decode yB 30 = .ok (.i2b, 1) := by decide +kernel
theorem d31 : decode yB 31 = .ok (.bastore, 1) := by decide +kernel
theorem d32 : decode yB 32 = .ok (.iinc 1 1, 3) := by decide +kernel
theorem d35 : decode yB 35 = .ok (.iinc 3 1, 3) := by decide +kernel
theorem d38 : decode yB 38 = .ok (.iinc 5 1, 3) := by decide +kernel
theorem d41 : decode yB 41 = .ok (.goto (-38), 3) := by decide +kernel
theorem d44 : decode yB 44 = .ok (.iload 4, 2) := by decide +kernel
theorem d46 : decode yB 46 = .ok (.ireturn, 1) := by decide +kernel
def site : List Cond := []
def tab : Cond := tabOf yN yB 7 (some .int) site
def P (b : Addr) (A : Cell) (d : Addr) (B : Cell) (o q len : Nat) (args : Array Value) (s : State) : Prop := args = #[.ref b, .int (Int32.ofNat o), .ref d, .int (Int32.ofNat q), .int (Int32.ofNat len)] ∧ Ch b A s ∧ Arr .byte d B s ∧ b ≠ d ∧ o + len ≤ A.slots.size ∧ q + len ≤ B.slots.size ∧ ∀ i, i < len → ¬ 255 < cv A (o + i)
def E (b : Addr) (A : Cell) (d : Addr) (B : Cell) (o q len : Nat) (r : Option Value) (s u : State) : Prop := r = some (.int (Int32.ofNat len)) ∧ ∃ B', Put d B' s u ∧ Laid B B' q (q + len) (fun j => Value.int (lo8 (cv A (o + (j - q)))))
/-- no char of the range above 255: len; the places written hold each char's low byte -/
theorem law (l : Launch) (b : Addr) (A : Cell) (d : Addr) (B : Cell) (o q len : Nat) : Law l yN 5 5 0 0 yB 7 (some .int) site (P b A d B o q len) (E b A d B o q len) (copyLocs d q len) 0 0 := by
  refine Law.of_walk (plainFor_of_name (by decide +kernel)) (by decide +kernel) (by decide +kernel) (by decide) (fun _ _ h => by rw [h.1]; rfl) (fun _ U U' hal hh h => ⟨h.1, h.2.1.mv hal hh, h.2.2.1.mv hal hh, h.2.2.2⟩) (fun r U U' V V' h1 hal h2 h => ⟨h.1, h.2.elim fun B' q => ⟨B', q.1.mv h1 h2, q.2⟩⟩) ?_
  intro p e s m args below meth c s₁ X0 hexec hbytes hml hret hlk hnm hown hh0 W hP
  obtain ⟨rfl, hA, hB, hne, l1, l2, hp⟩ := hP
  have c1 : Steps p.tables e below (s₁.setTop (entryFrame m #[.ref b, .int (Int32.ofNat o), .ref d, .int (Int32.ofNat q), .int (Int32.ofNat len)] 7)) (s₁.setTop (mkF m 0 #[.val (.ref b), .val (.int (Int32.ofNat o)), .val (.ref d), .val (.int (Int32.ofNat q)), .val (.int (Int32.ofNat len)), .unset, .unset] [])) := entry rfl
  have hA0 := hA.1.mv X0.warmed.alike hh0
  have hB0 := hB.mv X0.warmed.alike hh0
  have a31 := hA.1.2.2.2
  have c2 : Steps p.tables e below (s₁.setTop (entryFrame m #[.ref b, .int (Int32.ofNat o), .ref d, .int (Int32.ofNat q), .int (Int32.ofNat len)] 7)) (s₁.setTop (mkF m 3 #[.val (.ref b), .val (.int (Int32.ofNat o)), .val (.ref d), .val (.int (Int32.ofNat q)), .val (.int (Int32.ofNat len)), .val (.int 0), .unset] [])) := c1.trans (by
    refine iconstV X0.here hexec rfl 0 (hb hbytes d0) (by decide) ?_
    refine XS.istore X0.here hexec rfl (hb hbytes d1) rfl rfl ?_
    exact Steps.refl _)
  have loop : ∀ (r i : Nat), i + r = len → ∀ (z : Slot), (z = .unset ∨ ∃ w, z = .val w ∧ w.category = 1) → ∀ (Tl : State) (Bk : Cell), Stand p l e { frames := 0, locals := 0, cells := 0, slots := 0 } s m #[.ref b, .int (Int32.ofNat o), .ref d, .int (Int32.ofNat q), .int (Int32.ofNat len)] below meth c Tl ([] ++ copyLocs d q i) 0 0 → Put d Bk s₁ Tl → Laid B Bk q (q + i) (fun j => Value.int (lo8 (cv A (o + (j - q))))) →
      Steps p.tables e below (s₁.setTop (entryFrame m #[.ref b, .int (Int32.ofNat o), .ref d, .int (Int32.ofNat q), .int (Int32.ofNat len)] 7)) (Tl.setTop (mkF m 3 #[.val (.ref b), .val (.int (Int32.ofNat (o + i))), .val (.ref d), .val (.int (Int32.ofNat (q + i))), .val (.int (Int32.ofNat len)), .val (.int (Int32.ofNat i)), z] [])) → ∃ (T' : State) (B' : Cell) (z' : Slot), Stand p l e { frames := 0, locals := 0, cells := 0, slots := 0 } s m #[.ref b, .int (Int32.ofNat o), .ref d, .int (Int32.ofNat q), .int (Int32.ofNat len)] below meth c T' ([] ++ copyLocs d q len) 0 0 ∧ Put d B' s₁ T' ∧ Laid B B' q (q + len) (fun j => Value.int (lo8 (cv A (o + (j - q))))) ∧
      Steps p.tables e below (s₁.setTop (entryFrame m #[.ref b, .int (Int32.ofNat o), .ref d, .int (Int32.ofNat q), .int (Int32.ofNat len)] 7)) (T'.setTop (mkF m 3 #[.val (.ref b), .val (.int (Int32.ofNat (o + len))), .val (.ref d), .val (.int (Int32.ofNat (q + len))), .val (.int (Int32.ofNat len)), .val (.int (Int32.ofNat len)), z'] [])) := by
    intro r
    induction r with
    | zero =>
      intro i hi z hz Tl Bk Xl pl fl cl
      have hil : i = len := by omega
      rw [hil] at Xl fl cl
      exact ⟨Tl, Bk, z, Xl, pl, fl, cl⟩
    | succ r ih =>
      intro i hi z hz Tl Bk Xl pl fl cl
      have all := X0.warmed.alike.symm.trans Xl.warmed.alike
      have hAl := hA0.keep all (pl.other hne hA0.1)
      have hBk := hB0.like all pl.1 fl.1 fl.2.1 fl.2.2.1
      have hlt : q + i < Bk.slots.size := by rw [fl.2.2.1]; omega
      have c3 : Steps p.tables e below (s₁.setTop (entryFrame m #[.ref b, .int (Int32.ofNat o), .ref d, .int (Int32.ofNat q), .int (Int32.ofNat len)] 7)) (Tl.setTop (mkF m 12 #[.val (.ref b), .val (.int (Int32.ofNat (o + i))), .val (.ref d), .val (.int (Int32.ofNat (q + i))), .val (.int (Int32.ofNat len)), .val (.int (Int32.ofNat i)), z] [.int (Int32.ofNat (o + i)), .ref b])) := cl.trans (by
        refine XS.iload Xl.here hexec rfl (hb hbytes d3) rfl ?_
        refine XS.iload Xl.here hexec rfl (hb hbytes d5) rfl ?_
        refine XS.icmpNo Xl.here hexec rfl (hb hbytes d7) rfl (ii_ge_f (lt32 (by omega) (by omega))) ?_
        refine XS.aloadN Xl.here hexec rfl (hb hbytes d10) rfl rfl ?_
        refine XS.iloadN Xl.here hexec rfl (hb hbytes d11) rfl ?_
        exact Steps.refl _)
      have c4 : Steps p.tables e below (s₁.setTop (entryFrame m #[.ref b, .int (Int32.ofNat o), .ref d, .int (Int32.ofNat q), .int (Int32.ofNat len)] 7)) (Tl.setTop (mkF m 13 #[.val (.ref b), .val (.int (Int32.ofNat (o + i))), .val (.ref d), .val (.int (Int32.ofNat (q + i))), .val (.int (Int32.ofNat len)), .val (.int (Int32.ofNat i)), z] [.int (cv A (o + i))])) := c3.trans (by
        refine Xl.aget hexec hAl rfl (hA.get (i := o + i) (by omega)) rfl rfl (hb hbytes d12) ?_
        exact Steps.refl _)
      have c5 : Steps p.tables e below (s₁.setTop (entryFrame m #[.ref b, .int (Int32.ofNat o), .ref d, .int (Int32.ofNat q), .int (Int32.ofNat len)] 7)) (Tl.setTop (mkF m 15 #[.val (.ref b), .val (.int (Int32.ofNat (o + i))), .val (.ref d), .val (.int (Int32.ofNat (q + i))), .val (.int (Int32.ofNat len)), .val (.int (Int32.ofNat i)), .val (.int (cv A (o + i)))] [])) := c4.trans (by
        refine XS.istoreS Xl.here hexec rfl (hb hbytes d13) rfl rfl hz ?_
        exact Steps.refl _)
      have c6 : Steps p.tables e below (s₁.setTop (entryFrame m #[.ref b, .int (Int32.ofNat o), .ref d, .int (Int32.ofNat q), .int (Int32.ofNat len)] 7)) (Tl.setTop (mkF m 31 #[.val (.ref b), .val (.int (Int32.ofNat (o + i))), .val (.ref d), .val (.int (Int32.ofNat (q + i))), .val (.int (Int32.ofNat len)), .val (.int (Int32.ofNat i)), .val (.int (cv A (o + i)))] [.int (lo8 (cv A (o + i))), .int (Int32.ofNat (q + i)), .ref d])) := c5.trans (by
        refine XS.iload Xl.here hexec rfl (hb hbytes d15) rfl ?_
        refine sipushV Xl.here hexec rfl 255 (hb hbytes d17) (by decide) ?_
        refine XS.icmpYes Xl.here hexec rfl (pc0 := 20) rfl (hb hbytes d20) rfl (ii_le_t (hp i (by omega))) (by decide) rfl ?_
        refine XS.aloadN Xl.here hexec rfl (hb hbytes d26) rfl rfl ?_
        refine XS.iloadN Xl.here hexec rfl (hb hbytes d27) rfl ?_
        refine XS.iload Xl.here hexec rfl (hb hbytes d28) rfl ?_
        refine i2b Xl.here hexec rfl (hb hbytes d30) rfl ?_
        exact Steps.refl _)
      obtain ⟨T7, X7, p7, st7⟩ := Xl.aput hexec hBk rfl hlt rfl (fits_lo8 (cv A (o + i))) (g := (mkF m 31 #[.val (.ref b), .val (.int (Int32.ofNat (o + i))), .val (.ref d), .val (.int (Int32.ofNat (q + i))), .val (.int (Int32.ofNat len)), .val (.int (Int32.ofNat i)), .val (.int (cv A (o + i)))] [.int (lo8 (cv A (o + i))), .int (Int32.ofNat (q + i)), .ref d])) rfl (rest := []) rfl (hb hbytes d31)
      have c8 : Steps p.tables e below (s₁.setTop (entryFrame m #[.ref b, .int (Int32.ofNat o), .ref d, .int (Int32.ofNat q), .int (Int32.ofNat len)] 7)) (T7.setTop (mkF m 32 #[.val (.ref b), .val (.int (Int32.ofNat (o + i))), .val (.ref d), .val (.int (Int32.ofNat (q + i))), .val (.int (Int32.ofNat len)), .val (.int (Int32.ofNat i)), .val (.int (cv A (o + i)))] [])) := c6.trans (st7 _ (Steps.refl _))
      have c9 : Steps p.tables e below (s₁.setTop (entryFrame m #[.ref b, .int (Int32.ofNat o), .ref d, .int (Int32.ofNat q), .int (Int32.ofNat len)] 7)) (T7.setTop (mkF m 3 #[.val (.ref b), .val (.int (Int32.ofNat (o + i) + 1)), .val (.ref d), .val (.int (Int32.ofNat (q + i) + 1)), .val (.int (Int32.ofNat len)), .val (.int (Int32.ofNat i + 1)), .val (.int (cv A (o + i)))] [])) := c8.trans (by
        refine iincV X7.here hexec rfl 1 (hb hbytes d32) (by decide) rfl rfl ?_
        refine iincV X7.here hexec rfl 1 (hb hbytes d35) (by decide) rfl rfl ?_
        refine iincV X7.here hexec rfl 1 (hb hbytes d38) (by decide) rfl rfl ?_
        refine XS.goto X7.here hexec rfl (pc0 := 41) rfl (hb hbytes d41) (by decide) rfl ?_
        exact Steps.refl _)
      have c10 : Steps p.tables e below (s₁.setTop (entryFrame m #[.ref b, .int (Int32.ofNat o), .ref d, .int (Int32.ofNat q), .int (Int32.ofNat len)] 7)) (T7.setTop (mkF m 3 #[.val (.ref b), .val (.int (Int32.ofNat (o + (i + 1)))), .val (.ref d), .val (.int (Int32.ofNat (q + (i + 1)))), .val (.int (Int32.ofNat len)), .val (.int (Int32.ofNat (i + 1))), .val (.int (cv A (o + i)))] [])) := by
        have := c9
        rw [succ32, succ32, succ32] at this
        exact this
      exact ih (i + 1) (by omega) _ (Or.inr ⟨_, rfl, rfl⟩) T7 _ (by rw [copyLocs_step, ← List.append_assoc]; exact X7) (pl.trans p7) (fl.step (by omega) hlt (by simp)) c10
  obtain ⟨T9, B9, z9, X9, p9, f9, g9⟩ := loop len 0 (by omega) .unset (Or.inl rfl) s₁ B (by simpa [copyLocs] using X0) ⟨hB0.1, fun _ _ => rfl, rfl⟩ (Laid.zero _ _ _) c2
  have c11 : Steps p.tables e below (s₁.setTop (entryFrame m #[.ref b, .int (Int32.ofNat o), .ref d, .int (Int32.ofNat q), .int (Int32.ofNat len)] 7)) (T9.setTop (mkF m 46 #[.val (.ref b), .val (.int (Int32.ofNat (o + len))), .val (.ref d), .val (.int (Int32.ofNat (q + len))), .val (.int (Int32.ofNat len)), .val (.int (Int32.ofNat len)), z9] [.int (Int32.ofNat len)])) := g9.trans (by
    refine XS.iload X9.here hexec rfl (hb hbytes d3) rfl ?_
    refine XS.iload X9.here hexec rfl (hb hbytes d5) rfl ?_
    refine XS.icmpYes X9.here hexec rfl (pc0 := 7) rfl (hb hbytes d7) rfl (ii_ge_t (nlt32 (by omega) (Nat.le_refl _))) (by decide) rfl ?_
    refine XS.iload X9.here hexec rfl (hb hbytes d44) rfl ?_
    exact Steps.refl _)
  exact ⟨T9, some (.int (Int32.ofNat len)), _, _, _, X9, by simp, rfl, rfl, (fun h => by cases h), ⟨rfl, B9, p9.from hh0, f9⟩, fun fs hl => c11.trans (X9.ireturnOut hexec hret rfl (Or.inl rfl) (hb hbytes d46) hl)⟩
end Cmp5
namespace Cmp3
def yN : MethodName := ⟨"java/lang/StringUTF16", "compress", "([CII)[B"⟩
abbrev yB : ByteArray := jdk_52_method_16_code
theorem d0 : decode yB 0 = .ok (.iload_n 2, 1) := by decide +kernel
theorem d1 : decode yB 1 = .ok (.newarray .byte, 2) := by decide +kernel
theorem d3 : decode yB 3 = .ok (.astore_n 3, 1) := by decide +kernel
theorem d4 : decode yB 4 = .ok (.aload_n 0, 1) := by decide +kernel
theorem d5 : decode yB 5 = .ok (.iload_n 1, 1) := by decide +kernel
theorem d6 : decode yB 6 = .ok (.aload_n 3, 1) := by decide +kernel
theorem d7 : decode yB 7 = .ok (.iconst 0, 1) := by decide +kernel
theorem d8 : decode yB 8 = .ok (.iload_n 2, 1) := by decide +kernel
theorem d9 : decode yB 9 = .ok (.invokestatic 115, 3) := by decide +kernel
theorem d12 : decode yB 12 = .ok (.istore 4, 2) := by decide +kernel
theorem d14 : decode yB 14 = .ok (.iload 4, 2) := by decide +kernel
theorem d16 : decode yB 16 = .ok (.iload_n 2, 1) := by decide +kernel
theorem d17 : decode yB 17 = .ok (.if_icmp (.eq) 40, 3) := by decide +kernel
theorem d57 : decode yB 57 = .ok (.aload_n 3, 1) := by decide +kernel
theorem d58 : decode yB 58 = .ok (.areturn, 1) := by decide +kernel
def site : List Cond := [.arrayClass .byte, Cmp5.tab] ++ staticW U16 115 Cmp5.yN
def tab : Cond := tabOf yN yB 6 (some (.array .byte)) site
def P (b : Addr) (A : Cell) (o len : Nat) (args : Array Value) (s : State) : Prop := args = #[.ref b, .int (Int32.ofNat o), .int (Int32.ofNat len)] ∧ Ch b A s ∧ o + len ≤ A.slots.size ∧ len ≤ 536870912 ∧ ∀ i, i < len → ¬ 255 < cv A (o + i)
def E (b : Addr) (A : Cell) (o len : Nat) (r : Option Value) (s u : State) : Prop := NewArr .byte "[B" len (fun j => .int (lo8 (cv A (o + j)))) r s u ∧ u.heap.size = s.heap.size + 1
/-- no char of the range above 255: a new byte[] of their low bytes -/
theorem law (l : Launch) (b : Addr) (A : Cell) (o len : Nat) : Law l yN 3 3 1 18 yB 6 (some (.array .byte)) site (P b A o len) (E b A o len) [] 1 len := by
  refine Law.of_walk (plainFor_of_name (by decide +kernel)) (by decide +kernel) (by decide +kernel) (by decide) (fun _ _ h => by rw [h.1]; rfl) (fun _ U U' hal hh h => ⟨h.1, h.2.1.mv hal hh, h.2.2⟩) (fun r U U' V V' h1 hal h2 h => ⟨NewArr.mv r U U' V V' h1 hal h2 h.1, by rw [h1, h2]; exact h.2⟩) ?_
  intro p e s m args below meth c s₁ X0 hexec hbytes hml hret hlk hnm hown hh0 W hP
  obtain ⟨rfl, hA, l1, l2, hp⟩ := hP
  have a31 := hA.1.2.2.2
  have c1 : Steps p.tables e below (s₁.setTop (entryFrame m #[.ref b, .int (Int32.ofNat o), .int (Int32.ofNat len)] 6)) (s₁.setTop (mkF m 0 #[.val (.ref b), .val (.int (Int32.ofNat o)), .val (.int (Int32.ofNat len)), .unset, .unset, .unset] [])) := entry rfl
  have c2 : Steps p.tables e below (s₁.setTop (entryFrame m #[.ref b, .int (Int32.ofNat o), .int (Int32.ofNat len)] 6)) (s₁.setTop (mkF m 1 #[.val (.ref b), .val (.int (Int32.ofNat o)), .val (.int (Int32.ofNat len)), .unset, .unset, .unset] [.int (Int32.ofNat len)])) := c1.trans (by
    refine XS.iloadN X0.here hexec rfl (hb hbytes d0) rfl ?_
    exact Steps.refl _)
  obtain ⟨T3, B3, X3, ba3, bs3, bv3, bh3, bf3, st3⟩ := X0.anew hexec (atype := .byte) (wk W (.arrayClass .byte)) rfl (by show len * 1 ≤ _; omega) (by omega) (g := (mkF m 1 #[.val (.ref b), .val (.int (Int32.ofNat o)), .val (.int (Int32.ofNat len)), .unset, .unset, .unset] [.int (Int32.ofNat len)])) rfl (hb hbytes d1) (rest := []) rfl (Nat.le_refl _) (by show 0 + len ≤ len; omega)
  rw [hh0] at ba3 st3
  have kp3 : XT.Kept s T3 := (XT.Kept.of_eq hh0).push bh3
  have hA3 := hA.keep X3.warmed.alike (kp3 _ _ hA.1.1)
  have hne : b ≠ s.heap.size := hA.1.ne
  have c4 : Steps p.tables e below (s₁.setTop (entryFrame m #[.ref b, .int (Int32.ofNat o), .int (Int32.ofNat len)] 6)) (T3.setTop (mkF m 3 #[.val (.ref b), .val (.int (Int32.ofNat o)), .val (.int (Int32.ofNat len)), .unset, .unset, .unset] [.ref s.heap.size])) := c2.trans (st3 _ (Steps.refl _))
  have c5 : Steps p.tables e below (s₁.setTop (entryFrame m #[.ref b, .int (Int32.ofNat o), .int (Int32.ofNat len)] 6)) (T3.setTop (mkF m 9 #[.val (.ref b), .val (.int (Int32.ofNat o)), .val (.int (Int32.ofNat len)), .val (.ref s.heap.size), .unset, .unset] [.int (Int32.ofNat len), .int 0, .ref s.heap.size, .int (Int32.ofNat o), .ref b])) := c4.trans (by
    refine XS.astoreN X3.here hexec rfl (hb hbytes d3) rfl rfl rfl ?_
    refine XS.aloadN X3.here hexec rfl (hb hbytes d4) rfl rfl ?_
    refine XS.iloadN X3.here hexec rfl (hb hbytes d5) rfl ?_
    refine XS.aloadN X3.here hexec rfl (hb hbytes d6) rfl rfl ?_
    refine iconstV X3.here hexec rfl 0 (hb hbytes d7) (by decide) ?_
    refine XS.iloadN X3.here hexec rfl (hb hbytes d8) rfl ?_
    exact Steps.refl _)
  obtain ⟨v6, T6, X6, E6, g6⟩ := X3.callS hexec (Cmp5.law l b A s.heap.size B3 o 0 len) hown (wks W (staticW U16 115 Cmp5.yN)) (wk W Cmp5.tab) (W := 0) (Nat.le_of_ble_eq_true rfl) (Nat.le_of_ble_eq_true rfl) (Nat.le_refl _) (by show 0 + len + 0 ≤ len; omega) (g := (mkF m 9 #[.val (.ref b), .val (.int (Int32.ofNat o)), .val (.int (Int32.ofNat len)), .val (.ref s.heap.size), .unset, .unset] [.int (Int32.ofNat len), .int (Int32.ofNat 0), .ref s.heap.size, .int (Int32.ofNat o), .ref b])) rfl (by rw [hml]; rfl) c5 (argsL := [.ref b, .int (Int32.ofNat o), .ref s.heap.size, .int (Int32.ofNat 0), .int (Int32.ofNat len)]) (rest := []) rfl rfl (by show 2 * 0 + 0 ≤ _; decide) (hb hbytes d9) (⟨rfl, hA3, ba3, hne, l1, by rw [bs3]; simp, hp⟩)
  obtain ⟨rfl, B6, p6, f6⟩ := E6
  have c7 : Steps p.tables e below (s₁.setTop (entryFrame m #[.ref b, .int (Int32.ofNat o), .int (Int32.ofNat len)] 6)) (T6.setTop (mkF m 12 #[.val (.ref b), .val (.int (Int32.ofNat o)), .val (.int (Int32.ofNat len)), .val (.ref s.heap.size), .unset, .unset] [.int (Int32.ofNat len)])) := g6
  have c8 : Steps p.tables e below (s₁.setTop (entryFrame m #[.ref b, .int (Int32.ofNat o), .int (Int32.ofNat len)] 6)) (T6.setTop (mkF m 58 #[.val (.ref b), .val (.int (Int32.ofNat o)), .val (.int (Int32.ofNat len)), .val (.ref s.heap.size), .val (.int (Int32.ofNat len)), .unset] [.ref s.heap.size])) := c7.trans (by
    refine XS.istore X6.here hexec rfl (hb hbytes d12) rfl rfl ?_
    refine XS.iload X6.here hexec rfl (hb hbytes d14) rfl ?_
    refine XS.iloadN X6.here hexec rfl (hb hbytes d16) rfl ?_
    refine XS.icmpYes X6.here hexec rfl (pc0 := 17) rfl (hb hbytes d17) rfl (ii_eq_t rfl) (by decide) rfl ?_
    refine XS.aloadN X6.here hexec rfl (hb hbytes d57) rfl rfl ?_
    exact Steps.refl _)
  have X8 := X6.wide (L' := []) (cells' := 1) (slots' := len) (fun x hx hlt => by
    simp only [List.nil_append, copyLocs, List.mem_map, List.mem_range] at hx
    obtain ⟨i, -, rfl⟩ := hx
    exact absurd hlt (Nat.lt_irrefl _)) (Nat.le_refl _) (by omega)
  exact ⟨T6, some (.ref s.heap.size), _, _, _, X8, rfl, rfl, rfl, (fun h => by cases h), ⟨⟨rfl, B6, ba3.like (X3.warmed.alike.symm.trans X6.warmed.alike) p6.1 f6.1 f6.2.1 f6.2.2.1, f6.2.1.trans bv3, by rw [X6.warmed.alike.findClass, f6.1]; exact bf3, by rw [f6.2.2.1, bs3]; simp, fun j hj => by rw [f6.2.2.2 j, if_pos (by omega)]; rfl, kp3.put p6 (Nat.le_refl _)⟩, by rw [p6.2.2, bh3, hh0]; simp⟩, fun fs hl => c8.trans (X8.areturnOut hexec rfl hret rfl (hb hbytes d58) hl)⟩
end Cmp3
namespace CodL
def yN : MethodName := ⟨"java/lang/StringUTF16", "coderFromArrayLen", "([BI)B"⟩
abbrev yB : ByteArray := jdk_52_method_15_code
theorem d0 : decode yB 0 = .ok (.iload_n 1, 1) := by decide +kernel
theorem d1 : decode yB 1 = .ok (.aload_n 0, 1) := by decide +kernel
theorem d2 : decode yB 2 = .ok (.arraylength, 1) := by decide +kernel
theorem d3 : decode yB 3 = .ok (.isub, 1) := by decide +kernel
theorem d4 : decode yB 4 = .ok (.bipush 31, 2) := by decide +kernel
theorem d6 : decode yB 6 = .ok (.iushr, 1) := by decide +kernel
theorem d7 : decode yB 7 = .ok (.i2b, 1) := by decide +kernel
theorem d8 : decode yB 8 = .ok (.ireturn, 1) := by decide +kernel
def site : List Cond := []
def tab : Cond := tabOf yN yB 2 (some .byte) site
def P (d : Addr) (B : Cell) (args : Array Value) (s : State) : Prop := args = #[.ref d, .int (Int32.ofNat B.slots.size)] ∧ Arr .byte d B s
def E (r : Option Value) (s u : State) : Prop := XT.PureE (some (.int 0)) r s u
/-- an array as long as the number of chars: LATIN1 -/
theorem law (l : Launch) (d : Addr) (B : Cell) : Law l yN 2 2 0 0 yB 2 (some .byte) site (P d B) E [] 0 0 := by
  refine Law.of_walk (plainFor_of_name (by decide +kernel)) (by decide +kernel) (by decide +kernel) (by decide) (fun _ _ h => by rw [h.1]; rfl) (fun _ U U' hal hh h => ⟨h.1, h.2.mv hal hh⟩) (fun r U U' V V' h1 hal h2 h => XT.PureE.mv r U U' V V' h1 hal h2 h) ?_
  intro p e s m args below meth c s₁ X0 hexec hbytes hml hret hlk hnm hown hh0 W hP
  obtain ⟨rfl, hB⟩ := hP
  have hB0 := hB.mv X0.warmed.alike hh0
  have c1 : Steps p.tables e below (s₁.setTop (entryFrame m #[.ref d, .int (Int32.ofNat B.slots.size)] 2)) (s₁.setTop (mkF m 0 #[.val (.ref d), .val (.int (Int32.ofNat B.slots.size))] [])) := entry rfl
  have c2 : Steps p.tables e below (s₁.setTop (entryFrame m #[.ref d, .int (Int32.ofNat B.slots.size)] 2)) (s₁.setTop (mkF m 2 #[.val (.ref d), .val (.int (Int32.ofNat B.slots.size))] [.ref d, .int (Int32.ofNat B.slots.size)])) := c1.trans (by
    refine XS.iloadN X0.here hexec rfl (hb hbytes d0) rfl ?_
    refine XS.aloadN X0.here hexec rfl (hb hbytes d1) rfl rfl ?_
    exact Steps.refl _)
  have c3 : Steps p.tables e below (s₁.setTop (entryFrame m #[.ref d, .int (Int32.ofNat B.slots.size)] 2)) (s₁.setTop (mkF m 8 #[.val (.ref d), .val (.int (Int32.ofNat B.slots.size))] [.int (lo8 (ushr (Int32.ofNat B.slots.size - Int32.ofNat B.slots.size) 31))])) := c2.trans (by
    refine X0.alen hexec hB0 rfl rfl (hb hbytes d2) ?_
    refine XS.isub X0.here hexec rfl (hb hbytes d3) rfl ?_
    refine bipushV X0.here hexec rfl 31 (hb hbytes d4) (by decide) ?_
    refine iushr X0.here hexec rfl (hb hbytes d6) rfl ?_
    refine i2b X0.here hexec rfl (hb hbytes d7) rfl ?_
    exact Steps.refl _)
  have e0 : lo8 (ushr (Int32.ofNat B.slots.size - Int32.ofNat B.slots.size) 31) = 0 := by rw [Int32.sub_self]; decide
  rw [e0] at c3
  exact ⟨s₁, some (.int 0), _, _, _, X0, rfl, rfl, rfl, (fun h => by cases h), ⟨rfl, hh0⟩, fun fs hl => c3.trans (X0.ireturnOut hexec hret rfl (Or.inr (Or.inr (Or.inl rfl))) (hb hbytes d8) hl)⟩
end CodL
/-- the String at a is Latin-1 over a new byte[] (the heap's one new cell): the low bytes of the len chars of A from o on; every cell but a is kept -/
def Got (a : Addr) (D : Cell) (fV fC : Field) (A : Cell) (o len : Nat) (r : Option Value) (s u : State) : Prop := r = none ∧ ∃ D' V : Cell, Blank "java/lang/String" a D' u ∧ Same D D' [fV.slot, fC.slot] ∧ D'.slots[fV.slot]? = some (.ref s.heap.size) ∧ D'.slots[fC.slot]? = some (.int 0) ∧ Arr .byte s.heap.size V u ∧ V.vm = .none ∧ u.vm.findClass "[B" = some V.cls ∧ V.slots.size = len ∧ (∀ j, j < len → V.slots[j]? = some (.int (lo8 (cv A (o + j))))) ∧ (∀ (y : Addr) (c : Cell), y ≠ a → s.heap[y]? = some c → u.heap[y]? = some c) ∧ u.heap.size = s.heap.size + 1
theorem Got.mv {a : Addr} {D A : Cell} {fV fC : Field} {o len : Nat} : ∀ r (U U' V V' : State), U'.heap = U.heap → V.vm.Alike V'.vm → V'.heap = V.heap → Got a D fV fC A o len r U V → Got a D fV fC A o len r U' V' :=
  fun r U U' V V' h1 hal h2 ⟨e0, D', X, a1, a2, a3, a4, a5, a6, a7, a8, a9, a10, a11⟩ => ⟨e0, D', X, a1.mv hal h2, a2, by rw [h1]; exact a3, a4, by rw [h1]; exact a5.mv hal h2, a6, by rw [hal.findClass]; exact a7, a8, a9, by rw [h1, h2]; exact a10, by rw [h1, h2]; exact a11⟩
namespace New4
def yN : MethodName := ⟨"java/lang/String", "<init>", "([CIILjava/lang/Void;)V"⟩
abbrev yB : ByteArray := jdk_42_method_149_code
theorem d0 : decode yB 0 = .ok (.aload_n 0, 1) := by decide +kernel
theorem d1 : decode yB 1 = .ok (.invokespecial 1, 3) := by decide +kernel
theorem d4 : decode yB 4 = .ok (.iload_n 3, 1) := by decide +kernel
theorem d5 : decode yB 5 = .ok (.ifCond (.ne) 22, 3) := by decide +kernel
theorem d27 : decode yB 27 = .ok (.getstatic 38, 3) := by decide +kernel
theorem d30 : decode yB 30 = .ok (.ifCond (.eq) 28, 3) := by decide +kernel
theorem d33 : decode yB 33 = .ok (.aload_n 1, 1) := by decide +kernel
theorem d34 : decode yB 34 = .ok (.iload_n 2, 1) := by decide +kernel
theorem d35 : decode yB 35 = .ok (.iload_n 3, 1) := by decide +kernel
theorem d36 : decode yB 36 = .ok (.invokestatic 177, 3) := by decide +kernel
theorem d39 : decode yB 39 = .ok (.astore 5, 2) := by decide +kernel
theorem d41 : decode yB 41 = .ok (.aload_n 0, 1) := by decide +kernel
theorem d42 : decode yB 42 = .ok (.aload 5, 2) := by decide +kernel
theorem d44 : decode yB 44 = .ok (.iload_n 3, 1) := by decide +kernel
theorem d45 : decode yB 45 = .ok (.invokestatic 47, 3) := by decide +kernel
theorem d48 : decode yB 48 = .ok (.putfield 15, 3) := by decide +kernel
theorem d51 : decode yB 51 = .ok (.aload_n 0, 1) := by decide +kernel
theorem d52 : decode yB 52 = .ok (.aload 5, 2) := by decide +kernel
theorem d54 : decode yB 54 = .ok (.putfield 9, 3) := by decide +kernel
theorem d57 : decode yB 57 = .ok (.return_, 1) := by decide +kernel
def site : List Cond := [.fieldLink "java/lang/String" 38 "java/lang/String" "COMPACT_STRINGS" "Z", Cmp3.tab, CodL.tab, .laysFinal "java/lang/String" "java/lang/String" "value" "[B", .fieldLink "java/lang/String" 9 "java/lang/String" "value" "[B", .laysFinal "java/lang/String" "java/lang/String" "coder" "B", .fieldLink "java/lang/String" 15 "java/lang/String" "coder" "B"] ++ objW "java/lang/String" 1 ++ staticW "java/lang/String" 177 Cmp3.yN ++ staticW "java/lang/String" 47 CodL.yN
def tab : Cond := tabOf yN yB 6 none site
def P (a : Addr) (D : Cell) (fV fC : Field) (b : Addr) (A : Cell) (z : Int32) (o len : Nat) (args : Array Value) (s : State) : Prop := args = #[.ref a, .ref b, .int (Int32.ofNat o), .int (Int32.ofNat len), .null] ∧ Blank "java/lang/String" a D s ∧ Found "java/lang/String" "value" "[B" fV s ∧ Found "java/lang/String" "coder" "B" fC s ∧ Ch b A s ∧ StaticIs s "java/lang/String" "COMPACT_STRINGS" "Z" (.int z) ∧ ¬ z = 0 ∧ 0 < len ∧ o + len ≤ A.slots.size ∧ len ≤ 536870912 ∧ ∀ i, i < len → ¬ 255 < cv A (o + i)
def E (a : Addr) (D : Cell) (fV fC : Field) (A : Cell) (o len : Nat) (r : Option Value) (s u : State) : Prop := Got a D fV fC A o len r s u
/-- len > 0, no char of the range above 255: a Latin-1 String of their low bytes -/
theorem law (l : Launch) (a : Addr) (D : Cell) (fV fC : Field) (b : Addr) (A : Cell) (z : Int32) (o len : Nat) : Law l yN 5 4 2 35 yB 6 none site (P a D fV fC b A z o len) (E a D fV fC A o len) [⟨a, fC.slot⟩, ⟨a, fV.slot⟩] 1 len := by
  refine Law.of_walk (plainFor_of_name (by decide +kernel)) (by decide +kernel) (by decide +kernel) (by decide) (fun _ _ h => by rw [h.1]; rfl) (fun _ U U' hal hh h => ⟨h.1, h.2.1.mv hal hh, h.2.2.1.al hal, h.2.2.2.1.al hal, h.2.2.2.2.1.mv hal hh, h.2.2.2.2.2.1.there hal hh, h.2.2.2.2.2.2⟩) (fun r U U' V V' h1 hal h2 h => Got.mv r U U' V V' h1 hal h2 h) ?_
  intro p e s m args below meth c s₁ X0 hexec hbytes hml hret hlk hnm hown hh0 W hP
  obtain ⟨rfl, hB, f1, f2, hA, s1, hz, l0, l1, l2, hp⟩ := hP
  have a31 := hA.1.2.2.2
  have c1 : Steps p.tables e below (s₁.setTop (entryFrame m #[.ref a, .ref b, .int (Int32.ofNat o), .int (Int32.ofNat len), .null] 6)) (s₁.setTop (mkF m 0 #[.val (.ref a), .val (.ref b), .val (.int (Int32.ofNat o)), .val (.int (Int32.ofNat len)), .val .null, .unset] [])) := entry rfl
  have c2 : Steps p.tables e below (s₁.setTop (entryFrame m #[.ref a, .ref b, .int (Int32.ofNat o), .int (Int32.ofNat len), .null] 6)) (s₁.setTop (mkF m 1 #[.val (.ref a), .val (.ref b), .val (.int (Int32.ofNat o)), .val (.int (Int32.ofNat len)), .val .null, .unset] [.ref a])) := c1.trans (by
    refine XS.aloadN X0.here hexec rfl (hb hbytes d0) rfl rfl ?_
    exact Steps.refl _)
  obtain ⟨T3, X3, q3, st3⟩ := X0.oinit hexec hown (wks W (objW "java/lang/String" 1)) (g := (mkF m 1 #[.val (.ref a), .val (.ref b), .val (.int (Int32.ofNat o)), .val (.int (Int32.ofNat len)), .val .null, .unset] [.ref a])) rfl (by rw [hml]; rfl) (rest := []) rfl (hb hbytes d1) (W := 0) (by show 2 * 0 + 0 ≤ _; decide) (Nat.le_of_ble_eq_true rfl) (Nat.le_of_ble_eq_true rfl)
  have hh3 := q3.trans hh0
  have c4 : Steps p.tables e below (s₁.setTop (entryFrame m #[.ref a, .ref b, .int (Int32.ofNat o), .int (Int32.ofNat len), .null] 6)) (T3.setTop (mkF m 27 #[.val (.ref a), .val (.ref b), .val (.int (Int32.ofNat o)), .val (.int (Int32.ofNat len)), .val .null, .unset] [])) := (c2.trans (st3 _ (Steps.refl _))).trans (by
    refine XS.iloadN X3.here hexec rfl (hb hbytes d4) rfl ?_
    refine XS.ifYes X3.here hexec rfl (pc0 := 5) rfl (hb hbytes d5) rfl (i0_ne_t (nz32 (by omega) l0)) (by decide) rfl ?_
    exact Steps.refl _)
  obtain ⟨T5, X5, q5, st5⟩ := X3.sget hexec hown (wk W (.fieldLink "java/lang/String" 38 "java/lang/String" "COMPACT_STRINGS" "Z")) s1 (fun _ _ h => by rw [hh3]; exact h) (g := (mkF m 27 #[.val (.ref a), .val (.ref b), .val (.int (Int32.ofNat o)), .val (.int (Int32.ofNat len)), .val .null, .unset] [])) rfl (hb hbytes d27)
  have hh5 := q5.trans hh3
  have c6 : Steps p.tables e below (s₁.setTop (entryFrame m #[.ref a, .ref b, .int (Int32.ofNat o), .int (Int32.ofNat len), .null] 6)) (T5.setTop (mkF m 30 #[.val (.ref a), .val (.ref b), .val (.int (Int32.ofNat o)), .val (.int (Int32.ofNat len)), .val .null, .unset] [.int z])) := c4.trans (st5 _ (Steps.refl _))
  have c7 : Steps p.tables e below (s₁.setTop (entryFrame m #[.ref a, .ref b, .int (Int32.ofNat o), .int (Int32.ofNat len), .null] 6)) (T5.setTop (mkF m 36 #[.val (.ref a), .val (.ref b), .val (.int (Int32.ofNat o)), .val (.int (Int32.ofNat len)), .val .null, .unset] [.int (Int32.ofNat len), .int (Int32.ofNat o), .ref b])) := c6.trans (by
    refine XS.ifNo X5.here hexec rfl (hb hbytes d30) rfl (i0_eq_f hz) ?_
    refine XS.aloadN X5.here hexec rfl (hb hbytes d33) rfl rfl ?_
    refine XS.iloadN X5.here hexec rfl (hb hbytes d34) rfl ?_
    refine XS.iloadN X5.here hexec rfl (hb hbytes d35) rfl ?_
    exact Steps.refl _)
  obtain ⟨v8, T8, X8, E8, g8⟩ := X5.callS hexec (Cmp3.law l b A o len) hown (wks W (staticW "java/lang/String" 177 Cmp3.yN)) (wk W Cmp3.tab) (W := 0) (Nat.le_of_ble_eq_true rfl) (Nat.le_of_ble_eq_true rfl) (Nat.le_refl _) (by show 0 + len ≤ len; omega) (g := (mkF m 36 #[.val (.ref a), .val (.ref b), .val (.int (Int32.ofNat o)), .val (.int (Int32.ofNat len)), .val .null, .unset] [.int (Int32.ofNat len), .int (Int32.ofNat o), .ref b])) rfl (by rw [hml]; rfl) c7 (argsL := [.ref b, .int (Int32.ofNat o), .int (Int32.ofNat len)]) (rest := []) rfl rfl (by show 2 * 0 + 0 ≤ _; decide) (hb hbytes d36) (⟨rfl, hA.mv X5.warmed.alike hh5, l1, l2, hp⟩)
  obtain ⟨e8, z8⟩ := E8
  obtain ⟨rfl, N, n1, n2, n3, n4, n5, n6⟩ := NewArr.mv _ T5 s _ _ hh5.symm (Vm.Alike.refl _) rfl e8
  rw [hh5] at z8
  have hB1 := hB.keep X8.warmed.alike (n6 _ _ hB.1)
  have hne : s.heap.size ≠ a := (Nat.ne_of_lt (Array.getElem?_eq_some_iff.mp hB.1).1).symm
  have c9 : Steps p.tables e below (s₁.setTop (entryFrame m #[.ref a, .ref b, .int (Int32.ofNat o), .int (Int32.ofNat len), .null] 6)) (T8.setTop (mkF m 39 #[.val (.ref a), .val (.ref b), .val (.int (Int32.ofNat o)), .val (.int (Int32.ofNat len)), .val .null, .unset] [.ref s.heap.size])) := g8
  have c10 : Steps p.tables e below (s₁.setTop (entryFrame m #[.ref a, .ref b, .int (Int32.ofNat o), .int (Int32.ofNat len), .null] 6)) (T8.setTop (mkF m 45 #[.val (.ref a), .val (.ref b), .val (.int (Int32.ofNat o)), .val (.int (Int32.ofNat len)), .val .null, .val (.ref s.heap.size)] [.int (Int32.ofNat N.slots.size), .ref s.heap.size, .ref a])) := by
    have hc : Steps p.tables e below (s₁.setTop (entryFrame m #[.ref a, .ref b, .int (Int32.ofNat o), .int (Int32.ofNat len), .null] 6)) (T8.setTop (mkF m 45 #[.val (.ref a), .val (.ref b), .val (.int (Int32.ofNat o)), .val (.int (Int32.ofNat len)), .val .null, .val (.ref s.heap.size)] [.int (Int32.ofNat len), .ref s.heap.size, .ref a])) := c9.trans (by
      refine XS.astore X8.here hexec rfl (hb hbytes d39) rfl rfl rfl ?_
      refine XS.aloadN X8.here hexec rfl (hb hbytes d41) rfl rfl ?_
      refine XS.aload X8.here hexec rfl (hb hbytes d42) rfl rfl ?_
      refine XS.iloadN X8.here hexec rfl (hb hbytes d44) rfl ?_
      exact Steps.refl _)
    rw [n4]; exact hc
  obtain ⟨v11, T11, X11, E11, g11⟩ := X8.callS hexec (CodL.law l s.heap.size N) hown (wks W (staticW "java/lang/String" 47 CodL.yN)) (wk W CodL.tab) (W := 1) (Nat.le_of_ble_eq_true rfl) (Nat.le_of_ble_eq_true rfl) (Nat.le_refl _) (by show 0 + len + 0 ≤ len; omega) (g := (mkF m 45 #[.val (.ref a), .val (.ref b), .val (.int (Int32.ofNat o)), .val (.int (Int32.ofNat len)), .val .null, .val (.ref s.heap.size)] [.int (Int32.ofNat N.slots.size), .ref s.heap.size, .ref a])) rfl (by rw [hml]; rfl) c10 (argsL := [.ref s.heap.size, .int (Int32.ofNat N.slots.size)]) (rest := [.ref a]) rfl rfl (by show 2 * 0 + (1 + 0) ≤ _; decide) (hb hbytes d45) (⟨rfl, n1⟩)
  obtain ⟨rfl, q11⟩ := E11
  have hB11 := hB1.mv (X8.warmed.alike.symm.trans X11.warmed.alike) q11
  have c12 : Steps p.tables e below (s₁.setTop (entryFrame m #[.ref a, .ref b, .int (Int32.ofNat o), .int (Int32.ofNat len), .null] 6)) (T11.setTop (mkF m 48 #[.val (.ref a), .val (.ref b), .val (.int (Int32.ofNat o)), .val (.int (Int32.ofNat len)), .val .null, .val (.ref s.heap.size)] [.int 0, .ref a])) := g11
  obtain ⟨T13, X13, p13, bl13, sl13, st13⟩ := X11.finit hexec hown (wk W (.fieldLink "java/lang/String" 15 "java/lang/String" "coder" "B")) (Or.inr ⟨_, (wk W (.laysFinal "java/lang/String" "java/lang/String" "coder" "B"))⟩) (Or.inl ⟨rfl, hnm⟩) f2 (Or.inl rfl) hB11 (t := .byte) (by decide +kernel) rfl (g := (mkF m 48 #[.val (.ref a), .val (.ref b), .val (.int (Int32.ofNat o)), .val (.int (Int32.ofNat len)), .val .null, .val (.ref s.heap.size)] [.int 0, .ref a])) rfl (rest := []) rfl (hb hbytes d48)
  have c14 : Steps p.tables e below (s₁.setTop (entryFrame m #[.ref a, .ref b, .int (Int32.ofNat o), .int (Int32.ofNat len), .null] 6)) (T13.setTop (mkF m 54 #[.val (.ref a), .val (.ref b), .val (.int (Int32.ofNat o)), .val (.int (Int32.ofNat len)), .val .null, .val (.ref s.heap.size)] [.ref s.heap.size, .ref a])) := (c12.trans (st13 _ (Steps.refl _))).trans (by
    refine XS.aloadN X13.here hexec rfl (hb hbytes d51) rfl rfl ?_
    refine XS.aload X13.here hexec rfl (hb hbytes d52) rfl rfl ?_
    exact Steps.refl _)
  obtain ⟨T15, X15, p15, bl15, sl15, st15⟩ := X13.finit hexec hown (wk W (.fieldLink "java/lang/String" 9 "java/lang/String" "value" "[B")) (Or.inr ⟨_, (wk W (.laysFinal "java/lang/String" "java/lang/String" "value" "[B"))⟩) (Or.inl ⟨rfl, hnm⟩) f1 (Or.inl rfl) bl13 (t := (.array .byte)) (by decide +kernel) rfl (g := (mkF m 54 #[.val (.ref a), .val (.ref b), .val (.int (Int32.ofNat o)), .val (.int (Int32.ofNat len)), .val .null, .val (.ref s.heap.size)] [.ref s.heap.size, .ref a])) rfl (rest := []) rfl (hb hbytes d54)
  have c16 : Steps p.tables e below (s₁.setTop (entryFrame m #[.ref a, .ref b, .int (Int32.ofNat o), .int (Int32.ofNat len), .null] 6)) (T15.setTop (mkF m 57 #[.val (.ref a), .val (.ref b), .val (.int (Int32.ofNat o)), .val (.int (Int32.ofNat len)), .val .null, .val (.ref s.heap.size)] [])) := c14.trans (st15 _ (Steps.refl _))
  have ap := apart (Or.inr ⟨_, (wk W (.laysFinal "java/lang/String" "java/lang/String" "value" "[B"))⟩) (Or.inr ⟨_, (wk W (.laysFinal "java/lang/String" "java/lang/String" "coder" "B"))⟩) f1 f2 (t₁ := .array .byte) (t₂ := .byte) (by decide +kernel) (by decide +kernel) (by decide)
  have al := X8.warmed.alike.symm.trans X15.warmed.alike
  have n7 : T11.heap[s.heap.size]? = some N := by rw [q11]; exact n1.1
  exact ⟨T15, none, _, _, _, X15, by simp, rfl, by omega, (fun _ => rfl), ⟨rfl, _, N, bl15, ((Same.refl D _).set _ (by simp)).set _ (by simp), sl15, (Cell.slots_setSlot_ne _ ap).trans sl13, n1.keep al (p15.other hne (p13.other hne n7)), n2, by rw [al.findClass]; exact n3, n4, n5, fun y c h1 h2 => p15.other h1 (p13.other h1 (by rw [q11]; exact n6 y c h2)), by rw [p15.2.2, p13.2.2, q11]; exact z8⟩, fun fs hl => c16.trans (X15.returnOut hexec hret (hb hbytes d57) hl)⟩
end New4
namespace New1
def yN : MethodName := ⟨"java/lang/String", "<init>", "([C)V"⟩
abbrev yB : ByteArray := jdk_42_method_3_code
theorem d0 : decode yB 0 = .ok (.aload_n 0, 1) := by decide +kernel
theorem d1 : decode yB 1 = .ok (.aload_n 1, 1) := by decide +kernel
theorem d2 : decode yB 2 = .ok (.iconst 0, 1) := by decide +kernel
theorem d3 : decode yB 3 = .ok (.aload_n 1, 1) := by decide +kernel
theorem d4 : decode yB 4 = .ok (.arraylength, 1) := by decide +kernel
theorem d5 : decode yB 5 = .ok (.aconst_null, 1) := by decide +kernel
theorem d6 : decode yB 6 = .ok (.invokespecial 27, 3) := by decide +kernel
theorem d9 : decode yB 9 = .ok (.return_, 1) := by decide +kernel
def site : List Cond := [New4.tab] ++ initW "java/lang/String" 27 New4.yN
def tab : Cond := tabOf yN yB 2 none site
def P (a : Addr) (D : Cell) (fV fC : Field) (b : Addr) (A : Cell) (z : Int32) (args : Array Value) (s : State) : Prop := args = #[.ref a, .ref b] ∧ Blank "java/lang/String" a D s ∧ Found "java/lang/String" "value" "[B" fV s ∧ Found "java/lang/String" "coder" "B" fC s ∧ Ch b A s ∧ StaticIs s "java/lang/String" "COMPACT_STRINGS" "Z" (.int z) ∧ ¬ z = 0 ∧ 0 < A.slots.size ∧ A.slots.size ≤ 536870912 ∧ ∀ i, i < A.slots.size → ¬ 255 < cv A i
def E (a : Addr) (D : Cell) (fV fC : Field) (A : Cell) (r : Option Value) (s u : State) : Prop := Got a D fV fC A 0 A.slots.size r s u
/-- new String(chars), not empty, no char above 255: a Latin-1 String of their low bytes -/
theorem law (l : Launch) (a : Addr) (D : Cell) (fV fC : Field) (b : Addr) (A : Cell) (z : Int32) : Law l yN 2 1 3 52 yB 2 none site (P a D fV fC b A z) (E a D fV fC A) [⟨a, fC.slot⟩, ⟨a, fV.slot⟩] 1 A.slots.size := by
  refine Law.of_walk (plainFor_of_name (by decide +kernel)) (by decide +kernel) (by decide +kernel) (by decide) (fun _ _ h => by rw [h.1]; rfl) (fun _ U U' hal hh h => ⟨h.1, h.2.1.mv hal hh, h.2.2.1.al hal, h.2.2.2.1.al hal, h.2.2.2.2.1.mv hal hh, h.2.2.2.2.2.1.there hal hh, h.2.2.2.2.2.2⟩) (fun r U U' V V' h1 hal h2 h => Got.mv r U U' V V' h1 hal h2 h) ?_
  intro p e s m args below meth c s₁ X0 hexec hbytes hml hret hlk hnm hown hh0 W hP
  obtain ⟨rfl, hB, f1, f2, hA, s1, hz, l0, l2, hp⟩ := hP
  have c1 : Steps p.tables e below (s₁.setTop (entryFrame m #[.ref a, .ref b] 2)) (s₁.setTop (mkF m 0 #[.val (.ref a), .val (.ref b)] [])) := entry rfl
  have c2 : Steps p.tables e below (s₁.setTop (entryFrame m #[.ref a, .ref b] 2)) (s₁.setTop (mkF m 6 #[.val (.ref a), .val (.ref b)] [.null, .int (Int32.ofNat A.slots.size), .int 0, .ref b, .ref a])) := c1.trans (by
    refine XS.aloadN X0.here hexec rfl (hb hbytes d0) rfl rfl ?_
    refine XS.aloadN X0.here hexec rfl (hb hbytes d1) rfl rfl ?_
    refine iconstV X0.here hexec rfl 0 (hb hbytes d2) (by decide) ?_
    refine XS.aloadN X0.here hexec rfl (hb hbytes d3) rfl rfl ?_
    refine X0.alen hexec (hA.1.mv X0.warmed.alike hh0) rfl rfl (hb hbytes d4) ?_
    refine XS.aconstNull X0.here hexec rfl (hb hbytes d5) ?_
    exact Steps.refl _)
  obtain ⟨v3, T3, X3, E3, g3⟩ := X0.callN hexec (New4.law l a D fV fC b A z 0 A.slots.size) rfl hown (wks W (initW "java/lang/String" 27 New4.yN)) (W New4.tab (by simp only [site, List.mem_cons, List.mem_append, true_or, or_true])) (W := 0) (Nat.le_of_ble_eq_true rfl) (Nat.le_of_ble_eq_true rfl) (Nat.le_refl _) (by show 0 + A.slots.size ≤ A.slots.size; omega) (g := (mkF m 6 #[.val (.ref a), .val (.ref b)] [.null, .int (Int32.ofNat A.slots.size), .int (Int32.ofNat 0), .ref b, .ref a])) rfl (by rw [hml]; rfl) c2 (argsL := [.ref b, .int (Int32.ofNat 0), .int (Int32.ofNat A.slots.size), .null]) (rest := []) rfl rfl (by show 2 * 0 + 0 ≤ _; decide) (hb hbytes d6) (⟨rfl, hB.mv X0.warmed.alike hh0, f1.al X0.warmed.alike, f2.al X0.warmed.alike, hA.mv X0.warmed.alike hh0, s1.there X0.warmed.alike hh0, hz, l0, by omega, l2, fun i hi => by rw [Nat.zero_add]; exact hp i hi⟩)
  have e0 := Got.mv _ s₁ s _ _ hh0.symm (Vm.Alike.refl _) rfl E3
  obtain rfl := e0.1
  have c4 : Steps p.tables e below (s₁.setTop (entryFrame m #[.ref a, .ref b] 2)) (T3.setTop (mkF m 9 #[.val (.ref a), .val (.ref b)] [])) := g3
  exact ⟨T3, none, _, _, _, X3, by simp, rfl, by omega, (fun _ => rfl), e0, fun fs hl => c4.trans (X3.returnOut hexec hret (hb hbytes d9) hl)⟩
theorem pays {l : Launch} {R : Room} {p : Program} {e : Env} {below : List Frame} {s : State} {sargs : Array Value} {len W : Nat} (a : Addr) (D : Cell) (fV fC : Field) (b : Addr) (A : Cell) (z : Int32) (htab : tab.before sargs s = true) (hfr : 4 ≤ R.frames) (hlo : W + 65 ≤ R.locals) :
    Back l R p e below s sargs yN len W (fun A₁ a₁ => A₁.cells + 1 ≤ R.cells ∧ A₁.slots + A.slots.size ≤ R.slots ∧ P a D fV fC b A z a₁ A₁.U) (fun A₁ _ v₁ B₁ => E a D fV fC A v₁ A₁.U B₁.U ∧ B₁.locs = A₁.locs ++ [⟨a, fC.slot⟩, ⟨a, fV.slot⟩] ∧ B₁.cells = A₁.cells + 1 ∧ B₁.slots = A₁.slots + A.slots.size) :=
  (law l a D fV fC b A z).pays htab hfr (by omega)
end New1
/-- the byte, read back as charAt reads it, is the char -/
theorem lo8_mask {x : Int32} (h0 : ¬ x < 0) (h1 : ¬ 255 < x) : lo8 x &&& 255 = x := by
  have t : ∀ k : Fin 256, lo8 (Int32.ofNat k.val) &&& 255 = Int32.ofNat k.val := by decide +kernel
  rw [Int32.lt_iff_toInt_lt] at h0 h1
  have e0 : (0 : Int32).toInt = 0 := rfl
  have e1 : (255 : Int32).toInt = 255 := rfl
  obtain ⟨k, hk⟩ : ∃ k : Nat, x.toInt = k := ⟨x.toInt.toNat, by omega⟩
  have hx : x = Int32.ofNat k := Int32.toInt_inj.mp (by rw [hk, Int32.toInt_ofNat_small (by omega)])
  rw [hx]
  exact t ⟨k, by omega⟩
end StrChars
namespace StrChars.Road
open Jvm Sem ClassFile Op Lib Jvm.Stand Jvm.Free Jvm.Free.XT
open Jvm.Lib.Cold (StaticIs)
abbrev ST : String := "java/lang/String"
/-- every table word that New1's law asks, flat -/
abbrev words : List Jvm.Cond := [.code New1.yN New1.yB 2 none, .initialized ST, .methodLink ST 27 New4.yN, .instanceMethod New4.yN,
  .code New4.yN New4.yB 6 none, .fieldLink ST 38 ST "COMPACT_STRINGS" "Z", .laysFinal ST ST "value" "[B", .fieldLink ST 9 ST "value" "[B", .laysFinal ST ST "coder" "B", .fieldLink ST 15 ST "coder" "B",
  .methodLink ST 1 Lib.objectInit, .instanceMethod Lib.objectInit, .code Lib.objectInit ⟨#[0xb1]⟩ 1 none, .methodLink ST 177 Cmp3.yN, .static Cmp3.yN, .methodLink ST 47 CodL.yN, .static CodL.yN,
  .code Cmp3.yN Cmp3.yB 6 (some (.array .byte)), .initialized U16, .arrayClass .byte, .methodLink U16 115 Cmp5.yN, .static Cmp5.yN, .code Cmp5.yN Cmp5.yB 7 (some .int), .code CodL.yN CodL.yB 2 (some .byte)]
theorem tab_of {a : Array Value} {s : State} (h : ∀ w ∈ words, w.before a s = true) : New1.tab.before a s = true := by
  have h5 : Cmp5.tab.before a s = true := unparts (wk h (.code Cmp5.yN Cmp5.yB 7 (some .int))) (wks h (.initialized Cmp5.yN.cls :: Cmp5.site))
  have hc : CodL.tab.before a s = true := unparts (wk h (.code CodL.yN CodL.yB 2 (some .byte))) (wks h (.initialized CodL.yN.cls :: CodL.site))
  have q5 : ∀ w ∈ Cmp5.tab :: words, w.before a s = true := fun w hw => (List.mem_cons.mp hw).elim (fun e => e ▸ h5) (h w)
  have h3 : Cmp3.tab.before a s = true := unparts (wk q5 (.code Cmp3.yN Cmp3.yB 6 (some (.array .byte)))) (wks q5 (.initialized Cmp3.yN.cls :: Cmp3.site))
  have q3 : ∀ w ∈ Cmp3.tab :: CodL.tab :: words, w.before a s = true := fun w hw => (List.mem_cons.mp hw).elim (fun e => e ▸ h3) fun hw => (List.mem_cons.mp hw).elim (fun e => e ▸ hc) (h w)
  have h4 : New4.tab.before a s = true := unparts (wk q3 (.code New4.yN New4.yB 6 none)) (wks q3 (.initialized New4.yN.cls :: New4.site))
  have q4 : ∀ w ∈ New4.tab :: words, w.before a s = true := fun w hw => (List.mem_cons.mp hw).elim (fun e => e ▸ h4) (h w)
  exact unparts (wk q4 (.code New1.yN New1.yB 2 none)) (wks q4 (.initialized New1.yN.cls :: New1.site))
/-- the words ride from the start Z to the walk's own state -/
theorem moved {Z s : State} {a0 args : Array Value} (hZ : Z.Warmed39 s.vm) (hw : ∀ d ∈ words, d.before a0 Z = true) : ∀ d ∈ words, d.before args s = true := fun d hd => by
  have q := hw d hd
  have t : ∀ d ∈ words, d = .arrayClass .byte ∨ (d.onTables && d.keepsFace) = true := by decide +kernel
  rcases t d hd with rfl | t
  · exact RoadKit.mvA hZ q
  · exact RoadKit.mv hZ q t
/-- WHAT COMES BACK, over the tables of the start Z: h the heap at the call, h' behind it -/
def Q (Z : State) (x : Addr) (A : Cell) (h : Heap) (v : Option Value) (h' : Heap) (L : List Loc) : Prop := v = none ∧ (∀ y ∈ L, y.base = x) ∧ RoadKit.Keep h h' [x] ∧ h'.size = h.size + 1 ∧ RoadKit.Exa Z h' x ST ∧ RoadKit.Fld Z h' x ST "value" "[B" (.ref h.size) ∧ RoadKit.Fld Z h' x ST "coder" "B" (.int 0) ∧
  (∃ V : Cell, RoadKit.Arr Z h' h.size V .byte ∧ V.vm = .none ∧ Z.vm.findClass "[B" = some V.cls ∧ V.slots.size = A.slots.size ∧ ∀ j, j < A.slots.size → V.slots[j]? = some (.int (lo8 (cv A j)))) ∧
  ∀ (O n d : String) (w : Value), RoadKit.Fld Z h x O n d w → RoadKit.slotOf Z O n d ≠ RoadKit.slotOf Z ST "value" "[B" → RoadKit.slotOf Z O n d ≠ RoadKit.slotOf Z ST "coder" "B" → RoadKit.Fld Z h' x O n d w
/-- **new String(chars) AT A CALL, IN THE ROAD'S FORM**: for specialBack behind newO: x the fresh String, b the char[] with the cell A -/
theorem back {p : Program} {l : Launch} {e : Env} {R : Room} {s : State} {args : Array Value} {below : List Frame} {len W : Nat} {Z : State} {a0 : Array Value} {h : Heap} (hZ : Z.Warmed39 s.vm) (hw : ∀ d ∈ words, d.before a0 Z = true) {kI : Nat} (wi : (Jvm.Cond.instantiable ST kI).before a0 Z = true)
    {x b : Addr} {A : Cell} {z : Int32} {v0 c0 : Value} (E : RoadKit.Exa Z h x ST) (V : RoadKit.Fld Z h x ST "value" "[B" v0) (C : RoadKit.Fld Z h x ST "coder" "B" c0) (K : RoadKit.Arr Z h b A .char) (hty : Typed .char A) (S : RoadKit.Sta Z h ST "COMPACT_STRINGS" "Z" (.int z)) (hz : ¬ z = 0)
    (l0 : 0 < A.slots.size) (l2 : A.slots.size ≤ 536870912) (hp : ∀ i, i < A.slots.size → ¬ 255 < cv A i) (hfr : 4 ≤ R.frames) (hlo : W + 65 ≤ R.locals) :
    Back l R p e below s args New1.yN len W (fun P a => a = #[.ref x, .ref b] ∧ P.U.heap = h ∧ P.cells + 1 ≤ R.cells ∧ P.slots + A.slots.size ≤ R.slots)
      (fun P _ v B => ∃ L, Q Z x A h v B.U.heap L ∧ B.locs = P.locs ++ L ∧ B.cells = P.cells + 1 ∧ B.slots = P.slots + A.slots.size) := by
  intro m meth c P g ig mk a X hg hsize hdg hW hn hp'
  obtain ⟨rfl, rfl, r1, r2⟩ := hp'
  have al : Z.vm.Alike P.U.vm := hZ.alike.trans X.warmed.alike
  obtain ⟨D, cfV, kV, iV, fV, hD, gV, stV, knV, obV, asV, slV⟩ := id V
  obtain ⟨D', cfC, kC, iC, fC, hD', gC, stC, -, -, asC, slC⟩ := id C
  cases hD.symm.trans hD'
  obtain ⟨D2, kD, e1, e2, e3, e4, e5⟩ := id E
  cases hD.symm.trans e1
  obtain ⟨c2, k2, i1, i2, i3, -⟩ := Cond.instantiable_spec wi
  cases e2.symm.trans i1
  cases e3.symm.trans i2
  obtain ⟨kU, u1, u2⟩ := al.2.2 _ _ e3
  have hB : Blank ST x D P.U := ⟨hD, ⟨knV, fun q hq => by rw [hq] at obV; cases obV⟩, by rw [al.findClass]; exact e2, kU, u1, by rw [u2]; exact i3, by rw [u2]; exact e5 i3⟩
  have F1 : Found ST "value" "[B" fV P.U := ⟨SBG.found_only al ⟨cfV, kV, iV, gV⟩, stV⟩
  have F2 : Found ST "coder" "B" fC P.U := ⟨SBG.found_only al ⟨cfC, kC, iC, gC⟩, stC⟩
  have hA : Ch b A P.U := ⟨⟨K.1, State.isArrayOf_alike al K.2.1, K.2.2, by omega⟩, hty⟩
  have hS : StaticIs P.U ST "COMPACT_STRINGS" "Z" (.int z) := by
    obtain ⟨cfS, iS, kS, fS, st, cS, t1, t2, t3, t4, t5, t6, t7⟩ := S
    exact StaticIs.there (s := { Z with heap := P.U.heap }) ⟨cfS, iS, kS, fS, st, cS, t1, t2, t3, t4, t5, (fun q => by rw [q] at t6; cases t6), t7⟩ al rfl
  obtain ⟨v, B, X', ⟨⟨hv, E', V', q1, q2, q3, q4, q5, q6, q7, q8, q9, q10, q11⟩, hl, hc, hs⟩, st⟩ := New1.pays x D fV fC b A z (tab_of (moved hZ hw)) hfr hlo m meth c P g ig mk _ X hg hsize hdg hW hn ⟨r1, r2, rfl, hB, F1, F2, hA, hS, hz, l0, l2, hp⟩
  have al' : Z.vm.Alike B.U.vm := hZ.alike.trans X'.warmed.alike
  have hsz : E'.slots.size = D.slots.size := by
    obtain ⟨-, -, -, kB, w1, w2, w3⟩ := q1
    obtain ⟨kB', y1, y2⟩ := al'.2.2 _ _ e3
    rw [q2.2.1] at w1
    cases w1.symm.trans y1
    rw [w3, e5 i3, y2]
  refine ⟨v, B, X', ⟨_, ⟨hv, ?_, ⟨by omega, fun y cy hy hn' => q10 y cy (by simpa using hn') hy, fun y cy hy => ?_⟩, q11, ⟨E', _, q1.1, by rw [q2.2.1]; exact e2, by rw [q2.2.1]; exact e3, by rw [q2.1]; exact obV, fun _ => by rw [hsz]; exact e5 i3⟩,
    ⟨E', cfV, kV, iV, fV, q1.1, gV, stV, by rw [q2.1]; exact knV, by rw [q2.1]; exact obV, by rw [q2.2.1]; exact asV, q3⟩, ⟨E', cfC, kC, iC, fC, q1.1, gC, stC, by rw [q2.1]; exact knV, by rw [q2.1]; exact obV, by rw [q2.2.1]; exact asC, q4⟩,
    ⟨V', ⟨q5.1, State.isArrayOf_alike al'.symm q5.2.1, q5.2.2.1⟩, q6, by rw [← al'.findClass]; exact q7, q8, fun j hj => by have := q9 j hj; rwa [Nat.zero_add] at this⟩, fun O n d w F n1 n2 => ?_⟩, hl, hc, hs⟩, st⟩
  · intro y hy
    simp only [List.mem_cons, List.not_mem_nil, or_false] at hy
    rcases hy with rfl | rfl <;> rfl
  · by_cases q : y = x
    · subst q
      cases hD.symm.trans hy
      exact ⟨E', q1.1, q2.2.1, q2.1, hsz⟩
    · exact ⟨cy, q10 y cy q hy, rfl, rfl, rfl⟩
  · obtain ⟨D3, cf, k, i, f, g1, g2, g3, g4, g5, g6, g7⟩ := F
    cases hD.symm.trans g1
    simp only [RoadKit.slotOf, g2, gV, gC, Option.map_some, Option.getD_some] at n1 n2
    exact ⟨E', cf, k, i, f, q1.1, g2, g3, by rw [q2.1]; exact g4, by rw [q2.1]; exact g5, by rw [q2.2.1]; exact g6, by rw [q2.2.2 f.slot (by simp [n1, n2])]; exact g7⟩
end StrChars.Road
namespace StrChars.Road
open Jvm Sem ClassFile Op Lib Jvm.Stand Jvm.Free Jvm.Free.XT
/-- WHAT COMES BACK, the byte[] as a list of values -/
def QA (Z : State) (x : Addr) (zn : Int32) (cs : List Int32) (h : Heap) (v : Option Value) (h' : Heap) (L : List Loc) : Prop := v = none ∧ (∀ y ∈ L, y.base = x) ∧ RoadKit.Keep h h' [x] ∧ h'.size = h.size + 1 ∧ RoadKit.Exa Z h' x ST ∧ RoadKit.Fld Z h' x ST "value" "[B" (.ref h.size) ∧ RoadKit.Fld Z h' x ST "coder" "B" (.int 0) ∧
  (∃ kb, Z.vm.findClass "[B" = some kb ∧ RoadKit.Arv Z h' h.size kb .byte zn (cs.map fun c => .int (lo8 c)) (.int 0)) ∧
  ∀ (O n d : String) (w : Value), RoadKit.Fld Z h x O n d w → RoadKit.slotOf Z O n d ≠ RoadKit.slotOf Z ST "value" "[B" → RoadKit.slotOf Z O n d ≠ RoadKit.slotOf Z ST "coder" "B" → RoadKit.Fld Z h' x O n d w
/-- **new String(chars) AT A CALL, THE ARRAYS AS LISTS**: the char[] at b holds cs, not empty, no char above 255 -/
theorem backArv {p : Program} {l : Launch} {e : Env} {R : Room} {s : State} {args : Array Value} {below : List Frame} {len W : Nat} {Z : State} {a0 : Array Value} {h : Heap} (hZ : Z.Warmed39 s.vm) (hw : ∀ d ∈ words, d.before a0 Z = true) {kI : Nat} (wi : (Jvm.Cond.instantiable ST kI).before a0 Z = true)
    {x b : Addr} {k : ClassId} {zn z : Int32} {cs : List Int32} {dv v0 c0 : Value} (E : RoadKit.Exa Z h x ST) (V : RoadKit.Fld Z h x ST "value" "[B" v0) (C : RoadKit.Fld Z h x ST "coder" "B" c0) (K : RoadKit.Arv Z h b k .char zn (cs.map Value.int) dv) (S : RoadKit.Sta Z h ST "COMPACT_STRINGS" "Z" (.int z)) (hz : ¬ z = 0)
    (hlen : zn.toNatClampNeg = cs.length) (h0 : 0 < cs.length) (hbig : cs.length ≤ 536870912) (hall : ∀ c ∈ cs, ¬ 255 < c) (hfr : 4 ≤ R.frames) (hlo : W + 65 ≤ R.locals) :
    Back l R p e below s args New1.yN len W (fun P a => a = #[.ref x, .ref b] ∧ P.U.heap = h ∧ P.cells + 1 ≤ R.cells ∧ P.slots + cs.length ≤ R.slots)
      (fun P _ v B => ∃ L, QA Z x zn cs h v B.U.heap L ∧ B.locs = P.locs ++ L ∧ B.cells = P.cells + 1 ∧ B.slots = P.slots + cs.length) := by
  obtain ⟨A, K1, K2, K3, K4, K5, K6⟩ := K
  have e : A.slots.size = cs.length := K3.trans hlen
  have hat : ∀ (i : Nat) (hi : i < cs.length), A.slots[i]? = some (.int cs[i]) := fun i hi => by rw [K5 i (by omega)]; simp [List.getD_eq_getElem?_getD, hi]
  have hcv : ∀ (i : Nat) (hi : i < cs.length), cv A i = cs[i] := fun i hi => by unfold cv; rw [hat i hi]
  have hty : Typed .char A := fun i v hv => by
    have hi : i < A.slots.size := (Array.getElem?_eq_some_iff.mp hv).1
    have q := K5 i hi
    rw [hv] at q
    rw [Option.some.inj q]
    exact K6 i hi
  refine Back.mono (back hZ hw wi E V C K1 hty S hz (by omega) (by omega) (fun i hi => by rw [hcv i (by omega)]; exact hall _ (List.getElem_mem _)) hfr hlo) (fun P a hp => ⟨hp.1, hp.2.1, hp.2.2.1, by rw [e]; exact hp.2.2.2⟩) (fun P a v B hp hq => ?_)
  obtain ⟨L, ⟨q1, q2, q3, q4, q5, q6, q7, ⟨V', v1, v2, v3, v4, v5⟩, q9⟩, hl, hc, hs⟩ := hq
  refine ⟨L, ⟨q1, q2, q3, q4, q5, q6, q7, ⟨V'.cls, v3, V', v1, rfl, by rw [v4, e, hlen], K4, fun i hi => ?_, fun i hi => ?_⟩, q9⟩, hl, hc, by rw [hs, e]⟩
  · have hi' : i < cs.length := by omega
    rw [v5 i (by omega), hcv i hi']; simp [List.getD_eq_getElem?_getD, hi']
  · have hi' : i < cs.length := by omega
    simp only [List.getD_eq_getElem?_getD, List.getElem?_map, List.getElem?_eq_getElem hi', Option.map_some, Option.getD_some]
    exact fits_lo8 _
end StrChars.Road
namespace StrChars.Road
open Jvm Sem ClassFile Op Lib Jvm.Stand Jvm.Free Jvm.Free.XT
/-- WHAT COMES BACK, in the writer's own shape -/
def QV (Z : State) (x : Addr) (N : Int32) (bs : List Int32) (h : Heap) (n0 : Nat) (v : Option Value) (h' : Heap) (L : List Loc) : Prop := v = none ∧ RoadKit.Fr n0 L ∧ RoadKit.Keep h h' [x] ∧ RoadKit.Exa Z h' x ST ∧ RoadKit.Fld Z h' x ST "coder" "B" (.int 0) ∧
  ∃ (t : Addr) (kb : ClassId), n0 ≤ t ∧ h.size ≤ t ∧ ¬ t = x ∧ RoadKit.Fld Z h' x ST "value" "[B" (.ref t) ∧ RoadKit.Arv Z h' t kb .byte N (bs.map Value.int) (.int 0)
/-- **new String(chars) AT A CALL, FOR THE WRITER**: a char[] of n known ints, each 0 to 255 -/
theorem backV {p : Program} {l : Launch} {e : Env} {R : Room} {s : State} {args : Array Value} {below : List Frame} {len W : Nat} {Z : State} {a0 : Array Value} {h : Heap} (hZ : Z.Warmed39 s.vm) (hw : ∀ d ∈ words, d.before a0 Z = true) {kI : Nat} (wi : (Jvm.Cond.instantiable ST kI).before a0 Z = true)
    {x b : Addr} {kC : ClassId} {cs bs : List Int32} {d v0 c0 : Value} {z N : Int32} {n n0 : Nat} (hx0 : n0 ≤ x) (hh0 : n0 ≤ h.size) (E : RoadKit.Exa Z h x ST) (V : RoadKit.Fld Z h x ST "value" "[B" v0) (C : RoadKit.Fld Z h x ST "coder" "B" c0) (K : RoadKit.Arv Z h b kC .char N (cs.map Value.int) d) (S : RoadKit.Sta Z h ST "COMPACT_STRINGS" "Z" (.int z)) (hz : ¬ z = 0)
    (hn : cs.length = n) (hN : N = Int32.ofNat n) (l0 : 0 < n) (l2 : n ≤ 4000) (hp : ∀ c ∈ cs, ¬ c < 0 ∧ ¬ (255 : Int32) < c) (hb : bs = cs.map (fun c => c.toInt8.toInt32)) (hfr : 4 ≤ R.frames) (hlo : W + 65 ≤ R.locals) :
    Back l R p e below s args (⟨"java/lang/String", "<init>", "([C)V"⟩ : MethodName) len W (fun P a => a = #[.ref x, .ref b] ∧ P.U.heap = h ∧ P.cells + 1 ≤ R.cells ∧ P.slots + n ≤ R.slots)
      (fun P _ v B => ∃ L, QV Z x N bs h n0 v B.U.heap L ∧ B.locs = P.locs ++ L ∧ B.cells = P.cells + 1 ∧ B.slots = P.slots + n) := by
  subst hn hN hb
  refine Back.mono (backArv hZ hw wi E V C K S hz (n32 (by omega)) l0 (by omega) (fun c hc => (hp c hc).2) hfr hlo) (fun P a hp => hp) (fun P a v B hp hq => ?_)
  obtain ⟨L, ⟨q1, q2, q3, q4, q5, q6, q7, ⟨kb, v1, v2⟩, q9⟩, hl, hc, hs⟩ := hq
  exact ⟨L, ⟨q1, fun y hy => by rw [q2 y hy]; exact hx0, q3, q5, q7, h.size, kb, hh0, Nat.le_refl _, Nat.ne_of_gt E.lt, q6, by rw [List.map_map]; exact v2⟩, hl, hc, hs⟩
end StrChars.Road
namespace StrChars
open Jvm Sem ClassFile Op Lib Jvm.Stand Jvm.Free.XT Jvm.Free.ALB Jvm.Free.JM Jvm.Free
open Jvm.Lib.Cold (StaticIs)
def hi8 (x : Int32) : Int32 := lo8 (x >>> ((8 : Int32) &&& 31))
/-- what StringUTF16.getChar makes of two bytes -/
def pairCh (u v : Int32) : Int32 := (((u &&& 255) <<< ((0 : Int32) &&& 31)) ||| ((v &&& 255) <<< ((8 : Int32) &&& 31))).toUInt32.toUInt16.toUInt32.toInt32
theorem lo8_and (x : Int32) : (lo8 x &&& 255).toBitVec.toNat = x.toBitVec.toNat % 256 := by
  have h : (lo8 x).toBitVec = (x.toBitVec.signExtend 8).signExtend 32 := by rw [lo8, Int8.toBitVec_toInt32, Int32.toBitVec_toInt8]
  rw [Int32.toBitVec_and, BitVec.toNat_and, h]
  have e : ((x.toBitVec.signExtend 8).signExtend 32).toNat % 256 = x.toBitVec.toNat % 256 := by
    rw [BitVec.toNat_signExtend]
    have hlt := x.toBitVec.isLt
    simp only [BitVec.toNat_setWidth, BitVec.toNat_signExtend]
    split <;> split <;> omega
  rw [← e]
  exact Nat.and_two_pow_sub_one_eq_mod _ 8
theorem pair_says {c : Int32} (h0 : ¬ c < 0) (h1 : ¬ 65535 < c) : pairCh (lo8 c) (hi8 c) = c := by
  rw [Int32.lt_iff_toInt_lt] at h0 h1
  have e0 : (0 : Int32).toInt = 0 := rfl
  have e1 : (65535 : Int32).toInt = 65535 := rfl
  have hc : c.toInt = c.toBitVec.toNat := by
    have := c.toBitVec.isLt
    have e : c.toInt = c.toBitVec.toInt := rfl
    rw [e] at h0 h1
    rw [e]
    rw [BitVec.toInt_eq_toNat_cond] at h0 h1 ⊢
    split at h0 <;> split <;> omega
  have hn : c.toBitVec.toNat < 65536 := by omega
  have a1 := lo8_and c
  have a2 : (hi8 c &&& 255).toBitVec.toNat = c.toBitVec.toNat / 256 := by
    rw [hi8, lo8_and]
    have e : ((8 : Int32) &&& 31) = 8 := by decide
    rw [e, Int32.toBitVec_shiftRight]
    have e2 : ((8 : Int32).toBitVec.smod 32) = 8#32 := by decide
    rw [e2, BitVec.sshiftRight_eq', BitVec.toNat_sshiftRight_of_msb_false (by rw [BitVec.msb_eq_false_iff_two_mul_lt]; omega)]
    show c.toBitVec.toNat >>> 8 % 256 = _
    rw [Nat.shiftRight_eq_div_pow]
    omega
  unfold pairCh
  apply Int32.toBitVec_inj.mp
  apply BitVec.eq_of_toNat_eq
  have f0 : ((0 : Int32) &&& 31) = 0 := by decide
  have f8 : ((8 : Int32) &&& 31) = 8 := by decide
  rw [f0, f8]
  have g : (((lo8 c &&& 255) <<< (0 : Int32)) ||| ((hi8 c &&& 255) <<< (8 : Int32))).toBitVec.toNat = c.toBitVec.toNat := by
    rw [Int32.toBitVec_or, Int32.toBitVec_shiftLeft, Int32.toBitVec_shiftLeft]
    have s0 : ((0 : Int32).toBitVec.smod 32) = 0#32 := by decide
    have s8 : ((8 : Int32).toBitVec.smod 32) = 8#32 := by decide
    rw [s0, s8, BitVec.toNat_or]
    simp only [BitVec.shiftLeft_eq', BitVec.toNat_shiftLeft, a1, a2]
    show (c.toBitVec.toNat % 256) <<< 0 % 2 ^ 32 ||| (c.toBitVec.toNat / 256) <<< 8 % 2 ^ 32 = _
    rw [Nat.shiftLeft_zero, Nat.mod_eq_of_lt (show c.toBitVec.toNat % 256 < 2 ^ 32 by omega), Nat.mod_eq_of_lt (show (c.toBitVec.toNat / 256) <<< 8 < 2 ^ 32 by rw [Nat.shiftLeft_eq]; omega), Nat.or_comm, ← Nat.shiftLeft_add_eq_or_of_lt (by omega), Nat.shiftLeft_eq]
    omega
  show BitVec.toNat (((((lo8 c &&& 255) <<< (0 : Int32)) ||| ((hi8 c &&& 255) <<< (8 : Int32))).toBitVec.setWidth 16).setWidth 32) = _
  rw [BitVec.toNat_setWidth, BitVec.toNat_setWidth, g]
  omega
end StrChars
namespace StrChars
open Jvm Sem ClassFile Op Lib Jvm.Stand Jvm.Free.XT Jvm.Free.ALB Jvm.Free.JM Jvm.Free
open Jvm.Lib.Cold (StaticIs)
/-- the array's cell V codes the n chars f 0 .. f (n - 1) by the coder cd, as the JDK does: coder 1 just where some char is above 255 -/
def Cod (cd : Int32) (n : Nat) (f : Nat → Int32) (V : Cell) : Prop := (cd = 0 ∧ V.slots.size = n ∧ ∀ j, j < n → V.slots[j]? = some (.int (lo8 (f j))) ∧ ¬ 255 < f j) ∨ (cd = 1 ∧ V.slots.size = 2 * n ∧ (∀ j, j < n → V.slots[2 * j]? = some (.int (lo8 (f j))) ∧ V.slots[2 * j + 1]? = some (.int (hi8 (f j)))) ∧ ∃ j, j < n ∧ 255 < f j)
/-- **x is a String of the n chars f 0 .. f (n - 1)**, Latin-1 or UTF-16; its array at t has the cell V -/
def Txt (x t : Addr) (V : Cell) (cd : Int32) (n : Nat) (f : Nat → Int32) (U : State) : Prop := Exact "java/lang/String" x U ∧ Has x "java/lang/String" "value" "[B" (.ref t) U ∧ Has x "java/lang/String" "coder" "B" (.int cd) U ∧ XT.Arr .byte t V U ∧ Cod cd n f V ∧ ∀ j, j < n → ¬ f j < 0 ∧ ¬ 65535 < f j
theorem Txt.mv {x t : Addr} {V : Cell} {cd : Int32} {n : Nat} {f : Nat → Int32} {U U' : State} (h : Txt x t V cd n f U) (hal : U.vm.Alike U'.vm) (hh : U'.heap = U.heap) : Txt x t V cd n f U' := ⟨h.1.mv hal hh, h.2.1.mv hal hh, h.2.2.1.mv hal hh, h.2.2.2.1.mv hal hh, h.2.2.2.2⟩
end StrChars
namespace StrChars.Road
open Jvm Sem ClassFile Op Lib Jvm.Stand Jvm.Free Jvm.Free.XT
open Jvm.Lib.Cold (StaticIs)
theorem consq {a : Array Value} {s : State} {c : Jvm.Cond} {L : List Jvm.Cond} (h0 : c.before a s = true) (h : ∀ w ∈ L, w.before a s = true) : ∀ w ∈ c :: L, w.before a s = true := fun w hw => (List.mem_cons.mp hw).elim (fun e => e ▸ h0) (h w)
/-- the bytes of the chars cs, low before high -/
def wideBytes : List Int32 → List Value
  | [] => []
  | c :: cs => .int (lo8 c) :: .int (hi8 c) :: wideBytes cs
theorem wide_lo (d : Value) : ∀ (cs : List Int32) (j : Nat), j < cs.length → (wideBytes cs).getD (2 * j) d = .int (lo8 (cs.getD j 0))
  | [], j, h => absurd h (Nat.not_lt_zero j)
  | c :: cs, 0, _ => rfl
  | c :: cs, j + 1, h => by
    have q := wide_lo d cs j (by simpa using h)
    rw [show 2 * (j + 1) = 2 * j + 1 + 1 from by omega]
    simpa [wideBytes] using q
theorem wide_hi (d : Value) : ∀ (cs : List Int32) (j : Nat), j < cs.length → (wideBytes cs).getD (2 * j + 1) d = .int (hi8 (cs.getD j 0))
  | [], j, h => absurd h (Nat.not_lt_zero j)
  | c :: cs, 0, _ => rfl
  | c :: cs, j + 1, h => by
    have q := wide_hi d cs j (by simpa using h)
    rw [show 2 * (j + 1) + 1 = 2 * j + 1 + 1 + 1 from by omega]
    simpa [wideBytes] using q
theorem low_at (d : Value) (cs : List Int32) (j : Nat) (h : j < cs.length) : (cs.map fun c => Value.int (lo8 c)).getD j d = .int (lo8 (cs.getD j 0)) := by
  simp [List.getD_eq_getElem?_getD, h]
/-- an array of N2 bytes vs codes the chars cs by the coder cd -/
def CodA (cs : List Int32) (cd N2 : Int32) (vs : List Value) : Prop := (cd = 0 ∧ N2 = Int32.ofNat cs.length ∧ vs = (cs.map fun c => Value.int (lo8 c)) ∧ ∀ c ∈ cs, ¬ 255 < c) ∨ (cd = 1 ∧ N2 = Int32.ofNat (2 * cs.length) ∧ vs = wideBytes cs ∧ ∃ c ∈ cs, 255 < c)
theorem CodA.cod {cs : List Int32} {cd N2 : Int32} {vs : List Value} {V : Cell} (h : CodA cs cd N2 vs) (hn : 2 * cs.length < 2 ^ 31) (hs : V.slots.size = N2.toNatClampNeg) (hv : RoadKit.Has V vs (.int 0)) : Cod cd cs.length (fun j => cs.getD j 0) V := by
  rcases h with ⟨rfl, rfl, rfl, h⟩ | ⟨rfl, rfl, rfl, c, hc, hw⟩
  · rw [n32 (by omega)] at hs
    exact Or.inl ⟨rfl, hs, fun j hj => ⟨by rw [hv j (by omega), low_at _ _ _ hj], by
      have e : cs.getD j 0 = cs[j] := by simp [List.getD_eq_getElem?_getD, hj]
      show ¬ 255 < cs.getD j 0
      rw [e]; exact h _ (List.getElem_mem _)⟩⟩
  · rw [n32 (by omega)] at hs
    obtain ⟨j, hj, rfl⟩ := List.getElem_of_mem hc
    exact Or.inr ⟨rfl, hs, fun j hj => ⟨by rw [hv _ (by omega), wide_lo _ _ _ hj], by rw [hv _ (by omega), wide_hi _ _ _ hj]⟩, j, hj, by
      have e : cs.getD j 0 = cs[j] := by simp [List.getD_eq_getElem?_getD, hj]
      show 255 < cs.getD j 0
      rw [e]; exact hw⟩
/-- an object of exactly java/lang/String, its two fields found: as the laws ask it -/
theorem strObj {Z U : State} {a0 : Array Value} {kI : Nat} (wi : (Jvm.Cond.instantiable ST kI).before a0 Z = true) (al : Z.vm.Alike U.vm) {x : Addr} {v0 c0 : Value} (E : RoadKit.Exa Z U.heap x ST) (V : RoadKit.Fld Z U.heap x ST "value" "[B" v0) (C : RoadKit.Fld Z U.heap x ST "coder" "B" c0) :
    ∃ (D : Cell) (fV fC : Field), Blank ST x D U ∧ Found ST "value" "[B" fV U ∧ Found ST "coder" "B" fC U ∧ D.slots[fV.slot]? = some v0 ∧ D.slots[fC.slot]? = some c0 ∧ RoadKit.slotOf Z ST "value" "[B" = fV.slot ∧ RoadKit.slotOf Z ST "coder" "B" = fC.slot := by
  obtain ⟨D, cfV, kV, iV, fV, hD, gV, stV, knV, obV, asV, slV⟩ := V
  obtain ⟨D', cfC, kC, iC, fC, hD', gC, stC, -, -, asC, slC⟩ := C
  cases hD.symm.trans hD'
  obtain ⟨D2, kD, e1, e2, e3, e4, e5⟩ := E
  cases hD.symm.trans e1
  obtain ⟨c2, k2, i1, i2, i3, -⟩ := Cond.instantiable_spec wi
  cases e2.symm.trans i1
  cases e3.symm.trans i2
  obtain ⟨kU, u1, u2⟩ := al.2.2 _ _ e3
  exact ⟨D, fV, fC, ⟨hD, ⟨knV, fun q hq => by rw [hq] at obV; cases obV⟩, by rw [al.findClass]; exact e2, kU, u1, by rw [u2]; exact i3, by rw [u2]; exact e5 i3⟩, ⟨SBG.found_only al ⟨cfV, kV, iV, gV⟩, stV⟩, ⟨SBG.found_only al ⟨cfC, kC, iC, gC⟩, stC⟩, slV, slC, by simp [RoadKit.slotOf, gV], by simp [RoadKit.slotOf, gC]⟩
theorem sta_is {Z U : State} (al : Z.vm.Alike U.vm) {C n d : String} {v : Value} (S : RoadKit.Sta Z U.heap C n d v) : StaticIs U C n d v := by
  obtain ⟨cfS, iS, kS, fS, st, cS, t1, t2, t3, t4, t5, t6, t7⟩ := S
  exact StaticIs.there (s := { Z with heap := U.heap }) ⟨cfS, iS, kS, fS, st, cS, t1, t2, t3, t4, t5, (fun q => by rw [q] at t6; cases t6), t7⟩ al rfl
end StrChars.Road
namespace StrChars
open Jvm Sem ClassFile Op Lib Jvm.Stand Jvm.Free.XT Jvm.Free.ALB Jvm.Free.JM Jvm.Free
open Jvm.Lib.Cold (StaticIs)
/-- what place i of a byte[]'s cell holds -/
def yv (A : Cell) (i : Nat) : Int32 := match A.slots[i]? with | some (.int x) => x | _ => 0
theorem yv_get {a : Addr} {A : Cell} {U : State} (h : XT.Arr .byte a A U) (ht : Typed .byte A) {i : Nat} (hi : i < A.slots.size) : A.slots[i]? = some (.int (yv A i)) := by
  have e := Array.getElem?_eq_getElem hi
  have f := ht i _ e
  unfold yv; rw [e]
  generalize A.slots[i] = v at f
  cases v <;> simp [fits] at f ⊢
/-- the two arrays are equal, place for place -/
def EqC (A B : Cell) : Prop := A.slots.size = B.slots.size ∧ ∀ i, i < A.slots.size → yv A i = yv B i
/-- a boolean that says whether p -/
def Says01 (q : Prop) (r : Option Value) (s u : State) : Prop := ∃ v : Int32, r = some (.int v) ∧ u.heap = s.heap ∧ ((v = 1 ∧ q) ∨ (v = 0 ∧ ¬ q))
theorem Says01.mv {q : Prop} : ∀ r (U U' V V' : State), U'.heap = U.heap → V.vm.Alike V'.vm → V'.heap = V.heap → Says01 q r U V → Says01 q r U' V' :=
  fun r U U' V V' h1 _ h2 ⟨v, a, b, c⟩ => ⟨v, a, by rw [h1, h2]; exact b, c⟩
namespace LEq
def yN : MethodName := ⟨"java/lang/StringLatin1", "equals", "([B[B)Z"⟩
abbrev yB : ByteArray := jdk_43_method_13_code
theorem d0 : decode yB 0 = .ok (.aload_n 0, 1) := by decide +kernel
theorem d1 : decode yB 1 = .ok (.arraylength, 1) := by decide +kernel
theorem d2 : decode yB 2 = .ok (.aload_n 1, 1) := by decide +kernel
theorem d3 : decode yB 3 = .ok (.arraylength, 1) := by decide +kernel
theorem d4 : decode yB 4 = .ok (.if_icmp (.ne) 30, 3) := by decide +kernel
theorem d7 : decode yB 7 = .ok (.iconst 0, 1) := by decide +kernel
theorem d8 : decode yB 8 = .ok (.istore_n 2, 1) := by decide +kernel
theorem d9 : decode yB 9 = .ok (.iload_n 2, 1) := by decide +kernel
theorem d10 : decode yB 10 = .ok (.aload_n 0, 1) := by decide +kernel
theorem d11 : decode yB 11 = .ok (.arraylength, 1) := by decide +kernel
theorem d12 : decode yB 12 = .ok (.if_icmp (.ge) 20, 3) := by decide +kernel
theorem d15 : decode yB 15 = .ok (.aload_n 0, 1) := by decide +kernel
theorem d16 : decode yB 16 = .ok (.iload_n 2, 1) := by decide +kernel
theorem d17 : decode yB 17 = .ok (.baload, 1) := by decide +kernel
theorem d18 : decode yB 18 = .ok (.aload_n 1, 1) := by decide +kernel
theorem d19 : decode yB 19 = .ok (.iload_n 2, 1) := by decide +kernel
theorem d20 : decode yB 20 = .ok (.baload, 1) := by decide +kernel
theorem d21 : decode yB 21 = .ok (.if_icmp (.eq) 5, 3) := by decide +kernel
theorem d24 : decode yB 24 = .ok (.iconst 0, 1) := by decide +kernel
theorem d25 : decode yB 25 = .ok (.ireturn, 1) := by decide +kernel
theorem d26 : decode yB 26 = .ok (.iinc 2 1, 3) := by decide +kernel
theorem d29 : decode yB 29 = .ok (.goto (-20), 3) := by decide +kernel
theorem d32 : decode yB 32 = .ok (.iconst 1, 1) := by decide +kernel
theorem d33 : decode yB 33 = .ok (.ireturn, 1) := by decide +kernel
theorem d34 : decode yB 34 = .ok (.iconst 0, 1) := by decide +kernel
theorem d35 : decode yB 35 = .ok (.ireturn, 1) := by decide +kernel
def site : List Cond := []
def tab : Cond := tabOf yN yB 3 (some .boolean) site
def P (a : Addr) (A : Cell) (b : Addr) (B : Cell) (args : Array Value) (s : State) : Prop := args = #[.ref a, .ref b] ∧ XT.Arr .byte a A s ∧ Typed .byte A ∧ XT.Arr .byte b B s ∧ Typed .byte B
/-- whether two byte[] are equal, place for place -/
theorem law (l : Launch) (a : Addr) (A : Cell) (b : Addr) (B : Cell) : Law l yN 2 2 0 0 yB 3 (some .boolean) site (P a A b B) (Says01 (EqC A B)) [] 0 0 := by
  refine Law.of_walk (plainFor_of_name (by decide +kernel)) (by decide +kernel) (by decide +kernel) (by decide) (fun _ _ h => by rw [h.1]; rfl) (fun _ U U' hal hh h => ⟨h.1, h.2.1.mv hal hh, h.2.2.1, h.2.2.2.1.mv hal hh, h.2.2.2.2⟩) (fun r U U' V V' h1 hal h2 h => Says01.mv r U U' V V' h1 hal h2 h) ?_
  intro p e s m args below meth c s₁ X0 hexec hbytes hml hret hlk hnm hown hh0 W hP
  obtain ⟨rfl, hA, tA, hB, tB⟩ := hP
  have a31 := hA.2.2.2
  have b31 := hB.2.2.2
  have hA0 := hA.mv X0.warmed.alike hh0
  have hB0 := hB.mv X0.warmed.alike hh0
  have c1 : Steps p.tables e below (s₁.setTop (entryFrame m #[.ref a, .ref b] 3)) (s₁.setTop (mkF m 0 #[.val (.ref a), .val (.ref b), .unset] [])) := entry rfl
  have c2 : Steps p.tables e below (s₁.setTop (entryFrame m #[.ref a, .ref b] 3)) (s₁.setTop (mkF m 4 #[.val (.ref a), .val (.ref b), .unset] [.int (Int32.ofNat B.slots.size), .int (Int32.ofNat A.slots.size)])) := c1.trans (by
    refine XS.aloadN X0.here hexec rfl (hb hbytes d0) rfl rfl ?_
    refine X0.alen hexec hA0 rfl rfl (hb hbytes d1) ?_
    refine XS.aloadN X0.here hexec rfl (hb hbytes d2) rfl rfl ?_
    refine X0.alen hexec hB0 rfl rfl (hb hbytes d3) ?_
    exact Steps.refl _)
  by_cases hs : A.slots.size = B.slots.size
  · have c3 : Steps p.tables e below (s₁.setTop (entryFrame m #[.ref a, .ref b] 3)) (s₁.setTop (mkF m 9 #[.val (.ref a), .val (.ref b), .val (.int 0)] [])) := c2.trans (by
      refine XS.icmpNo X0.here hexec rfl (hb hbytes d4) rfl (ii_ne_f (by rw [hs])) ?_
      refine iconstV X0.here hexec rfl 0 (hb hbytes d7) (by decide) ?_
      refine XS.istoreN X0.here hexec rfl (hb hbytes d8) rfl rfl ?_
      exact Steps.refl _)
    have loop : ∀ (r i : Nat), i + r = A.slots.size → (∀ j, j < i → yv A j = yv B j) → Steps p.tables e below (s₁.setTop (entryFrame m #[.ref a, .ref b] 3)) (s₁.setTop (mkF m 9 #[.val (.ref a), .val (.ref b), .val (.int (Int32.ofNat i))] [])) → ∃ (pc : Nat) (Ls : Array Slot) (v : Int32), (pc = 25 ∨ pc = 33) ∧ ((v = 1 ∧ EqC A B) ∨ (v = 0 ∧ ¬ EqC A B)) ∧ Steps p.tables e below (s₁.setTop (entryFrame m #[.ref a, .ref b] 3)) (s₁.setTop (mkF m pc Ls [.int v])) := by
      intro r
      induction r with
      | zero =>
        intro i hi he cl
        exact ⟨33, _, 1, Or.inr rfl, Or.inl ⟨rfl, hs, fun j hj => he j (by omega)⟩, cl.trans (by
          refine XS.iloadN X0.here hexec rfl (hb hbytes d9) rfl ?_
          refine XS.aloadN X0.here hexec rfl (hb hbytes d10) rfl rfl ?_
          refine X0.alen hexec hA0 rfl rfl (hb hbytes d11) ?_
          refine XS.icmpYes X0.here hexec rfl (pc0 := 12) rfl (hb hbytes d12) rfl (ii_ge_t (nlt32 (by omega) (by omega))) (by decide) rfl ?_
          refine iconstV X0.here hexec rfl 1 (hb hbytes d32) (by decide) ?_
          exact Steps.refl _)⟩
      | succ r ih =>
        intro i hi he cl
        have c4 : Steps p.tables e below (s₁.setTop (entryFrame m #[.ref a, .ref b] 3)) (s₁.setTop (mkF m 21 #[.val (.ref a), .val (.ref b), .val (.int (Int32.ofNat i))] [.int (yv B i), .int (yv A i)])) := cl.trans (by
          refine XS.iloadN X0.here hexec rfl (hb hbytes d9) rfl ?_
          refine XS.aloadN X0.here hexec rfl (hb hbytes d10) rfl rfl ?_
          refine X0.alen hexec hA0 rfl rfl (hb hbytes d11) ?_
          refine XS.icmpNo X0.here hexec rfl (hb hbytes d12) rfl (ii_ge_f (lt32 (by omega) (by omega))) ?_
          refine XS.aloadN X0.here hexec rfl (hb hbytes d15) rfl rfl ?_
          refine XS.iloadN X0.here hexec rfl (hb hbytes d16) rfl ?_
          refine X0.aget hexec hA0 rfl (yv_get hA tA (i := i) (by omega)) rfl rfl (hb hbytes d17) ?_
          refine XS.aloadN X0.here hexec rfl (hb hbytes d18) rfl rfl ?_
          refine XS.iloadN X0.here hexec rfl (hb hbytes d19) rfl ?_
          refine X0.aget hexec hB0 rfl (yv_get hB tB (i := i) (by omega)) rfl rfl (hb hbytes d20) ?_
          exact Steps.refl _)
        by_cases hv : yv A i = yv B i
        · have c5 : Steps p.tables e below (s₁.setTop (entryFrame m #[.ref a, .ref b] 3)) (s₁.setTop (mkF m 9 #[.val (.ref a), .val (.ref b), .val (.int (Int32.ofNat i + 1))] [])) := c4.trans (by
            refine XS.icmpYes X0.here hexec rfl (pc0 := 21) rfl (hb hbytes d21) rfl (ii_eq_t hv) (by decide) rfl ?_
            refine iincV X0.here hexec rfl 1 (hb hbytes d26) (by decide) rfl rfl ?_
            refine XS.goto X0.here hexec rfl (pc0 := 29) rfl (hb hbytes d29) (by decide) rfl ?_
            exact Steps.refl _)
          rw [succ32] at c5
          exact ih (i + 1) (by omega) (fun j hj => by
            by_cases e : j = i
            · rw [e]; exact hv
            · exact he j (by omega)) c5
        · exact ⟨25, _, 0, Or.inl rfl, Or.inr ⟨rfl, fun q => hv (q.2 i (by omega))⟩, c4.trans (by
            refine XS.icmpNo X0.here hexec rfl (hb hbytes d21) rfl (ii_eq_f hv) ?_
            refine iconstV X0.here hexec rfl 0 (hb hbytes d24) (by decide) ?_
            exact Steps.refl _)⟩
    obtain ⟨pc, Ls, v, hpc, hv, cz⟩ := loop A.slots.size 0 (by omega) (fun j hj => absurd hj (Nat.not_lt_zero j)) c3
    have nv : narrow .boolean (.int v) = .int v := by rcases hv with ⟨rfl, -⟩ | ⟨rfl, -⟩ <;> rfl
    rcases hpc with rfl | rfl
    · exact ⟨s₁, some (.int v), _, _, _, X0, rfl, rfl, rfl, (fun h => by cases h), ⟨v, rfl, hh0, hv⟩, fun fs hl => cz.trans (X0.ireturnOut hexec hret nv (Or.inr (Or.inl rfl)) (hb hbytes d25) hl)⟩
    · exact ⟨s₁, some (.int v), _, _, _, X0, rfl, rfl, rfl, (fun h => by cases h), ⟨v, rfl, hh0, hv⟩, fun fs hl => cz.trans (X0.ireturnOut hexec hret nv (Or.inr (Or.inl rfl)) (hb hbytes d33) hl)⟩
  · have c3 : Steps p.tables e below (s₁.setTop (entryFrame m #[.ref a, .ref b] 3)) (s₁.setTop (mkF m 35 #[.val (.ref a), .val (.ref b), .unset] [.int 0])) := c2.trans (by
      refine XS.icmpYes X0.here hexec rfl (pc0 := 4) rfl (hb hbytes d4) rfl (ii_ne_t (ne32 a31 b31 hs)) (by decide) rfl ?_
      refine iconstV X0.here hexec rfl 0 (hb hbytes d34) (by decide) ?_
      exact Steps.refl _)
    exact ⟨s₁, some (.int 0), _, _, _, X0, rfl, rfl, rfl, (fun h => by cases h), ⟨0, rfl, hh0, Or.inr ⟨rfl, fun q => hs q.1⟩⟩, fun fs hl => c3.trans (X0.ireturnOut hexec hret rfl (Or.inr (Or.inl rfl)) (hb hbytes d35) hl)⟩
end LEq
theorem Cod.ty {cd : Int32} {n : Nat} {f : Nat → Int32} {V : Cell} (h : Cod cd n f V) : Typed .byte V := fun i v hv => by
  have hi : i < V.slots.size := (Array.getElem?_eq_some_iff.mp hv).1
  rcases h with ⟨-, k1, k2⟩ | ⟨-, k1, k2, -⟩
  · rw [(k2 i (by omega)).1] at hv; cases hv; exact fits_lo8 _
  · rcases Nat.mod_two_eq_zero_or_one i with e | e
    · obtain ⟨j, rfl⟩ : ∃ j, i = 2 * j := ⟨i / 2, by omega⟩
      rw [(k2 j (by omega)).1] at hv; cases hv; exact fits_lo8 _
    · obtain ⟨j, rfl⟩ : ∃ j, i = 2 * j + 1 := ⟨i / 2, by omega⟩
      rw [(k2 j (by omega)).2] at hv; cases hv; exact fits_lo8 _
/-- the same text -/
def SameT (n : Nat) (f : Nat → Int32) (k : Nat) (g : Nat → Int32) : Prop := n = k ∧ ∀ j, j < n → f j = g j
theorem lo8_inj {x y : Int32} (h0 : ¬ x < 0) (h1 : ¬ 255 < x) (k0 : ¬ y < 0) (k1 : ¬ 255 < y) (h : lo8 x = lo8 y) : x = y := by
  rw [← lo8_mask h0 h1, ← lo8_mask k0 k1, h]
/-- arrays coded by one coder are equal just where the texts are -/
theorem Cod.eqv {cd : Int32} {n k : Nat} {f g : Nat → Int32} {V V' : Cell} (h : Cod cd n f V) (h' : Cod cd k g V') (hf : ∀ j, j < n → ¬ f j < 0 ∧ ¬ 65535 < f j) (hg : ∀ j, j < k → ¬ g j < 0 ∧ ¬ 65535 < g j) : EqC V V' ↔ SameT n f k g := by
  have yvv : ∀ {W : Cell} {i : Nat} {x : Int32}, W.slots[i]? = some (.int x) → yv W i = x := fun q => by unfold yv; rw [q]
  rcases h with ⟨rfl, k1, k2⟩ | ⟨rfl, k1, k2, -⟩
  · rcases h' with ⟨-, m1, m2⟩ | ⟨e, -⟩
    · constructor
      · rintro ⟨e1, e2⟩
        refine ⟨by omega, fun j hj => ?_⟩
        have q := e2 j (by omega)
        rw [yvv (k2 j hj).1, yvv (m2 j (by omega)).1] at q
        exact lo8_inj (hf j hj).1 (k2 j hj).2 (hg j (by omega)).1 (m2 j (by omega)).2 q
      · rintro ⟨rfl, e2⟩
        refine ⟨by omega, fun j hj => ?_⟩
        rw [yvv (k2 j (by omega)).1, yvv (m2 j (by omega)).1, e2 j (by omega)]
    · exact absurd e (by decide)
  · rcases h' with ⟨e, -⟩ | ⟨-, m1, m2, -⟩
    · exact absurd e (by decide)
    · constructor
      · rintro ⟨e1, e2⟩
        refine ⟨by omega, fun j hj => ?_⟩
        have q1 := e2 (2 * j) (by omega)
        have q2 := e2 (2 * j + 1) (by omega)
        rw [yvv (k2 j hj).1, yvv (m2 j (by omega)).1] at q1
        rw [yvv (k2 j hj).2, yvv (m2 j (by omega)).2] at q2
        rw [← pair_says (hf j hj).1 (hf j hj).2, ← pair_says (hg j (by omega)).1 (hg j (by omega)).2, q1, q2]
      · rintro ⟨rfl, e2⟩
        refine ⟨by omega, fun i hi => ?_⟩
        rcases Nat.mod_two_eq_zero_or_one i with e | e
        · obtain ⟨j, rfl⟩ : ∃ j, i = 2 * j := ⟨i / 2, by omega⟩
          rw [yvv (k2 j (by omega)).1, yvv (m2 j (by omega)).1, e2 j (by omega)]
        · obtain ⟨j, rfl⟩ : ∃ j, i = 2 * j + 1 := ⟨i / 2, by omega⟩
          rw [yvv (k2 j (by omega)).2, yvv (m2 j (by omega)).2, e2 j (by omega)]
/-- two codings differ: so do the texts -/
theorem Cod.dif {cd cd' : Int32} {n k : Nat} {f g : Nat → Int32} {V V' : Cell} (h : Cod cd n f V) (h' : Cod cd' k g V') (hne : ¬ cd = cd') : ¬ SameT n f k g := by
  rintro ⟨rfl, e⟩
  rcases h with ⟨rfl, -, k2⟩ | ⟨rfl, -, -, j, hj, hw⟩
  · rcases h' with ⟨rfl, -⟩ | ⟨-, -, -, j, hj, hw⟩
    · exact hne rfl
    · exact (k2 j hj).2 (by rw [e j hj]; exact hw)
  · rcases h' with ⟨-, -, m2⟩ | ⟨rfl, -⟩
    · exact (m2 j hj).2 (by rw [← e j hj]; exact hw)
    · exact hne rfl
/-- an object of exactly C is an instance of C -/
theorem cinst {p : Program} {l : Launch} {e : Env} {R : Room} {s : State} {m : MethodId} {args : Array Value} {below : List Frame} {meth : Method} {c : Code} {T : State} {locs : List Loc} {cells slots : Nat} (X : Stand p l e R s m args below meth c T locs cells slots) (hexec : p.tables.exec = Jvm.exec) {own C : String} {index : Nat} (hown : s.vm.findClass own = some m.cls) (hlink : (Cond.classLink own index C).before args s = true) {a : Addr} (hE : Exact C a T)
    {g : JFrame} (hg : g.method = m) {rest : List Value} (hstack : g.stack = .ref a :: rest) (hdg : decode c.code g.pc = .ok (.instanceof index, 3)) :
    ∃ T', Stand p l e R s m args below meth c T' locs cells slots ∧ T'.heap = T.heap ∧ ∀ target, Steps p.tables e below (T'.setTop { g with pc := g.pc + 3, stack := .int 1 :: rest }) target → Steps p.tables e below (T.setTop g) target := by
  obtain ⟨cB, h1, D, h2, h3, h4⟩ := hE
  have h1' : s.vm.findClass C = some cB := by rw [← X.warmed.alike.findClass]; exact h1
  obtain ⟨vm', X', st⟩ := X.instanceofYes hexec hown hlink h2 h4 h1' (by rw [h3]; exact Jvm.Free.SB.assignable_self _ _) hg hstack hdg
  exact ⟨_, X', rfl, st⟩
theorem cself {p : Program} {l : Launch} {e : Env} {R : Room} {s : State} {m : MethodId} {args : Array Value} {below : List Frame} {meth : Method} {c : Code} {T : State} {locs : List Loc} {cells slots : Nat} (X : Stand p l e R s m args below meth c T locs cells slots) (hexec : p.tables.exec = Jvm.exec) {own C : String} {index : Nat} (hown : s.vm.findClass own = some m.cls) (hlink : (Cond.classLink own index C).before args s = true) {a : Addr} (hE : Exact C a T)
    {g : JFrame} (hg : g.method = m) {rest : List Value} (hstack : g.stack = .ref a :: rest) (hdg : decode c.code g.pc = .ok (.checkcast index, 3)) :
    ∃ T', Stand p l e R s m args below meth c T' locs cells slots ∧ T'.heap = T.heap ∧ ∀ target, Steps p.tables e below (T'.setTop { g with pc := g.pc + 3, stack := .ref a :: rest }) target → Steps p.tables e below (T.setTop g) target := by
  obtain ⟨cB, h1, D, h2, h3, h4⟩ := hE
  have h1' : s.vm.findClass C = some cB := by rw [← X.warmed.alike.findClass]; exact h1
  obtain ⟨vm', X', st⟩ := X.checkcastYes hexec hown hlink h2 h4 h1' (by rw [h3]; exact Jvm.Free.SB.assignable_self _ _) hg hstack hdg
  exact ⟨_, X', rfl, fun t h => st t (by rw [← hstack] at h; exact h)⟩
namespace SEq
def yN : MethodName := ⟨"java/lang/String", "equals", "(Ljava/lang/Object;)Z"⟩
abbrev yB : ByteArray := jdk_42_method_66_code
theorem d0 : decode yB 0 = .ok (.aload_n 0, 1) := by decide +kernel
theorem d1 : decode yB 1 = .ok (.aload_n 1, 1) := by decide +kernel
theorem d2 : decode yB 2 = .ok (.if_acmp (.ne) 5, 3) := by decide +kernel
theorem d5 : decode yB 5 = .ok (.iconst 1, 1) := by decide +kernel
theorem d6 : decode yB 6 = .ok (.ireturn, 1) := by decide +kernel
theorem d7 : decode yB 7 = .ok (.aload_n 1, 1) := by decide +kernel
theorem d8 : decode yB 8 = .ok (.instanceof 10, 3) := by decide +kernel
theorem d11 : decode yB 11 = .ok (.ifCond (.eq) 43, 3) := by decide +kernel
theorem d14 : decode yB 14 = .ok (.aload_n 1, 1) := by decide +kernel
theorem d15 : decode yB 15 = .ok (.checkcast 10, 3) := by decide +kernel
theorem d18 : decode yB 18 = .ok (.astore_n 2, 1) := by decide +kernel
theorem d19 : decode yB 19 = .ok (.getstatic 38, 3) := by decide +kernel
theorem d22 : decode yB 22 = .ok (.ifCond (.eq) 14, 3) := by decide +kernel
theorem d25 : decode yB 25 = .ok (.aload_n 0, 1) := by decide +kernel
theorem d26 : decode yB 26 = .ok (.getfield 15, 3) := by decide +kernel
theorem d29 : decode yB 29 = .ok (.aload_n 2, 1) := by decide +kernel
theorem d30 : decode yB 30 = .ok (.getfield 15, 3) := by decide +kernel
theorem d33 : decode yB 33 = .ok (.if_icmp (.ne) 21, 3) := by decide +kernel
theorem d36 : decode yB 36 = .ok (.aload_n 0, 1) := by decide +kernel
theorem d37 : decode yB 37 = .ok (.getfield 9, 3) := by decide +kernel
theorem d40 : decode yB 40 = .ok (.aload_n 2, 1) := by decide +kernel
theorem d41 : decode yB 41 = .ok (.getfield 9, 3) := by decide +kernel
theorem d44 : decode yB 44 = .ok (.invokestatic 541, 3) := by decide +kernel
theorem d47 : decode yB 47 = .ok (.ifCond (.eq) 7, 3) := by decide +kernel
theorem d50 : decode yB 50 = .ok (.iconst 1, 1) := by decide +kernel
theorem d51 : decode yB 51 = .ok (.goto 4, 3) := by decide +kernel
theorem d54 : decode yB 54 = .ok (.iconst 0, 1) := by decide +kernel
theorem d55 : decode yB 55 = .ok (.ireturn, 1) := by decide +kernel
def site : List Cond := [.classLink "java/lang/String" 10 "java/lang/String", .fieldLink "java/lang/String" 38 "java/lang/String" "COMPACT_STRINGS" "Z", .fieldLink "java/lang/String" 15 "java/lang/String" "coder" "B", .fieldLink "java/lang/String" 9 "java/lang/String" "value" "[B", LEq.tab] ++ staticW "java/lang/String" 541 LEq.yN
def tab : Cond := tabOf yN yB 3 (some .boolean) site
def P (x t : Addr) (V : Cell) (cd : Int32) (n : Nat) (f : Nat → Int32) (y t' : Addr) (V' : Cell) (cd' : Int32) (k : Nat) (g : Nat → Int32) (z : Int32) (args : Array Value) (s : State) : Prop := args = #[.ref x, .ref y] ∧ Txt x t V cd n f s ∧ Txt y t' V' cd' k g s ∧ StaticIs s "java/lang/String" "COMPACT_STRINGS" "Z" (.int z) ∧ ¬ z = 0
/-- equals(Object) of two Strings: whether the texts are the same -/
theorem law (l : Launch) (x t : Addr) (V : Cell) (cd : Int32) (n : Nat) (f : Nat → Int32) (y t' : Addr) (V' : Cell) (cd' : Int32) (k : Nat) (g : Nat → Int32) (z : Int32) : Law l yN 2 1 1 14 yB 3 (some .boolean) site (P x t V cd n f y t' V' cd' k g z) (Says01 (SameT n f k g)) [] 0 0 := by
  refine Law.of_walk (plainFor_of_name (by decide +kernel)) (by decide +kernel) (by decide +kernel) (by decide) (fun _ _ h => by rw [h.1]; rfl) (fun _ U U' hal hh h => ⟨h.1, h.2.1.mv hal hh, h.2.2.1.mv hal hh, h.2.2.2.1.there hal hh, h.2.2.2.2⟩) (fun r U U' V V' h1 hal h2 h => Says01.mv r U U' V V' h1 hal h2 h) ?_
  intro p e s m args below meth c s₁ X0 hexec hbytes hml hret hlk hnm hown hh0 W hP
  obtain ⟨rfl, hx, hy, s1, hz⟩ := hP
  have c1 : Steps p.tables e below (s₁.setTop (entryFrame m #[.ref x, .ref y] 3)) (s₁.setTop (mkF m 2 #[.val (.ref x), .val (.ref y), .unset] [.ref y, .ref x])) := Steps.trans (entry rfl) (by
    show Steps p.tables e below (s₁.setTop (mkF m 0 #[.val (.ref x), .val (.ref y), .unset] [])) _
    refine XS.aloadN X0.here hexec rfl (hb hbytes d0) rfl rfl ?_
    refine XS.aloadN X0.here hexec rfl (hb hbytes d1) rfl rfl ?_
    exact Steps.refl _)
  by_cases hxy : x = y
  · have c2 : Steps p.tables e below (s₁.setTop (entryFrame m #[.ref x, .ref y] 3)) (s₁.setTop (mkF m 6 #[.val (.ref x), .val (.ref y), .unset] [.int 1])) := c1.trans (by
      refine acmpNo X0.here hexec rfl (hb hbytes d2) rfl rfl rfl (by simp [acmp, hxy]) ?_
      refine iconstV X0.here hexec rfl 1 (hb hbytes d5) (by decide) ?_
      exact Steps.refl _)
    subst hxy
    have ec : cd = cd' := by
      obtain ⟨D, fd, a1, a2, a3⟩ := hx.2.2.1
      obtain ⟨D', fd', b1, b2, b3⟩ := hy.2.2.1
      cases a1.symm.trans b1
      obtain ⟨q1, q2, q3, q4⟩ := a2.1
      obtain ⟨r1, r2, r3, r4⟩ := b2.1
      cases q4.symm.trans r4
      cases a3.symm.trans b3; rfl
    have et : t = t' := by
      obtain ⟨D, fd, a1, a2, a3⟩ := hx.2.1
      obtain ⟨D', fd', b1, b2, b3⟩ := hy.2.1
      cases a1.symm.trans b1
      obtain ⟨q1, q2, q3, q4⟩ := a2.1
      obtain ⟨r1, r2, r3, r4⟩ := b2.1
      cases q4.symm.trans r4
      cases a3.symm.trans b3; rfl
    subst ec et
    have ev : V = V' := by cases hx.2.2.2.1.1.symm.trans hy.2.2.2.1.1; rfl
    subst ev
    have hs : SameT n f k g := (Cod.eqv hx.2.2.2.2.1 hy.2.2.2.2.1 hx.2.2.2.2.2 hy.2.2.2.2.2).mp ⟨rfl, fun _ _ => rfl⟩
    exact ⟨s₁, some (.int 1), _, _, _, X0, rfl, rfl, rfl, (fun h => by cases h), ⟨1, rfl, hh0, Or.inl ⟨rfl, hs⟩⟩, fun fs hl => c2.trans (X0.ireturnOut hexec hret rfl (Or.inr (Or.inl rfl)) (hb hbytes d6) hl)⟩
  · have c2 : Steps p.tables e below (s₁.setTop (entryFrame m #[.ref x, .ref y] 3)) (s₁.setTop (mkF m 8 #[.val (.ref x), .val (.ref y), .unset] [.ref y])) := c1.trans (by
      refine acmpYes X0.here hexec rfl (pc0 := 2) rfl (hb hbytes d2) rfl rfl rfl (by simp [acmp, hxy]) (by decide) rfl ?_
      refine XS.aloadN X0.here hexec rfl (hb hbytes d7) rfl rfl ?_
      exact Steps.refl _)
    obtain ⟨T3, X3, q3, st3⟩ := cinst X0 hexec hown (wk W (.classLink "java/lang/String" 10 "java/lang/String")) (hy.mv X0.warmed.alike hh0).1 (g := (mkF m 8 #[.val (.ref x), .val (.ref y), .unset] [.ref y])) rfl (rest := []) rfl (hb hbytes d8)
    have hh3 := q3.trans hh0
    have c4 : Steps p.tables e below (s₁.setTop (entryFrame m #[.ref x, .ref y] 3)) (T3.setTop (mkF m 15 #[.val (.ref x), .val (.ref y), .unset] [.ref y])) := (c2.trans (st3 _ (Steps.refl _))).trans (by
      refine XS.ifNo X3.here hexec rfl (hb hbytes d11) rfl (i0_eq_f (by decide)) ?_
      refine XS.aloadN X3.here hexec rfl (hb hbytes d14) rfl rfl ?_
      exact Steps.refl _)
    obtain ⟨T5, X5, q5, st5⟩ := cself X3 hexec hown (wk W (.classLink "java/lang/String" 10 "java/lang/String")) (hy.mv X3.warmed.alike hh3).1 (g := (mkF m 15 #[.val (.ref x), .val (.ref y), .unset] [.ref y])) rfl (rest := []) rfl (hb hbytes d15)
    have hh5 := q5.trans hh3
    have c6 : Steps p.tables e below (s₁.setTop (entryFrame m #[.ref x, .ref y] 3)) (T5.setTop (mkF m 19 #[.val (.ref x), .val (.ref y), .val (.ref y)] [])) := (c4.trans (st5 _ (Steps.refl _))).trans (by
      refine XS.astoreN X5.here hexec rfl (hb hbytes d18) rfl rfl rfl ?_
      exact Steps.refl _)
    obtain ⟨T7, X7, q7, st7⟩ := X5.sget hexec hown (wk W (.fieldLink "java/lang/String" 38 "java/lang/String" "COMPACT_STRINGS" "Z")) s1 (fun _ _ h => by rw [hh5]; exact h) (g := (mkF m 19 #[.val (.ref x), .val (.ref y), .val (.ref y)] [])) rfl (hb hbytes d19)
    have hh7 := q7.trans hh5
    have c8 : Steps p.tables e below (s₁.setTop (entryFrame m #[.ref x, .ref y] 3)) (T7.setTop (mkF m 26 #[.val (.ref x), .val (.ref y), .val (.ref y)] [.ref x])) := (c6.trans (st7 _ (Steps.refl _))).trans (by
      refine XS.ifNo X7.here hexec rfl (hb hbytes d22) rfl (i0_eq_f hz) ?_
      refine XS.aloadN X7.here hexec rfl (hb hbytes d25) rfl rfl ?_
      exact Steps.refl _)
    obtain ⟨T9, X9, q9, st9⟩ := X7.hget hexec hown (wk W (.fieldLink "java/lang/String" 15 "java/lang/String" "coder" "B")) (hx.mv X7.warmed.alike hh7).2.2.1 (g := (mkF m 26 #[.val (.ref x), .val (.ref y), .val (.ref y)] [.ref x])) rfl (rest := []) rfl (hb hbytes d26)
    have hh9 := q9.trans hh7
    have c10 : Steps p.tables e below (s₁.setTop (entryFrame m #[.ref x, .ref y] 3)) (T9.setTop (mkF m 30 #[.val (.ref x), .val (.ref y), .val (.ref y)] [.ref y, .int cd])) := (c8.trans (st9 _ (Steps.refl _))).trans (by
      refine XS.aloadN X9.here hexec rfl (hb hbytes d29) rfl rfl ?_
      exact Steps.refl _)
    obtain ⟨T11, X11, q11, st11⟩ := X9.hget hexec hown (wk W (.fieldLink "java/lang/String" 15 "java/lang/String" "coder" "B")) (hy.mv X9.warmed.alike hh9).2.2.1 (g := (mkF m 30 #[.val (.ref x), .val (.ref y), .val (.ref y)] [.ref y, .int cd])) rfl (rest := [.int cd]) rfl (hb hbytes d30)
    have hh11 := q11.trans hh9
    have c12 : Steps p.tables e below (s₁.setTop (entryFrame m #[.ref x, .ref y] 3)) (T11.setTop (mkF m 33 #[.val (.ref x), .val (.ref y), .val (.ref y)] [.int cd', .int cd])) := c10.trans (st11 _ (Steps.refl _))
    by_cases hcd : cd = cd'
    · subst hcd
      have c13 : Steps p.tables e below (s₁.setTop (entryFrame m #[.ref x, .ref y] 3)) (T11.setTop (mkF m 37 #[.val (.ref x), .val (.ref y), .val (.ref y)] [.ref x])) := c12.trans (by
        refine XS.icmpNo X11.here hexec rfl (hb hbytes d33) rfl (ii_ne_f rfl) ?_
        refine XS.aloadN X11.here hexec rfl (hb hbytes d36) rfl rfl ?_
        exact Steps.refl _)
      obtain ⟨T14, X14, q14, st14⟩ := X11.hget hexec hown (wk W (.fieldLink "java/lang/String" 9 "java/lang/String" "value" "[B")) (hx.mv X11.warmed.alike hh11).2.1 (g := (mkF m 37 #[.val (.ref x), .val (.ref y), .val (.ref y)] [.ref x])) rfl (rest := []) rfl (hb hbytes d37)
      have hh14 := q14.trans hh11
      have c15 : Steps p.tables e below (s₁.setTop (entryFrame m #[.ref x, .ref y] 3)) (T14.setTop (mkF m 41 #[.val (.ref x), .val (.ref y), .val (.ref y)] [.ref y, .ref t])) := (c13.trans (st14 _ (Steps.refl _))).trans (by
        refine XS.aloadN X14.here hexec rfl (hb hbytes d40) rfl rfl ?_
        exact Steps.refl _)
      obtain ⟨T16, X16, q16, st16⟩ := X14.hget hexec hown (wk W (.fieldLink "java/lang/String" 9 "java/lang/String" "value" "[B")) (hy.mv X14.warmed.alike hh14).2.1 (g := (mkF m 41 #[.val (.ref x), .val (.ref y), .val (.ref y)] [.ref y, .ref t])) rfl (rest := [.ref t]) rfl (hb hbytes d41)
      have hh16 := q16.trans hh14
      have c17 : Steps p.tables e below (s₁.setTop (entryFrame m #[.ref x, .ref y] 3)) (T16.setTop (mkF m 44 #[.val (.ref x), .val (.ref y), .val (.ref y)] [.ref t', .ref t])) := c15.trans (st16 _ (Steps.refl _))
      obtain ⟨v18, T18, X18, E18, g18⟩ := X16.callS hexec (LEq.law l t V t' V') hown (wks W (staticW "java/lang/String" 541 LEq.yN)) (wk W LEq.tab) (W := 0) (Nat.le_of_ble_eq_true rfl) (Nat.le_of_ble_eq_true rfl) (Nat.le_refl _) (Nat.le_refl _) (g := (mkF m 44 #[.val (.ref x), .val (.ref y), .val (.ref y)] [.ref t', .ref t])) rfl (by rw [hml]; rfl) c17 (argsL := [.ref t, .ref t']) (rest := []) rfl rfl (by show 2 * 0 + 0 ≤ _; decide) (hb hbytes d44) (⟨rfl, hx.2.2.2.1.mv X16.warmed.alike hh16, hx.2.2.2.2.1.ty, hy.2.2.2.1.mv X16.warmed.alike hh16, hy.2.2.2.2.1.ty⟩)
      obtain ⟨v, rfl, q18, hv⟩ := E18
      have iff := Cod.eqv hx.2.2.2.2.1 hy.2.2.2.2.1 hx.2.2.2.2.2 hy.2.2.2.2.2
      rcases hv with ⟨rfl, he⟩ | ⟨rfl, he⟩
      · have c19 : Steps p.tables e below (s₁.setTop (entryFrame m #[.ref x, .ref y] 3)) (T18.setTop (mkF m 55 #[.val (.ref x), .val (.ref y), .val (.ref y)] [.int 1])) := Steps.trans g18 (by
          refine XS.ifNo X18.here hexec rfl (hb hbytes d47) rfl (i0_eq_f (by decide)) ?_
          refine iconstV X18.here hexec rfl 1 (hb hbytes d50) (by decide) ?_
          refine XS.goto X18.here hexec rfl (pc0 := 51) rfl (hb hbytes d51) (by decide) rfl ?_
          exact Steps.refl _)
        exact ⟨T18, some (.int 1), _, _, _, X18, rfl, rfl, rfl, (fun h => by cases h), ⟨1, rfl, q18.trans hh16, Or.inl ⟨rfl, iff.mp he⟩⟩, fun fs hl => c19.trans (X18.ireturnOut hexec hret rfl (Or.inr (Or.inl rfl)) (hb hbytes d55) hl)⟩
      · have c19 : Steps p.tables e below (s₁.setTop (entryFrame m #[.ref x, .ref y] 3)) (T18.setTop (mkF m 55 #[.val (.ref x), .val (.ref y), .val (.ref y)] [.int 0])) := Steps.trans g18 (by
          refine XS.ifYes X18.here hexec rfl (pc0 := 47) rfl (hb hbytes d47) rfl (i0_eq_t rfl) (by decide) rfl ?_
          refine iconstV X18.here hexec rfl 0 (hb hbytes d54) (by decide) ?_
          exact Steps.refl _)
        exact ⟨T18, some (.int 0), _, _, _, X18, rfl, rfl, rfl, (fun h => by cases h), ⟨0, rfl, q18.trans hh16, Or.inr ⟨rfl, fun q => he (iff.mpr q)⟩⟩, fun fs hl => c19.trans (X18.ireturnOut hexec hret rfl (Or.inr (Or.inl rfl)) (hb hbytes d55) hl)⟩
    · have c13 : Steps p.tables e below (s₁.setTop (entryFrame m #[.ref x, .ref y] 3)) (T11.setTop (mkF m 55 #[.val (.ref x), .val (.ref y), .val (.ref y)] [.int 0])) := c12.trans (by
        refine XS.icmpYes X11.here hexec rfl (pc0 := 33) rfl (hb hbytes d33) rfl (ii_ne_t hcd) (by decide) rfl ?_
        refine iconstV X11.here hexec rfl 0 (hb hbytes d54) (by decide) ?_
        exact Steps.refl _)
      exact ⟨T11, some (.int 0), _, _, _, X11, rfl, rfl, rfl, (fun h => by cases h), ⟨0, rfl, hh11, Or.inr ⟨rfl, Cod.dif hx.2.2.2.2.1 hy.2.2.2.2.1 hcd⟩⟩, fun fs hl => c13.trans (X11.ireturnOut hexec hret rfl (Or.inr (Or.inl rfl)) (hb hbytes d55) hl)⟩
theorem pays {l : Launch} {R : Room} {p : Program} {e : Env} {below : List Frame} {s : State} {sargs : Array Value} {len W : Nat} (x t : Addr) (V : Cell) (cd : Int32) (n : Nat) (f : Nat → Int32) (y t' : Addr) (V' : Cell) (cd' : Int32) (k : Nat) (g : Nat → Int32) (z : Int32) (htab : tab.before sargs s = true) (hfr : 2 ≤ R.frames) (hlo : W + 28 ≤ R.locals) :
    Back l R p e below s sargs yN len W (fun A₁ a₁ => A₁.cells + 0 ≤ R.cells ∧ A₁.slots + 0 ≤ R.slots ∧ P x t V cd n f y t' V' cd' k g z a₁ A₁.U) (fun A₁ _ v₁ B₁ => Says01 (SameT n f k g) v₁ A₁.U B₁.U ∧ B₁.locs = A₁.locs ++ [] ∧ B₁.cells = A₁.cells + 0 ∧ B₁.slots = A₁.slots + 0) :=
  (law l x t V cd n f y t' V' cd' k g z).pays htab hfr (by omega)
end SEq
end StrChars
namespace StrChars.Road
open Jvm Sem ClassFile Op Lib Jvm.Stand Jvm.Free Jvm.Free.XT
open Jvm.Lib.Cold (StaticIs)
/-- the words of String.equals(Object) -/
abbrev wordsEq : List Jvm.Cond := [.code SEq.yN SEq.yB 3 (some .boolean), .initialized ST, .classLink ST 10 ST, .fieldLink ST 38 ST "COMPACT_STRINGS" "Z", .fieldLink ST 15 ST "coder" "B", .fieldLink ST 9 ST "value" "[B", .methodLink ST 541 LEq.yN, .static LEq.yN, .code LEq.yN LEq.yB 3 (some .boolean), .initialized "java/lang/StringLatin1"]
theorem tabEq_of {a : Array Value} {s : State} (h : ∀ w ∈ wordsEq, w.before a s = true) : SEq.tab.before a s = true := by
  have hl : LEq.tab.before a s = true := unparts (wk h (.code LEq.yN LEq.yB 3 (some .boolean))) (wks h (.initialized LEq.yN.cls :: LEq.site))
  have q := consq hl h
  exact unparts (wk q (.code SEq.yN SEq.yB 3 (some .boolean))) (wks q (.initialized SEq.yN.cls :: SEq.site))
theorem movedEq {Z s : State} {a0 args : Array Value} (hZ : Z.Warmed39 s.vm) (hw : ∀ d ∈ wordsEq, d.before a0 Z = true) : ∀ d ∈ wordsEq, d.before args s = true := fun d hd => by
  have t : ∀ d ∈ wordsEq, (d.onTables && d.keepsFace) = true := by decide +kernel
  exact RoadKit.mv hZ (hw d hd) (t d hd)
/-- the road's facts of a String, as the laws ask it -/
theorem txt_of {Z U : State} {a0 : Array Value} {kI : Nat} (wi : (Jvm.Cond.instantiable ST kI).before a0 Z = true) (al : Z.vm.Alike U.vm) {x t : Addr} {kb : ClassId} {cs : List Int32} {cd N2 : Int32} {vs : List Value} (E : RoadKit.Exa Z U.heap x ST) (V : RoadKit.Fld Z U.heap x ST "value" "[B" (.ref t)) (C : RoadKit.Fld Z U.heap x ST "coder" "B" (.int cd)) (K : RoadKit.Arv Z U.heap t kb .byte N2 vs (.int 0)) (hc : CodA cs cd N2 vs) (hb : ∀ c ∈ cs, ¬ c < 0 ∧ ¬ (65535 : Int32) < c) (l2 : cs.length ≤ 4000) :
    ∃ A, Txt x t A cd cs.length (fun j => cs.getD j 0) U := by
  obtain ⟨A, K1, K2, K3, K4, K5, K6⟩ := K
  have hcod := hc.cod (by omega) K3 K5
  obtain ⟨D, fV, fC, hB, F1, F2, g1, g2, -, -⟩ := strObj wi al E V C
  exact ⟨A, ⟨_, hB.2.2.1, D, hB.1, rfl, by cases q : D.vm <;> first | rfl | exact absurd q (hB.2.1.2 _)⟩, Has.of hB F1 g1, Has.of hB F2 g2, ⟨K1.1, State.isArrayOf_alike al K1.2.1, K1.2.2, by rcases hcod with ⟨-, q, -⟩ | ⟨-, q, -⟩ <;> omega⟩, hcod, fun j hj => by
    have e : cs.getD j 0 = cs[j] := by simp [List.getD_eq_getElem?_getD, hj]
    show ¬ cs.getD j 0 < 0 ∧ ¬ 65535 < cs.getD j 0
    rw [e]; exact hb _ (List.getElem_mem _)⟩
theorem same_list (cs ds : List Int32) : SameT cs.length (fun j => cs.getD j 0) ds.length (fun j => ds.getD j 0) ↔ cs = ds := by
  constructor
  · rintro ⟨e, q⟩
    refine List.ext_getElem e fun j h1 h2 => ?_
    have := q j h1
    simpa [List.getD_eq_getElem?_getD, h1, h2] using this
  · rintro rfl
    exact ⟨rfl, fun _ _ => rfl⟩
/-- **equals(Object) OF TWO SUCH STRINGS**: 1 just where the chars are the same -/
theorem eqW {p : Program} {l : Launch} {e : Env} {R : Room} {s : State} {args : Array Value} {below : List Frame} {len W : Nat} {Z : State} {a0 : Array Value} {h : Heap} (hZ : Z.Warmed39 s.vm) (hw : ∀ d ∈ wordsEq, d.before a0 Z = true) {kI : Nat} (wi : (Jvm.Cond.instantiable ST kI).before a0 Z = true)
    {x t : Addr} {kb : ClassId} {cs : List Int32} {cd N2 : Int32} {vs : List Value} (E : RoadKit.Exa Z h x ST) (V : RoadKit.Fld Z h x ST "value" "[B" (.ref t)) (C : RoadKit.Fld Z h x ST "coder" "B" (.int cd)) (K : RoadKit.Arv Z h t kb .byte N2 vs (.int 0)) (hc : CodA cs cd N2 vs) (hb : ∀ c ∈ cs, ¬ c < 0 ∧ ¬ (65535 : Int32) < c) (l2 : cs.length ≤ 4000)
    {y t' : Addr} {kb' : ClassId} {ds : List Int32} {cd' N2' : Int32} {vs' : List Value} (E' : RoadKit.Exa Z h y ST) (V' : RoadKit.Fld Z h y ST "value" "[B" (.ref t')) (C' : RoadKit.Fld Z h y ST "coder" "B" (.int cd')) (K' : RoadKit.Arv Z h t' kb' .byte N2' vs' (.int 0)) (hc' : CodA ds cd' N2' vs') (hb' : ∀ c ∈ ds, ¬ c < 0 ∧ ¬ (65535 : Int32) < c) (l2' : ds.length ≤ 4000)
    {z : Int32} (S : RoadKit.Sta Z h ST "COMPACT_STRINGS" "Z" (.int z)) (hz : ¬ z = 0) (hfr : 2 ≤ R.frames) (hlo : W + 28 ≤ R.locals) :
    Back l R p e below s args (⟨"java/lang/String", "equals", "(Ljava/lang/Object;)Z"⟩ : MethodName) len W (fun P a => a = #[.ref x, .ref y] ∧ P.U.heap = h ∧ P.cells + 0 ≤ R.cells ∧ P.slots + 0 ≤ R.slots)
      (fun P _ v B => ∃ L, (((v = some (.int 1) ∧ cs = ds) ∨ (v = some (.int 0) ∧ ¬ cs = ds)) ∧ L = [] ∧ B.U.heap = h) ∧ B.locs = P.locs ++ L ∧ B.cells = P.cells + 0 ∧ B.slots = P.slots + 0) := by
  intro m meth c P g ig mk a X hg hsize hdg hW hn hp'
  obtain ⟨rfl, rfl, r1, r2⟩ := hp'
  have al : Z.vm.Alike P.U.vm := hZ.alike.trans X.warmed.alike
  obtain ⟨A, hx⟩ := txt_of wi al E V C K hc hb l2
  obtain ⟨A', hy⟩ := txt_of wi al E' V' C' K' hc' hb' l2'
  obtain ⟨v, B, X', ⟨⟨w, hv, hh, hq⟩, hl, hk, hs⟩, st⟩ := SEq.pays x t A cd cs.length (fun j => cs.getD j 0) y t' A' cd' ds.length (fun j => ds.getD j 0) z (tabEq_of (movedEq hZ hw)) hfr hlo m meth c P g ig mk _ X hg hsize hdg hW hn ⟨r1, r2, rfl, hx, hy, sta_is al S, hz⟩
  refine ⟨v, B, X', ⟨[], ⟨?_, rfl, hh⟩, hl, hk, hs⟩, st⟩
  rcases hq with ⟨rfl, q⟩ | ⟨rfl, q⟩
  · exact Or.inl ⟨hv, (same_list cs ds).mp q⟩
  · exact Or.inr ⟨hv, fun e => q ((same_list cs ds).mpr e)⟩
end StrChars.Road
namespace StrChars.Road
open Jvm Sem ClassFile Op Lib Jvm.Stand Jvm.Free Jvm.Free.XT
open Jvm.Lib.Cold (StaticIs)
/-- what backV says of its String, as the contracts of this text ask it: cs's low bytes, coder 0 -/
theorem codOf {cs : List Int32} {n : Nat} (hn : cs.length = n) (hb : ∀ c ∈ cs, ¬ 255 < c) : CodA cs 0 (Int32.ofNat n) ((cs.map lo8).map Value.int) := Or.inl ⟨rfl, by rw [hn], by simp [List.map_map, Function.comp_def], hb⟩
end StrChars.Road
end Jvm.Pilot.@@N@@
namespace Jvm.Pilot.@@N@@
open Jvm Jvm.ClassFile Sem Op Lib Jvm.Free Jvm.Stand Jvm.LawKit Jvm.RoadKit Bundle Jvm.Pilot.@@N@@.Jvm.D

section OwnEnds
variable {p : Program} {l : Launch} {e : Env} {R : Room} {s : State} {m : MethodId} {args : Array Value} {below : List Frame} {meth : Method} {c : Code} {T : State} {locs : List Loc} {cells slots : Nat}
/-- from here the body comes to its end, returns, and leaves what Q says -/
def Ends (p : Program) (e : Env) (below : List Frame) (s T : State) (g : JFrame) (kc ks : Nat) (Q : Option Value → Heap → List Loc → Prop) : Prop :=
  ∃ s₂ o, Steps p.tables e below (T.setTop g) s₂ ∧ s₂.status = .running ∧ Ended s₂ below o ∧ ∃ v L, o = .returned v ∧ Q v s₂.heap L ∧ FrameEnd s o s₂ L kc ks
theorem Ends.go {T' : State} {g g' : JFrame} {kc ks : Nat} {Q : Option Value → Heap → List Loc → Prop} (h : ∀ target, Steps p.tables e below (T'.setTop g') target → Steps p.tables e below (T.setTop g) target) (k : Ends p e below s T' g' kc ks Q) : Ends p e below s T g kc ks Q := by
  obtain ⟨s₂, o, h1, h2⟩ := k
  exact ⟨s₂, o, h _ h1, h2⟩
theorem Ends.ret (X : Stand p l e R s m args below meth c T locs cells slots) (hx : p.tables.exec = Jvm.exec) (hlocks : meth.locks = false) {pc : Nat} {Ls : Array Slot} {w : Value} {t : FieldType} {i : Instr} {rest : List Value} (hret : meth.sig.returnType = some t) (hn : narrow t w = w)
    (hi : (i = .ireturn ∧ (t = .int ∨ t = .boolean ∨ t = .byte ∨ t = .char ∨ t = .short) ∧ ∃ z, w = .int z) ∨ (i = .lreturn ∧ t = .long ∧ ∃ z, w = .long z) ∨ (i = .dreturn ∧ t = .double ∧ ∃ z, w = .double z) ∨ (i = .freturn ∧ t = .float ∧ ∃ z, w = .float z) ∨ (i = .areturn ∧ t.isReference = true ∧ w.isRef = true))
    (hd : decode c.code pc = .ok (i, 1)) {kc ks : Nat} {Q : Option Value → Heap → List Loc → Prop} (hc : cells ≤ kc) (hs : slots ≤ ks) (hq : Q (some w) T.heap locs) : Ends p e below s T (mkF m pc Ls (w :: rest)) kc ks Q := by
  obtain ⟨fs, hr, hrun, hended, hW, hsame⟩ := X.leave (v := some w) (fun h => by rw [hret] at h; cases h) hlocks
  exact ⟨_, _, retOut X hx hret hn hi hd hr, hrun, hended, _, _, rfl, hq, ⟨_, rfl⟩, hW, hsame.mono hc hs⟩
theorem Ends.retZ (X : Stand p l e R s m args below meth c T locs cells slots) (hx : p.tables.exec = Jvm.exec) (hlocks : meth.locks = false) {pc : Nat} {Ls : Array Slot} {z : Int32} {t : FieldType} {rest : List Value} (hret : meth.sig.returnType = some t) (ht : t = .boolean ∨ t = .byte ∨ t = .char ∨ t = .short)
    (hd : decode c.code pc = .ok (.ireturn, 1)) {kc ks : Nat} {Q : Option Value → Heap → List Loc → Prop} (hc : cells ≤ kc) (hs : slots ≤ ks) (hq : Q (some (.int (nar t z))) T.heap locs) : Ends p e below s T (mkF m pc Ls (.int z :: rest)) kc ks Q := by
  obtain ⟨fs, hr, hrun, hended, hW, hsame⟩ := X.leave (v := some (.int (nar t z))) (fun h => by rw [hret] at h; cases h) hlocks
  exact ⟨_, _, retN X hx hret ht hd hr, hrun, hended, _, _, rfl, hq, ⟨_, rfl⟩, hW, hsame.mono hc hs⟩
theorem Ends.retV (X : Stand p l e R s m args below meth c T locs cells slots) (hx : p.tables.exec = Jvm.exec) (hlocks : meth.locks = false) {pc : Nat} {Ls : Array Slot} (hret : meth.sig.returnType = none)
    (hd : decode c.code pc = .ok (.return_, 1)) {kc ks : Nat} {Q : Option Value → Heap → List Loc → Prop} (hc : cells ≤ kc) (hs : slots ≤ ks) (hq : Q none T.heap locs) : Ends p e below s T (mkF m pc Ls []) kc ks Q := by
  obtain ⟨fs, hr, hrun, hended, hW, hsame⟩ := X.leave (v := none) (fun _ => rfl) hlocks
  exact ⟨_, _, X.returnOut hx hret hd hr, hrun, hended, _, _, rfl, hq, ⟨_, rfl⟩, hW, hsame.mono hc hs⟩
theorem own_mono (X : Stand p l e R s m args below meth c T locs cells slots) {kc ks : Nat} (hc : cells ≤ kc) (hs : slots ≤ ks) : Stand p l e R s m args below meth c T locs kc ks := { X with same := X.same.mono hc hs }
end OwnEnds
abbrev Meets1 (l : Launch) (y : MethodName) (bytes : ByteArray) (ml : Nat) (rt : Option FieldType) (ws : List Jvm.Cond) (rm : Room) (av : Array Value) (Z : State) (h0 : Heap) (Q : Option Value → Heap → List Loc → Prop) : Prop :=
  MetFree l y (head1 (Jvm.Cond.code y bytes ml rt :: ws) rm) (fun a U => a = av ∧ Z.Warmed39 U.vm ∧ U.heap = h0) (fun _ _ _ _ _ => True) (fun _ U o U' => ∃ v L, o = .returned v ∧ Q v U'.heap L ∧ FrameEnd U o U' L rm.cells rm.slots)
theorem own_backOf {p : Program} {l : Launch} {e : Env} {R : Room} {s : State} {args : Array Value} {below : List Frame} {Z : State} {a0 : Array Value} {h : Heap} {y : MethodName} {bytes : ByteArray} {maxL : Nat} {ret : Option FieldType} {rm : Room} {len W : Nat} {as' : Array Value} {Q : Option Value → Heap → List Loc → Prop}
    (hM : Meets1 l y bytes maxL ret [] rm as' Z h Q) (hZ : Z.Warmed39 s.vm) (wc : (Jvm.Cond.code y bytes maxL ret).before a0 Z = true) (wz : (Jvm.Cond.initialized y.cls).before a0 Z = true) (hf : rm.frames + 1 ≤ R.frames) (hl : W + (maxL + 11) + rm.locals ≤ R.locals) :
    Back l R p e below s args y len W (fun A a => a = as' ∧ A.U.heap = h ∧ A.cells + rm.cells ≤ R.cells ∧ A.slots + rm.slots ≤ R.slots)
      (fun A _ v B => ∃ L, Q v B.U.heap L ∧ B.locs = A.locs ++ L ∧ B.cells = A.cells + rm.cells ∧ B.slots = A.slots + rm.slots) := backOf (Q := Q) hM hZ wc wz hf hl
theorem own_old_le {Z : State} {n0 : Nat} {h : Heap} (O : Old Z n0 h) : n0 ≤ h.size := O.1 ▸ O.2.1
theorem own_eqI {args : Array Value} {s : State} {t : Term} {k : Int32} (h : (Jvm.Cond.eq t (.int k)).value args s none s [] = some true) : t.eval args s none [] s = some (.int k) := by
  cases ht : t.eval args s none [] s with
  | none => simp [Cond.value, ht] at h
  | some x => cases x <;> simp_all [Cond.value, Term.eval]
def StrA (Z : State) (h : Heap) (x t : Addr) (k : ClassId) (cs : List Int32) (N : Int32) (vs : List Value) : Prop :=
  Exa Z h x "java/lang/String" ∧ Fld Z h x "java/lang/String" "value" "[B" (.ref t) ∧ Fld Z h x "java/lang/String" "coder" "B" (.int (0 : Int32)) ∧ Arv Z h t k .byte N vs (.int (0 : Int32)) ∧
  StrChars.Road.CodA cs 0 N vs ∧ (∀ c ∈ cs, ¬ c < 0 ∧ ¬ (65535 : Int32) < c) ∧ cs.length ≤ 4000
theorem own_narc {r : Int32} (h : ¬ r < 0 ∧ ¬ (255 : Int32) < r) : nar .char r = r := by
  have a1 : ¬ r.toInt < 0 := fun q => h.1 (Int32.lt_iff_toInt_lt.mpr q)
  have a2 : ¬ 255 < r.toInt := fun q => h.2 (Int32.lt_iff_toInt_lt.mpr q)
  have a3 := c_i2c r
  exact Int32.toInt_inj.mp (by show r.toUInt32.toUInt16.toUInt32.toInt32.toInt = r.toInt; omega)
theorem own_narb {r : Int32} : nar .byte (r.toInt8.toInt32) = r.toInt8.toInt32 := by
  have a1 := c_i2b r
  have a2 := c_i2b r.toInt8.toInt32
  exact Int32.toInt_inj.mp (by show r.toInt8.toInt32.toInt8.toInt32.toInt = r.toInt8.toInt32.toInt; omega)
theorem own_c255 (x : Int32) : ¬ ((x &&& (255 : Int32)).toUInt32.toUInt16.toUInt32.toInt32) < 0 ∧ ¬ (255 : Int32) < ((x &&& (255 : Int32)).toUInt32.toUInt16.toUInt32.toInt32) := by
  have h1 : 0 ≤ (x &&& (255 : Int32)).toInt ∧ (x &&& (255 : Int32)).toInt ≤ 255 := c_and x 255 (by decide)
  have h2 := c_i2c (x &&& (255 : Int32))
  generalize hw : (x &&& (255 : Int32)).toUInt32.toUInt16.toUInt32.toInt32 = w at *
  constructor
  · intro q
    have q' : w.toInt < 0 := Int32.lt_iff_toInt_lt.mp q
    omega
  · intro q
    have q' : 255 < w.toInt := Int32.lt_iff_toInt_lt.mp q
    omega
theorem own_up (cs : List Int32) (h : ∀ c ∈ cs, ¬ c < 0 ∧ ¬ (255 : Int32) < c) : ∀ c ∈ cs, ¬ c < 0 ∧ ¬ (65535 : Int32) < c := fun c hc => ⟨(h c hc).1, fun q => (h c hc).2 (by rw [Int32.lt_iff_toInt_lt] at q ⊢; have e1 : (65535 : Int32).toInt = 65535 := rfl; have e2 : (255 : Int32).toInt = 255 := rfl; omega)⟩
theorem own_one {c0 : Int32} (h : ¬ c0 < 0 ∧ ¬ (255 : Int32) < c0) : ∀ c ∈ ([c0] : List Int32), ¬ c < 0 ∧ ¬ (255 : Int32) < c := fun c hc => by cases List.mem_singleton.mp hc; exact h
theorem own_notsub {Z : State} {a0 : Array Value} {C O K : String} {n : Nat} (w : (Jvm.Cond.superclass C O).before a0 Z = true) (wo : (Jvm.Cond.noSuperclass O).before a0 Z = true) (wk : (Jvm.Cond.instantiable K n).before a0 Z = true) (hn : C ≠ K := by decide) (ho : O ≠ K := by decide) :
    ∃ c t, Z.vm.findClass C = some c ∧ Z.vm.findClass K = some t ∧ Z.vm.assignable c t = false := by
  obtain ⟨t, kt, g1, g2, g3, g4, -, -⟩ := Cond.instantiable_spec (show (Jvm.Cond.instantiable K n).holds a0 Z none Z [] = true from wk)
  obtain ⟨co, ko, o1, o2, o3, -, -⟩ := Cond.noSuperclass_spec wo
  obtain ⟨c, h0⟩ := found_sup w
  obtain ⟨po, k, kp, h1, h2, h3, h4, h5, -, h7⟩ := Cond.superclass_spec h0 w
  obtain rfl : co = po := Option.some.inj (o1.symm.trans h1)
  have ne := ids_ne h0 g1 hn
  have neo := ids_ne o1 g1 ho
  have q1 : ∀ fuel, Z.vm.isSubclassAux fuel co t = false := fun fuel => by
    cases fuel with
    | zero => rfl
    | succ f => simp [Vm.isSubclassAux, neo, o2, o3]
  have q2 : ∀ fuel, Z.vm.isSubclassAux fuel c t = false := fun fuel => by
    cases fuel with
    | zero => rfl
    | succ f => simp [Vm.isSubclassAux, ne, h2, h4, q1]
  simp only [Bool.or_eq_false_iff] at g4
  refine ⟨c, t, h0, g1, ?_⟩
  show Z.vm.assignableAux (255 + 1) c t = false
  simp [Vm.assignableAux, ne, h2, g2, h5, g3, g4.1, Vm.isSubclass, q2]
theorem own_same {r ex : Int32} {P : Prop} (h : (r = 1 ∧ P) ∨ (r = 0 ∧ ¬ P)) (k : (ex = 1 ∧ P) ∨ (ex = 0 ∧ ¬ P)) : r = ex := by
  rcases h with ⟨rfl, a⟩ | ⟨rfl, a⟩ <;> rcases k with ⟨rfl, b⟩ | ⟨rfl, b⟩ <;> first | rfl | exact absurd a b | exact absurd b a
theorem own_yes {r : Int32} {P : Prop} (h : (r = 1 ∧ P) ∨ (r = 0 ∧ ¬ P)) (p : P) : ¬ r = 0 := by
  rcases h with ⟨rfl, a⟩ | ⟨rfl, a⟩
  · decide
  · exact absurd p a
theorem own_flip {ex : Int32} {ca cb : List Int32} {x1 x2 x3 x4 x5 x6 y1 y2 y3 y4 y5 y6 : Int32} (h : (ex = 1 ∧ ca = cb ∧ x1 = y1 ∧ x2 = y2 ∧ x3 = y3 ∧ x4 = y4 ∧ x5 = y5 ∧ x6 = y6) ∨ (ex = 0 ∧ ¬ (ca = cb ∧ x1 = y1 ∧ x2 = y2 ∧ x3 = y3 ∧ x4 = y4 ∧ x5 = y5 ∧ x6 = y6))) : (ex = 1 ∧ cb = ca ∧ y1 = x1 ∧ y2 = x2 ∧ y3 = x3 ∧ y4 = x4 ∧ y5 = x5 ∧ y6 = x6) ∨ (ex = 0 ∧ ¬ (cb = ca ∧ y1 = x1 ∧ y2 = x2 ∧ y3 = x3 ∧ y4 = x4 ∧ y5 = x5 ∧ y6 = x6)) := by
  rcases h with ⟨a, b0, b1, b2, b3, b4, b5, b6⟩ | ⟨a, b⟩
  · exact Or.inl ⟨a, b0.symm, b1.symm, b2.symm, b3.symm, b4.symm, b5.symm, b6.symm⟩
  · exact Or.inr ⟨a, fun ⟨b0, b1, b2, b3, b4, b5, b6⟩ => b ⟨b0.symm, b1.symm, b2.symm, b3.symm, b4.symm, b5.symm, b6.symm⟩⟩
theorem own_tx1 {tx : Int32} {P : Prop} (h : (tx = 1 ∧ P) ∨ (tx = 0 ∧ ¬ P)) (k : ¬ tx = 0) : P := h.elim (fun q => q.2) (fun q => absurd q.1 k)
theorem own_tx0 {tx : Int32} {P : Prop} (h : (tx = 1 ∧ P) ∨ (tx = 0 ∧ ¬ P)) (k : tx = 0) : ¬ P := h.elim (fun q => by rw [q.1] at k; exact absurd k (by decide)) (fun q => q.2)
theorem own_add0 {f d : Int32} (h : d = 0) : f = f + d := by rw [h]; exact (Int32.add_zero f).symm
theorem own_addne {f d : Int32} (h : ¬ d = 0) : ¬ f = f + d := fun q => h (by
  have a := congrArg Int32.toInt q
  have b := c_iadd f d
  have c := rng32 d
  exact Int32.toInt_inj.mp (by show d.toInt = 0; omega))
theorem own_k (p0 i : Int32) (h : (((p0.toUInt32 >>> ((2 : Int32) &&& 31).toUInt32).toInt32) &&& (7 : Int32)) = i) : i = 0 ∨ i = 1 ∨ i = 2 ∨ i = 3 ∨ i = 4 ∨ i = 5 ∨ i = 6 ∨ i = 7 := by
  have h1 : 0 ≤ (((p0.toUInt32 >>> ((2 : Int32) &&& 31).toUInt32).toInt32) &&& (7 : Int32)).toInt ∧ (((p0.toUInt32 >>> ((2 : Int32) &&& 31).toUInt32).toInt32) &&& (7 : Int32)).toInt ≤ 7 := c_and _ 7 (by decide)
  rw [h] at h1
  have h3 : i.toInt = 0 ∨ i.toInt = 1 ∨ i.toInt = 2 ∨ i.toInt = 3 ∨ i.toInt = 4 ∨ i.toInt = 5 ∨ i.toInt = 6 ∨ i.toInt = 7 := by omega
  rcases h3 with q | q | q | q | q | q | q | q
  · exact Or.inl (Int32.toInt_inj.mp q)
  · exact Or.inr (Or.inl (Int32.toInt_inj.mp q))
  · exact Or.inr (Or.inr (Or.inl (Int32.toInt_inj.mp q)))
  · exact Or.inr (Or.inr (Or.inr (Or.inl (Int32.toInt_inj.mp q))))
  · exact Or.inr (Or.inr (Or.inr (Or.inr (Or.inl (Int32.toInt_inj.mp q)))))
  · exact Or.inr (Or.inr (Or.inr (Or.inr (Or.inr (Or.inl (Int32.toInt_inj.mp q))))))
  · exact Or.inr (Or.inr (Or.inr (Or.inr (Or.inr (Or.inr (Or.inl (Int32.toInt_inj.mp q)))))))
  · exact Or.inr (Or.inr (Or.inr (Or.inr (Or.inr (Or.inr (Or.inr (Int32.toInt_inj.mp q)))))))
theorem own_and3 (p0 i : Int32) (h : (p0 &&& (3 : Int32)) = i) : i = 0 ∨ i = 1 ∨ i = 2 ∨ i = 3 := by
  have h1 : 0 ≤ (p0 &&& (3 : Int32)).toInt ∧ (p0 &&& (3 : Int32)).toInt ≤ 3 := c_and p0 3 (by decide)
  rw [h] at h1
  have h3 : i.toInt = 0 ∨ i.toInt = 1 ∨ i.toInt = 2 ∨ i.toInt = 3 := by omega
  rcases h3 with q | q | q | q
  · exact Or.inl (Int32.toInt_inj.mp q)
  · exact Or.inr (Or.inl (Int32.toInt_inj.mp q))
  · exact Or.inr (Or.inr (Or.inl (Int32.toInt_inj.mp q)))
  · exact Or.inr (Or.inr (Or.inr (Int32.toInt_inj.mp q)))
theorem d7_0 : decode prog_7_method_1_code 0 = .ok (.aload_n 0, 1) := by decide +kernel
theorem d7_1 : decode prog_7_method_1_code 1 = .ok (.invokespecial 1, 3) := by decide +kernel
theorem d7_4 : decode prog_7_method_1_code 4 = .ok (.aload_n 0, 1) := by decide +kernel
theorem d7_5 : decode prog_7_method_1_code 5 = .ok (.aload_n 1, 1) := by decide +kernel
theorem d7_6 : decode prog_7_method_1_code 6 = .ok (.putfield 7, 3) := by decide +kernel
theorem d7_9 : decode prog_7_method_1_code 9 = .ok (.aload_n 0, 1) := by decide +kernel
theorem d7_10 : decode prog_7_method_1_code 10 = .ok (.iload_n 2, 1) := by decide +kernel
theorem d7_11 : decode prog_7_method_1_code 11 = .ok (.putfield 13, 3) := by decide +kernel
theorem d7_14 : decode prog_7_method_1_code 14 = .ok (.aload_n 0, 1) := by decide +kernel
theorem d7_15 : decode prog_7_method_1_code 15 = .ok (.iload_n 3, 1) := by decide +kernel
theorem d7_16 : decode prog_7_method_1_code 16 = .ok (.putfield 17, 3) := by decide +kernel
theorem d7_19 : decode prog_7_method_1_code 19 = .ok (.aload_n 0, 1) := by decide +kernel
theorem d7_20 : decode prog_7_method_1_code 20 = .ok (.iload 4, 2) := by decide +kernel
theorem d7_22 : decode prog_7_method_1_code 22 = .ok (.putfield 20, 3) := by decide +kernel
theorem d7_25 : decode prog_7_method_1_code 25 = .ok (.aload_n 0, 1) := by decide +kernel
theorem d7_26 : decode prog_7_method_1_code 26 = .ok (.iload 5, 2) := by decide +kernel
theorem d7_28 : decode prog_7_method_1_code 28 = .ok (.putfield 23, 3) := by decide +kernel
theorem d7_31 : decode prog_7_method_1_code 31 = .ok (.aload_n 0, 1) := by decide +kernel
theorem d7_32 : decode prog_7_method_1_code 32 = .ok (.iload 6, 2) := by decide +kernel
theorem d7_34 : decode prog_7_method_1_code 34 = .ok (.putfield 26, 3) := by decide +kernel
theorem d7_37 : decode prog_7_method_1_code 37 = .ok (.aload_n 0, 1) := by decide +kernel
theorem d7_38 : decode prog_7_method_1_code 38 = .ok (.iload 7, 2) := by decide +kernel
theorem d7_40 : decode prog_7_method_1_code 40 = .ok (.putfield 29, 3) := by decide +kernel
theorem d7_43 : decode prog_7_method_1_code 43 = .ok (.return_, 1) := by decide +kernel
theorem pn7 : plainName "com/example/authority/authority/UriReference" = true := by first | (simp [plainName, overriddenIn]; done) | decide +kernel
theorem ef7 (m : MethodId) (o0 : Addr) (o1 : Addr) (p2 : Int32) (p3 : Int32) (p4 : Int32) (p5 : Int32) (p6 : Int32) (p7 : Int32) : entryFrame m #[(.ref o0), (.ref o1), (.int p2), (.int p3), (.int p4), (.int p5), (.int p6), (.int p7)] 8 = mkF m 0 #[.val (.ref o0), .val (.ref o1), .val (.int p2), .val (.int p3), .val (.int p4), .val (.int p5), .val (.int p6), .val (.int p7)] [] := by first | (simp [entryFrame, mkF, argsToLocals, Value.category]; done) | rfl
set_option maxRecDepth 65536 in
set_option maxHeartbeats 40000000 in
theorem rmI (l : Launch) (Z : State) (a0 : Array Value) (hw : ∀ d ∈ tables_1, d.before a0 Z = true) (ws : List Jvm.Cond) (n0 : Nat) (h0 : Heap) (O0 : Old Z n0 h0) (o0 : Addr) (o1 : Addr) (p2 : Int32) (p3 : Int32) (p4 : Int32) (p5 : Int32) (p6 : Int32) (p7 : Int32) (g_o0 : n0 ≤ o0) (Ex0 : Exa Z h0 o0 "com/example/authority/authority/UriReference") (F0_mText : Fld Z h0 o0 "com/example/authority/authority/UriReference" "mText" "Ljava/lang/String;" .null) (F0_mSchemeEnd : Fld Z h0 o0 "com/example/authority/authority/UriReference" "mSchemeEnd" "I" (.int (0 : Int32))) (F0_mHostStart : Fld Z h0 o0 "com/example/authority/authority/UriReference" "mHostStart" "I" (.int (0 : Int32))) (F0_mHostEnd : Fld Z h0 o0 "com/example/authority/authority/UriReference" "mHostEnd" "I" (.int (0 : Int32))) (F0_mPathStart : Fld Z h0 o0 "com/example/authority/authority/UriReference" "mPathStart" "I" (.int (0 : Int32))) (F0_mPathEnd : Fld Z h0 o0 "com/example/authority/authority/UriReference" "mPathEnd" "I" (.int (0 : Int32))) (F0_mQueryEnd : Fld Z h0 o0 "com/example/authority/authority/UriReference" "mQueryEnd" "I" (.int (0 : Int32))) :
    Meets1 l (⟨"com/example/authority/authority/UriReference", "<init>", "(Ljava/lang/String;IIIIII)V"⟩ : MethodName) prog_7_method_1_code 8 none ws ({ frames := 1, cells := 0, slots := 0, locals := 12 } : Room) #[(.ref o0), (.ref o1), (.int p2), (.int p3), (.int p4), (.int p5), (.int p6), (.int p7)] Z h0 (fun v h L => v = none ∧ Fr n0 L ∧ Keep h0 h [o0] ∧ Exa Z h o0 "com/example/authority/authority/UriReference" ∧ Fld Z h o0 "com/example/authority/authority/UriReference" "mText" "Ljava/lang/String;" (.ref o1) ∧ Fld Z h o0 "com/example/authority/authority/UriReference" "mSchemeEnd" "I" (.int p2) ∧ Fld Z h o0 "com/example/authority/authority/UriReference" "mHostStart" "I" (.int p3) ∧ Fld Z h o0 "com/example/authority/authority/UriReference" "mHostEnd" "I" (.int p4) ∧ Fld Z h o0 "com/example/authority/authority/UriReference" "mPathStart" "I" (.int p5) ∧ Fld Z h o0 "com/example/authority/authority/UriReference" "mPathEnd" "I" (.int p6) ∧ Fld Z h o0 "com/example/authority/authority/UriReference" "mQueryEnd" "I" (.int p7)) := by
  refine MetFree.of_bodySF (plainFor_of_name pn7) hisR ?_
  intro p e s m args below meth c s₁ Bd hml0 hP hK
  obtain ⟨rfl, hZ, hh⟩ := hP
  have hx := Bd.exec
  have hby := Bd.bytes
  have hml : c.maxLocals = 8 := hml0
  have hown : s.vm.findClass "com/example/authority/authority/UriReference" = some m.cls := findClass_of_methodNamed Bd.named
  have hnm := (name_of_methodNamed Bd.named Bd.method).1
  have X0 : Stand p l e ({ frames := 1, cells := 0, slots := 0, locals := 12 } : Room) s m #[(.ref o0), (.ref o1), (.int p2), (.int p3), (.int p4), (.int p5), (.int p6), (.int p7)] below meth c s₁ [] 0 0 := Stand.of_body Bd
  have e0 : s₁.heap = h0 := by rw [← hh, Bd.state]; rfl
  have N0 := Fr.nil n0
  have Z0 := own_old_le O0
  show Ends p e below s s₁ (entryFrame m #[(.ref o0), (.ref o1), (.int p2), (.int p3), (.int p4), (.int p5), (.int p6), (.int p7)] 8) ({ frames := 1, cells := 0, slots := 0, locals := 12 } : Room).cells ({ frames := 1, cells := 0, slots := 0, locals := 12 } : Room).slots (fun v h L => v = none ∧ Fr n0 L ∧ Keep h0 h [o0] ∧ Exa Z h o0 "com/example/authority/authority/UriReference" ∧ Fld Z h o0 "com/example/authority/authority/UriReference" "mText" "Ljava/lang/String;" (.ref o1) ∧ Fld Z h o0 "com/example/authority/authority/UriReference" "mSchemeEnd" "I" (.int p2) ∧ Fld Z h o0 "com/example/authority/authority/UriReference" "mHostStart" "I" (.int p3) ∧ Fld Z h o0 "com/example/authority/authority/UriReference" "mHostEnd" "I" (.int p4) ∧ Fld Z h o0 "com/example/authority/authority/UriReference" "mPathStart" "I" (.int p5) ∧ Fld Z h o0 "com/example/authority/authority/UriReference" "mPathEnd" "I" (.int p6) ∧ Fld Z h o0 "com/example/authority/authority/UriReference" "mQueryEnd" "I" (.int p7))
  refine Ends.go (fun _ k => castTop (ef7 m o0 o1 p2 p3 p4 p5 p6 p7) k) ?_
  have K0 := Keep.refl h0 [o0]
  show Ends p e below s s₁ (mkF m 0 #[.val (.ref o0), .val (.ref o1), .val (.int p2), .val (.int p3), .val (.int p4), .val (.int p5), .val (.int p6), .val (.int p7)] []) _ _ _
  refine Ends.go (fun _ k => XS.aloadN X0.here hx rfl (hb hby d7_0) rfl rfl k) ?_
  show Ends p e below s s₁ (mkF m 1 #[.val (.ref o0), .val (.ref o1), .val (.int p2), .val (.int p3), .val (.int p4), .val (.int p5), .val (.int p6), .val (.int p7)] [(.ref o0)]) _ _ _
  obtain ⟨T1, X1, e1, st1⟩ := initO X0 hx hZ hown (hw _ (List.mem_of_getElem? (i := 37) rfl)) (hw _ (List.mem_of_getElem? (i := 12) rfl)) (hw _ (List.mem_of_getElem? (i := 13) rfl)) e0 (g := (mkF m 1 #[.val (.ref o0), .val (.ref o1), .val (.int p2), .val (.int p3), .val (.int p4), .val (.int p5), .val (.int p6), .val (.int p7)] [(.ref o0)])) rfl (by rw [hml]; rfl) rfl (hb hby d7_1) (by decide) (W := 0) (by show 2 * 0 + _ ≤ _; exact Nat.le_of_eq rfl) (by decide)
  refine Ends.go st1 ?_
  show Ends p e below s T1 (mkF m 4 #[.val (.ref o0), .val (.ref o1), .val (.int p2), .val (.int p3), .val (.int p4), .val (.int p5), .val (.int p6), .val (.int p7)] []) _ _ _
  refine Ends.go (fun _ k => XS.aloadN X1.here hx rfl (hb hby d7_4) rfl rfl k) ?_
  show Ends p e below s T1 (mkF m 5 #[.val (.ref o0), .val (.ref o1), .val (.int p2), .val (.int p3), .val (.int p4), .val (.int p5), .val (.int p6), .val (.int p7)] [(.ref o0)]) _ _ _
  refine Ends.go (fun _ k => XS.aloadN X1.here hx rfl (hb hby d7_5) rfl rfl k) ?_
  show Ends p e below s T1 (mkF m 6 #[.val (.ref o0), .val (.ref o1), .val (.int p2), .val (.int p3), .val (.int p4), .val (.int p5), .val (.int p6), .val (.int p7)] [(.ref o1), (.ref o0)]) _ _ _
  obtain ⟨T2, h2, X2, e2, W2, st2⟩ := putF X1 hx hZ hown (host := "") (Or.inl (hw _ (List.mem_of_getElem? (i := 38) rfl))) Via.refl e1 F0_mText Ex0 (Or.inr ⟨(hw _ (List.mem_of_getElem? (i := 39) rfl)), rfl, hnm⟩) (hw _ (List.mem_of_getElem? (i := 32) rfl)) (ty := (.object "java/lang/String")) (by decide) rfl rfl (g := (mkF m 6 #[.val (.ref o0), .val (.ref o1), .val (.int p2), .val (.int p3), .val (.int p4), .val (.int p5), .val (.int p6), .val (.int p7)] [(.ref o1), (.ref o0)])) rfl rfl (hb hby d7_6)
  refine Ends.go st2 ?_
  have Fw2 := F0_mText.same W2
  have K2 := K0.wr W2 (Or.inl (List.mem_of_getElem? (i := 0) rfl))
  have O2 := O0.wr W2 g_o0
  have N2 := Fr.snoc X2 N0 g_o0
  show Ends p e below s T2 (mkF m 9 #[.val (.ref o0), .val (.ref o1), .val (.int p2), .val (.int p3), .val (.int p4), .val (.int p5), .val (.int p6), .val (.int p7)] []) _ _ _
  refine Ends.go (fun _ k => XS.aloadN X2.here hx rfl (hb hby d7_9) rfl rfl k) ?_
  show Ends p e below s T2 (mkF m 10 #[.val (.ref o0), .val (.ref o1), .val (.int p2), .val (.int p3), .val (.int p4), .val (.int p5), .val (.int p6), .val (.int p7)] [(.ref o0)]) _ _ _
  refine Ends.go (fun _ k => XS.iloadN X2.here hx rfl (hb hby d7_10) rfl k) ?_
  show Ends p e below s T2 (mkF m 11 #[.val (.ref o0), .val (.ref o1), .val (.int p2), .val (.int p3), .val (.int p4), .val (.int p5), .val (.int p6), .val (.int p7)] [(.int p2), (.ref o0)]) _ _ _
  obtain ⟨T3, h3, X3, e3, W3, st3⟩ := putF X2 hx hZ hown (host := "") (Or.inl (hw _ (List.mem_of_getElem? (i := 40) rfl))) Via.refl e2 (F0_mSchemeEnd.other W2 (Or.inr (slot_ne (Or.inr (hw _ (List.mem_of_getElem? (i := 41) rfl))) (Or.inr (hw _ (List.mem_of_getElem? (i := 39) rfl))) (by decide) (t := .int) (t' := (.object "java/lang/String")) (by decide) (by decide)))) (Ex0.wr W2) (Or.inr ⟨(hw _ (List.mem_of_getElem? (i := 41) rfl)), rfl, hnm⟩) (hw _ (List.mem_of_getElem? (i := 32) rfl)) (ty := .int) (by decide) rfl rfl (g := (mkF m 11 #[.val (.ref o0), .val (.ref o1), .val (.int p2), .val (.int p3), .val (.int p4), .val (.int p5), .val (.int p6), .val (.int p7)] [(.int p2), (.ref o0)])) rfl rfl (hb hby d7_11)
  refine Ends.go st3 ?_
  have Fw3 := (F0_mSchemeEnd.other W2 (Or.inr (slot_ne (Or.inr (hw _ (List.mem_of_getElem? (i := 41) rfl))) (Or.inr (hw _ (List.mem_of_getElem? (i := 39) rfl))) (by decide) (t := .int) (t' := (.object "java/lang/String")) (by decide) (by decide)))).same W3
  have K3 := K2.wr W3 (Or.inl (List.mem_of_getElem? (i := 0) rfl))
  have O3 := O2.wr W3 g_o0
  have N3 := Fr.snoc X3 N2 g_o0
  show Ends p e below s T3 (mkF m 14 #[.val (.ref o0), .val (.ref o1), .val (.int p2), .val (.int p3), .val (.int p4), .val (.int p5), .val (.int p6), .val (.int p7)] []) _ _ _
  refine Ends.go (fun _ k => XS.aloadN X3.here hx rfl (hb hby d7_14) rfl rfl k) ?_
  show Ends p e below s T3 (mkF m 15 #[.val (.ref o0), .val (.ref o1), .val (.int p2), .val (.int p3), .val (.int p4), .val (.int p5), .val (.int p6), .val (.int p7)] [(.ref o0)]) _ _ _
  refine Ends.go (fun _ k => XS.iloadN X3.here hx rfl (hb hby d7_15) rfl k) ?_
  show Ends p e below s T3 (mkF m 16 #[.val (.ref o0), .val (.ref o1), .val (.int p2), .val (.int p3), .val (.int p4), .val (.int p5), .val (.int p6), .val (.int p7)] [(.int p3), (.ref o0)]) _ _ _
  obtain ⟨T4, h4, X4, e4, W4, st4⟩ := putF X3 hx hZ hown (host := "") (Or.inl (hw _ (List.mem_of_getElem? (i := 42) rfl))) Via.refl e3 ((F0_mHostStart.other W2 (Or.inr (slot_ne (Or.inr (hw _ (List.mem_of_getElem? (i := 43) rfl))) (Or.inr (hw _ (List.mem_of_getElem? (i := 39) rfl))) (by decide) (t := .int) (t' := (.object "java/lang/String")) (by decide) (by decide)))).other W3 (Or.inr (slot_ne (Or.inr (hw _ (List.mem_of_getElem? (i := 43) rfl))) (Or.inr (hw _ (List.mem_of_getElem? (i := 41) rfl))) (by decide) (t := .int) (t' := .int) (by decide) (by decide)))) ((Ex0.wr W2).wr W3) (Or.inr ⟨(hw _ (List.mem_of_getElem? (i := 43) rfl)), rfl, hnm⟩) (hw _ (List.mem_of_getElem? (i := 32) rfl)) (ty := .int) (by decide) rfl rfl (g := (mkF m 16 #[.val (.ref o0), .val (.ref o1), .val (.int p2), .val (.int p3), .val (.int p4), .val (.int p5), .val (.int p6), .val (.int p7)] [(.int p3), (.ref o0)])) rfl rfl (hb hby d7_16)
  refine Ends.go st4 ?_
  have Fw4 := ((F0_mHostStart.other W2 (Or.inr (slot_ne (Or.inr (hw _ (List.mem_of_getElem? (i := 43) rfl))) (Or.inr (hw _ (List.mem_of_getElem? (i := 39) rfl))) (by decide) (t := .int) (t' := (.object "java/lang/String")) (by decide) (by decide)))).other W3 (Or.inr (slot_ne (Or.inr (hw _ (List.mem_of_getElem? (i := 43) rfl))) (Or.inr (hw _ (List.mem_of_getElem? (i := 41) rfl))) (by decide) (t := .int) (t' := .int) (by decide) (by decide)))).same W4
  have K4 := K3.wr W4 (Or.inl (List.mem_of_getElem? (i := 0) rfl))
  have O4 := O3.wr W4 g_o0
  have N4 := Fr.snoc X4 N3 g_o0
  show Ends p e below s T4 (mkF m 19 #[.val (.ref o0), .val (.ref o1), .val (.int p2), .val (.int p3), .val (.int p4), .val (.int p5), .val (.int p6), .val (.int p7)] []) _ _ _
  refine Ends.go (fun _ k => XS.aloadN X4.here hx rfl (hb hby d7_19) rfl rfl k) ?_
  show Ends p e below s T4 (mkF m 20 #[.val (.ref o0), .val (.ref o1), .val (.int p2), .val (.int p3), .val (.int p4), .val (.int p5), .val (.int p6), .val (.int p7)] [(.ref o0)]) _ _ _
  refine Ends.go (fun _ k => XS.iload X4.here hx rfl (hb hby d7_20) rfl k) ?_
  show Ends p e below s T4 (mkF m 22 #[.val (.ref o0), .val (.ref o1), .val (.int p2), .val (.int p3), .val (.int p4), .val (.int p5), .val (.int p6), .val (.int p7)] [(.int p4), (.ref o0)]) _ _ _
  obtain ⟨T5, h5, X5, e5, W5, st5⟩ := putF X4 hx hZ hown (host := "") (Or.inl (hw _ (List.mem_of_getElem? (i := 44) rfl))) Via.refl e4 (((F0_mHostEnd.other W2 (Or.inr (slot_ne (Or.inr (hw _ (List.mem_of_getElem? (i := 45) rfl))) (Or.inr (hw _ (List.mem_of_getElem? (i := 39) rfl))) (by decide) (t := .int) (t' := (.object "java/lang/String")) (by decide) (by decide)))).other W3 (Or.inr (slot_ne (Or.inr (hw _ (List.mem_of_getElem? (i := 45) rfl))) (Or.inr (hw _ (List.mem_of_getElem? (i := 41) rfl))) (by decide) (t := .int) (t' := .int) (by decide) (by decide)))).other W4 (Or.inr (slot_ne (Or.inr (hw _ (List.mem_of_getElem? (i := 45) rfl))) (Or.inr (hw _ (List.mem_of_getElem? (i := 43) rfl))) (by decide) (t := .int) (t' := .int) (by decide) (by decide)))) (((Ex0.wr W2).wr W3).wr W4) (Or.inr ⟨(hw _ (List.mem_of_getElem? (i := 45) rfl)), rfl, hnm⟩) (hw _ (List.mem_of_getElem? (i := 32) rfl)) (ty := .int) (by decide) rfl rfl (g := (mkF m 22 #[.val (.ref o0), .val (.ref o1), .val (.int p2), .val (.int p3), .val (.int p4), .val (.int p5), .val (.int p6), .val (.int p7)] [(.int p4), (.ref o0)])) rfl rfl (hb hby d7_22)
  refine Ends.go st5 ?_
  have Fw5 := (((F0_mHostEnd.other W2 (Or.inr (slot_ne (Or.inr (hw _ (List.mem_of_getElem? (i := 45) rfl))) (Or.inr (hw _ (List.mem_of_getElem? (i := 39) rfl))) (by decide) (t := .int) (t' := (.object "java/lang/String")) (by decide) (by decide)))).other W3 (Or.inr (slot_ne (Or.inr (hw _ (List.mem_of_getElem? (i := 45) rfl))) (Or.inr (hw _ (List.mem_of_getElem? (i := 41) rfl))) (by decide) (t := .int) (t' := .int) (by decide) (by decide)))).other W4 (Or.inr (slot_ne (Or.inr (hw _ (List.mem_of_getElem? (i := 45) rfl))) (Or.inr (hw _ (List.mem_of_getElem? (i := 43) rfl))) (by decide) (t := .int) (t' := .int) (by decide) (by decide)))).same W5
  have K5 := K4.wr W5 (Or.inl (List.mem_of_getElem? (i := 0) rfl))
  have O5 := O4.wr W5 g_o0
  have N5 := Fr.snoc X5 N4 g_o0
  show Ends p e below s T5 (mkF m 25 #[.val (.ref o0), .val (.ref o1), .val (.int p2), .val (.int p3), .val (.int p4), .val (.int p5), .val (.int p6), .val (.int p7)] []) _ _ _
  refine Ends.go (fun _ k => XS.aloadN X5.here hx rfl (hb hby d7_25) rfl rfl k) ?_
  show Ends p e below s T5 (mkF m 26 #[.val (.ref o0), .val (.ref o1), .val (.int p2), .val (.int p3), .val (.int p4), .val (.int p5), .val (.int p6), .val (.int p7)] [(.ref o0)]) _ _ _
  refine Ends.go (fun _ k => XS.iload X5.here hx rfl (hb hby d7_26) rfl k) ?_
  show Ends p e below s T5 (mkF m 28 #[.val (.ref o0), .val (.ref o1), .val (.int p2), .val (.int p3), .val (.int p4), .val (.int p5), .val (.int p6), .val (.int p7)] [(.int p5), (.ref o0)]) _ _ _
  obtain ⟨T6, h6, X6, e6, W6, st6⟩ := putF X5 hx hZ hown (host := "") (Or.inl (hw _ (List.mem_of_getElem? (i := 46) rfl))) Via.refl e5 ((((F0_mPathStart.other W2 (Or.inr (slot_ne (Or.inr (hw _ (List.mem_of_getElem? (i := 47) rfl))) (Or.inr (hw _ (List.mem_of_getElem? (i := 39) rfl))) (by decide) (t := .int) (t' := (.object "java/lang/String")) (by decide) (by decide)))).other W3 (Or.inr (slot_ne (Or.inr (hw _ (List.mem_of_getElem? (i := 47) rfl))) (Or.inr (hw _ (List.mem_of_getElem? (i := 41) rfl))) (by decide) (t := .int) (t' := .int) (by decide) (by decide)))).other W4 (Or.inr (slot_ne (Or.inr (hw _ (List.mem_of_getElem? (i := 47) rfl))) (Or.inr (hw _ (List.mem_of_getElem? (i := 43) rfl))) (by decide) (t := .int) (t' := .int) (by decide) (by decide)))).other W5 (Or.inr (slot_ne (Or.inr (hw _ (List.mem_of_getElem? (i := 47) rfl))) (Or.inr (hw _ (List.mem_of_getElem? (i := 45) rfl))) (by decide) (t := .int) (t' := .int) (by decide) (by decide)))) ((((Ex0.wr W2).wr W3).wr W4).wr W5) (Or.inr ⟨(hw _ (List.mem_of_getElem? (i := 47) rfl)), rfl, hnm⟩) (hw _ (List.mem_of_getElem? (i := 32) rfl)) (ty := .int) (by decide) rfl rfl (g := (mkF m 28 #[.val (.ref o0), .val (.ref o1), .val (.int p2), .val (.int p3), .val (.int p4), .val (.int p5), .val (.int p6), .val (.int p7)] [(.int p5), (.ref o0)])) rfl rfl (hb hby d7_28)
  refine Ends.go st6 ?_
  have Fw6 := ((((F0_mPathStart.other W2 (Or.inr (slot_ne (Or.inr (hw _ (List.mem_of_getElem? (i := 47) rfl))) (Or.inr (hw _ (List.mem_of_getElem? (i := 39) rfl))) (by decide) (t := .int) (t' := (.object "java/lang/String")) (by decide) (by decide)))).other W3 (Or.inr (slot_ne (Or.inr (hw _ (List.mem_of_getElem? (i := 47) rfl))) (Or.inr (hw _ (List.mem_of_getElem? (i := 41) rfl))) (by decide) (t := .int) (t' := .int) (by decide) (by decide)))).other W4 (Or.inr (slot_ne (Or.inr (hw _ (List.mem_of_getElem? (i := 47) rfl))) (Or.inr (hw _ (List.mem_of_getElem? (i := 43) rfl))) (by decide) (t := .int) (t' := .int) (by decide) (by decide)))).other W5 (Or.inr (slot_ne (Or.inr (hw _ (List.mem_of_getElem? (i := 47) rfl))) (Or.inr (hw _ (List.mem_of_getElem? (i := 45) rfl))) (by decide) (t := .int) (t' := .int) (by decide) (by decide)))).same W6
  have K6 := K5.wr W6 (Or.inl (List.mem_of_getElem? (i := 0) rfl))
  have O6 := O5.wr W6 g_o0
  have N6 := Fr.snoc X6 N5 g_o0
  show Ends p e below s T6 (mkF m 31 #[.val (.ref o0), .val (.ref o1), .val (.int p2), .val (.int p3), .val (.int p4), .val (.int p5), .val (.int p6), .val (.int p7)] []) _ _ _
  refine Ends.go (fun _ k => XS.aloadN X6.here hx rfl (hb hby d7_31) rfl rfl k) ?_
  show Ends p e below s T6 (mkF m 32 #[.val (.ref o0), .val (.ref o1), .val (.int p2), .val (.int p3), .val (.int p4), .val (.int p5), .val (.int p6), .val (.int p7)] [(.ref o0)]) _ _ _
  refine Ends.go (fun _ k => XS.iload X6.here hx rfl (hb hby d7_32) rfl k) ?_
  show Ends p e below s T6 (mkF m 34 #[.val (.ref o0), .val (.ref o1), .val (.int p2), .val (.int p3), .val (.int p4), .val (.int p5), .val (.int p6), .val (.int p7)] [(.int p6), (.ref o0)]) _ _ _
  obtain ⟨T7, h7, X7, e7, W7, st7⟩ := putF X6 hx hZ hown (host := "") (Or.inl (hw _ (List.mem_of_getElem? (i := 48) rfl))) Via.refl e6 (((((F0_mPathEnd.other W2 (Or.inr (slot_ne (Or.inr (hw _ (List.mem_of_getElem? (i := 49) rfl))) (Or.inr (hw _ (List.mem_of_getElem? (i := 39) rfl))) (by decide) (t := .int) (t' := (.object "java/lang/String")) (by decide) (by decide)))).other W3 (Or.inr (slot_ne (Or.inr (hw _ (List.mem_of_getElem? (i := 49) rfl))) (Or.inr (hw _ (List.mem_of_getElem? (i := 41) rfl))) (by decide) (t := .int) (t' := .int) (by decide) (by decide)))).other W4 (Or.inr (slot_ne (Or.inr (hw _ (List.mem_of_getElem? (i := 49) rfl))) (Or.inr (hw _ (List.mem_of_getElem? (i := 43) rfl))) (by decide) (t := .int) (t' := .int) (by decide) (by decide)))).other W5 (Or.inr (slot_ne (Or.inr (hw _ (List.mem_of_getElem? (i := 49) rfl))) (Or.inr (hw _ (List.mem_of_getElem? (i := 45) rfl))) (by decide) (t := .int) (t' := .int) (by decide) (by decide)))).other W6 (Or.inr (slot_ne (Or.inr (hw _ (List.mem_of_getElem? (i := 49) rfl))) (Or.inr (hw _ (List.mem_of_getElem? (i := 47) rfl))) (by decide) (t := .int) (t' := .int) (by decide) (by decide)))) (((((Ex0.wr W2).wr W3).wr W4).wr W5).wr W6) (Or.inr ⟨(hw _ (List.mem_of_getElem? (i := 49) rfl)), rfl, hnm⟩) (hw _ (List.mem_of_getElem? (i := 32) rfl)) (ty := .int) (by decide) rfl rfl (g := (mkF m 34 #[.val (.ref o0), .val (.ref o1), .val (.int p2), .val (.int p3), .val (.int p4), .val (.int p5), .val (.int p6), .val (.int p7)] [(.int p6), (.ref o0)])) rfl rfl (hb hby d7_34)
  refine Ends.go st7 ?_
  have Fw7 := (((((F0_mPathEnd.other W2 (Or.inr (slot_ne (Or.inr (hw _ (List.mem_of_getElem? (i := 49) rfl))) (Or.inr (hw _ (List.mem_of_getElem? (i := 39) rfl))) (by decide) (t := .int) (t' := (.object "java/lang/String")) (by decide) (by decide)))).other W3 (Or.inr (slot_ne (Or.inr (hw _ (List.mem_of_getElem? (i := 49) rfl))) (Or.inr (hw _ (List.mem_of_getElem? (i := 41) rfl))) (by decide) (t := .int) (t' := .int) (by decide) (by decide)))).other W4 (Or.inr (slot_ne (Or.inr (hw _ (List.mem_of_getElem? (i := 49) rfl))) (Or.inr (hw _ (List.mem_of_getElem? (i := 43) rfl))) (by decide) (t := .int) (t' := .int) (by decide) (by decide)))).other W5 (Or.inr (slot_ne (Or.inr (hw _ (List.mem_of_getElem? (i := 49) rfl))) (Or.inr (hw _ (List.mem_of_getElem? (i := 45) rfl))) (by decide) (t := .int) (t' := .int) (by decide) (by decide)))).other W6 (Or.inr (slot_ne (Or.inr (hw _ (List.mem_of_getElem? (i := 49) rfl))) (Or.inr (hw _ (List.mem_of_getElem? (i := 47) rfl))) (by decide) (t := .int) (t' := .int) (by decide) (by decide)))).same W7
  have K7 := K6.wr W7 (Or.inl (List.mem_of_getElem? (i := 0) rfl))
  have O7 := O6.wr W7 g_o0
  have N7 := Fr.snoc X7 N6 g_o0
  show Ends p e below s T7 (mkF m 37 #[.val (.ref o0), .val (.ref o1), .val (.int p2), .val (.int p3), .val (.int p4), .val (.int p5), .val (.int p6), .val (.int p7)] []) _ _ _
  refine Ends.go (fun _ k => XS.aloadN X7.here hx rfl (hb hby d7_37) rfl rfl k) ?_
  show Ends p e below s T7 (mkF m 38 #[.val (.ref o0), .val (.ref o1), .val (.int p2), .val (.int p3), .val (.int p4), .val (.int p5), .val (.int p6), .val (.int p7)] [(.ref o0)]) _ _ _
  refine Ends.go (fun _ k => XS.iload X7.here hx rfl (hb hby d7_38) rfl k) ?_
  show Ends p e below s T7 (mkF m 40 #[.val (.ref o0), .val (.ref o1), .val (.int p2), .val (.int p3), .val (.int p4), .val (.int p5), .val (.int p6), .val (.int p7)] [(.int p7), (.ref o0)]) _ _ _
  obtain ⟨T8, h8, X8, e8, W8, st8⟩ := putF X7 hx hZ hown (host := "") (Or.inl (hw _ (List.mem_of_getElem? (i := 50) rfl))) Via.refl e7 ((((((F0_mQueryEnd.other W2 (Or.inr (slot_ne (Or.inr (hw _ (List.mem_of_getElem? (i := 51) rfl))) (Or.inr (hw _ (List.mem_of_getElem? (i := 39) rfl))) (by decide) (t := .int) (t' := (.object "java/lang/String")) (by decide) (by decide)))).other W3 (Or.inr (slot_ne (Or.inr (hw _ (List.mem_of_getElem? (i := 51) rfl))) (Or.inr (hw _ (List.mem_of_getElem? (i := 41) rfl))) (by decide) (t := .int) (t' := .int) (by decide) (by decide)))).other W4 (Or.inr (slot_ne (Or.inr (hw _ (List.mem_of_getElem? (i := 51) rfl))) (Or.inr (hw _ (List.mem_of_getElem? (i := 43) rfl))) (by decide) (t := .int) (t' := .int) (by decide) (by decide)))).other W5 (Or.inr (slot_ne (Or.inr (hw _ (List.mem_of_getElem? (i := 51) rfl))) (Or.inr (hw _ (List.mem_of_getElem? (i := 45) rfl))) (by decide) (t := .int) (t' := .int) (by decide) (by decide)))).other W6 (Or.inr (slot_ne (Or.inr (hw _ (List.mem_of_getElem? (i := 51) rfl))) (Or.inr (hw _ (List.mem_of_getElem? (i := 47) rfl))) (by decide) (t := .int) (t' := .int) (by decide) (by decide)))).other W7 (Or.inr (slot_ne (Or.inr (hw _ (List.mem_of_getElem? (i := 51) rfl))) (Or.inr (hw _ (List.mem_of_getElem? (i := 49) rfl))) (by decide) (t := .int) (t' := .int) (by decide) (by decide)))) ((((((Ex0.wr W2).wr W3).wr W4).wr W5).wr W6).wr W7) (Or.inr ⟨(hw _ (List.mem_of_getElem? (i := 51) rfl)), rfl, hnm⟩) (hw _ (List.mem_of_getElem? (i := 32) rfl)) (ty := .int) (by decide) rfl rfl (g := (mkF m 40 #[.val (.ref o0), .val (.ref o1), .val (.int p2), .val (.int p3), .val (.int p4), .val (.int p5), .val (.int p6), .val (.int p7)] [(.int p7), (.ref o0)])) rfl rfl (hb hby d7_40)
  refine Ends.go st8 ?_
  have Fw8 := ((((((F0_mQueryEnd.other W2 (Or.inr (slot_ne (Or.inr (hw _ (List.mem_of_getElem? (i := 51) rfl))) (Or.inr (hw _ (List.mem_of_getElem? (i := 39) rfl))) (by decide) (t := .int) (t' := (.object "java/lang/String")) (by decide) (by decide)))).other W3 (Or.inr (slot_ne (Or.inr (hw _ (List.mem_of_getElem? (i := 51) rfl))) (Or.inr (hw _ (List.mem_of_getElem? (i := 41) rfl))) (by decide) (t := .int) (t' := .int) (by decide) (by decide)))).other W4 (Or.inr (slot_ne (Or.inr (hw _ (List.mem_of_getElem? (i := 51) rfl))) (Or.inr (hw _ (List.mem_of_getElem? (i := 43) rfl))) (by decide) (t := .int) (t' := .int) (by decide) (by decide)))).other W5 (Or.inr (slot_ne (Or.inr (hw _ (List.mem_of_getElem? (i := 51) rfl))) (Or.inr (hw _ (List.mem_of_getElem? (i := 45) rfl))) (by decide) (t := .int) (t' := .int) (by decide) (by decide)))).other W6 (Or.inr (slot_ne (Or.inr (hw _ (List.mem_of_getElem? (i := 51) rfl))) (Or.inr (hw _ (List.mem_of_getElem? (i := 47) rfl))) (by decide) (t := .int) (t' := .int) (by decide) (by decide)))).other W7 (Or.inr (slot_ne (Or.inr (hw _ (List.mem_of_getElem? (i := 51) rfl))) (Or.inr (hw _ (List.mem_of_getElem? (i := 49) rfl))) (by decide) (t := .int) (t' := .int) (by decide) (by decide)))).same W8
  have K8 := K7.wr W8 (Or.inl (List.mem_of_getElem? (i := 0) rfl))
  have O8 := O7.wr W8 g_o0
  have N8 := Fr.snoc X8 N7 g_o0
  show Ends p e below s T8 (mkF m 43 #[.val (.ref o0), .val (.ref o1), .val (.int p2), .val (.int p3), .val (.int p4), .val (.int p5), .val (.int p6), .val (.int p7)] []) _ _ _
  refine Ends.retV X8 hx Bd.notSynchronized Bd.returns (hb hby d7_43) (by decide) (by decide) ?_
  rw [e8]
  exact ⟨rfl, N8, K8, (((((((Ex0.wr W2).wr W3).wr W4).wr W5).wr W6).wr W7).wr W8), ((((((Fw2.other W3 (Or.inr (slot_ne (Or.inr (hw _ (List.mem_of_getElem? (i := 39) rfl))) (Or.inr (hw _ (List.mem_of_getElem? (i := 41) rfl))) (by decide) (t := (.object "java/lang/String")) (t' := .int) (by decide) (by decide)))).other W4 (Or.inr (slot_ne (Or.inr (hw _ (List.mem_of_getElem? (i := 39) rfl))) (Or.inr (hw _ (List.mem_of_getElem? (i := 43) rfl))) (by decide) (t := (.object "java/lang/String")) (t' := .int) (by decide) (by decide)))).other W5 (Or.inr (slot_ne (Or.inr (hw _ (List.mem_of_getElem? (i := 39) rfl))) (Or.inr (hw _ (List.mem_of_getElem? (i := 45) rfl))) (by decide) (t := (.object "java/lang/String")) (t' := .int) (by decide) (by decide)))).other W6 (Or.inr (slot_ne (Or.inr (hw _ (List.mem_of_getElem? (i := 39) rfl))) (Or.inr (hw _ (List.mem_of_getElem? (i := 47) rfl))) (by decide) (t := (.object "java/lang/String")) (t' := .int) (by decide) (by decide)))).other W7 (Or.inr (slot_ne (Or.inr (hw _ (List.mem_of_getElem? (i := 39) rfl))) (Or.inr (hw _ (List.mem_of_getElem? (i := 49) rfl))) (by decide) (t := (.object "java/lang/String")) (t' := .int) (by decide) (by decide)))).other W8 (Or.inr (slot_ne (Or.inr (hw _ (List.mem_of_getElem? (i := 39) rfl))) (Or.inr (hw _ (List.mem_of_getElem? (i := 51) rfl))) (by decide) (t := (.object "java/lang/String")) (t' := .int) (by decide) (by decide)))), (((((Fw3.other W4 (Or.inr (slot_ne (Or.inr (hw _ (List.mem_of_getElem? (i := 41) rfl))) (Or.inr (hw _ (List.mem_of_getElem? (i := 43) rfl))) (by decide) (t := .int) (t' := .int) (by decide) (by decide)))).other W5 (Or.inr (slot_ne (Or.inr (hw _ (List.mem_of_getElem? (i := 41) rfl))) (Or.inr (hw _ (List.mem_of_getElem? (i := 45) rfl))) (by decide) (t := .int) (t' := .int) (by decide) (by decide)))).other W6 (Or.inr (slot_ne (Or.inr (hw _ (List.mem_of_getElem? (i := 41) rfl))) (Or.inr (hw _ (List.mem_of_getElem? (i := 47) rfl))) (by decide) (t := .int) (t' := .int) (by decide) (by decide)))).other W7 (Or.inr (slot_ne (Or.inr (hw _ (List.mem_of_getElem? (i := 41) rfl))) (Or.inr (hw _ (List.mem_of_getElem? (i := 49) rfl))) (by decide) (t := .int) (t' := .int) (by decide) (by decide)))).other W8 (Or.inr (slot_ne (Or.inr (hw _ (List.mem_of_getElem? (i := 41) rfl))) (Or.inr (hw _ (List.mem_of_getElem? (i := 51) rfl))) (by decide) (t := .int) (t' := .int) (by decide) (by decide)))), ((((Fw4.other W5 (Or.inr (slot_ne (Or.inr (hw _ (List.mem_of_getElem? (i := 43) rfl))) (Or.inr (hw _ (List.mem_of_getElem? (i := 45) rfl))) (by decide) (t := .int) (t' := .int) (by decide) (by decide)))).other W6 (Or.inr (slot_ne (Or.inr (hw _ (List.mem_of_getElem? (i := 43) rfl))) (Or.inr (hw _ (List.mem_of_getElem? (i := 47) rfl))) (by decide) (t := .int) (t' := .int) (by decide) (by decide)))).other W7 (Or.inr (slot_ne (Or.inr (hw _ (List.mem_of_getElem? (i := 43) rfl))) (Or.inr (hw _ (List.mem_of_getElem? (i := 49) rfl))) (by decide) (t := .int) (t' := .int) (by decide) (by decide)))).other W8 (Or.inr (slot_ne (Or.inr (hw _ (List.mem_of_getElem? (i := 43) rfl))) (Or.inr (hw _ (List.mem_of_getElem? (i := 51) rfl))) (by decide) (t := .int) (t' := .int) (by decide) (by decide)))), (((Fw5.other W6 (Or.inr (slot_ne (Or.inr (hw _ (List.mem_of_getElem? (i := 45) rfl))) (Or.inr (hw _ (List.mem_of_getElem? (i := 47) rfl))) (by decide) (t := .int) (t' := .int) (by decide) (by decide)))).other W7 (Or.inr (slot_ne (Or.inr (hw _ (List.mem_of_getElem? (i := 45) rfl))) (Or.inr (hw _ (List.mem_of_getElem? (i := 49) rfl))) (by decide) (t := .int) (t' := .int) (by decide) (by decide)))).other W8 (Or.inr (slot_ne (Or.inr (hw _ (List.mem_of_getElem? (i := 45) rfl))) (Or.inr (hw _ (List.mem_of_getElem? (i := 51) rfl))) (by decide) (t := .int) (t' := .int) (by decide) (by decide)))), ((Fw6.other W7 (Or.inr (slot_ne (Or.inr (hw _ (List.mem_of_getElem? (i := 47) rfl))) (Or.inr (hw _ (List.mem_of_getElem? (i := 49) rfl))) (by decide) (t := .int) (t' := .int) (by decide) (by decide)))).other W8 (Or.inr (slot_ne (Or.inr (hw _ (List.mem_of_getElem? (i := 47) rfl))) (Or.inr (hw _ (List.mem_of_getElem? (i := 51) rfl))) (by decide) (t := .int) (t' := .int) (by decide) (by decide)))), (Fw7.other W8 (Or.inr (slot_ne (Or.inr (hw _ (List.mem_of_getElem? (i := 49) rfl))) (Or.inr (hw _ (List.mem_of_getElem? (i := 51) rfl))) (by decide) (t := .int) (t' := .int) (by decide) (by decide)))), Fw8⟩
theorem d12_0 : decode jdk_43_method_3_code 0 = .ok (.iload_n 0, 1) := by decide +kernel
theorem d12_1 : decode jdk_43_method_3_code 1 = .ok (.sipush 255, 3) := by decide +kernel
theorem d12_4 : decode jdk_43_method_3_code 4 = .ok (.if_icmp .gt 7, 3) := by decide +kernel
theorem d12_7 : decode jdk_43_method_3_code 7 = .ok (.iconst 1, 1) := by decide +kernel
theorem d12_8 : decode jdk_43_method_3_code 8 = .ok (.goto 4, 3) := by decide +kernel
theorem d12_12 : decode jdk_43_method_3_code 12 = .ok (.ireturn, 1) := by decide +kernel
theorem pn12 : plainName "java/lang/StringLatin1" = true := by first | (simp [plainName, overriddenIn]; done) | decide +kernel
theorem ef12 (m : MethodId) (p0 : Int32) : entryFrame m #[(.int p0)] 1 = mkF m 0 #[.val (.int p0)] [] := by first | (simp [entryFrame, mkF, argsToLocals, Value.category]; done) | rfl
set_option maxRecDepth 65536 in
set_option maxHeartbeats 40000000 in
theorem rmC (l : Launch) (Z : State) (a0 : Array Value) (hw : ∀ d ∈ tables_1, d.before a0 Z = true) (ws : List Jvm.Cond) (n0 : Nat) (h0 : Heap) (O0 : Old Z n0 h0) (p0 : Int32) (hp : ¬ p0 < 0 ∧ ¬ (255 : Int32) < p0) :
    Meets1 l (⟨"java/lang/StringLatin1", "canEncode", "(C)Z"⟩ : MethodName) jdk_43_method_3_code 1 (some .boolean) ws ({ frames := 0, cells := 0, slots := 0, locals := 0 } : Room) #[(.int p0)] Z h0 (fun v h L => v = some (.int (1 : Int32)) ∧ Fr n0 L ∧ h = h0) := by
  refine MetFree.of_bodySF (plainFor_of_name pn12) hisR ?_
  intro p e s m args below meth c s₁ Bd hml0 hP hK
  obtain ⟨rfl, hZ, hh⟩ := hP
  have hx := Bd.exec
  have hby := Bd.bytes
  have hml : c.maxLocals = 1 := hml0
  have hown : s.vm.findClass "java/lang/StringLatin1" = some m.cls := findClass_of_methodNamed Bd.named
  have hnm := (name_of_methodNamed Bd.named Bd.method).1
  have X0 : Stand p l e ({ frames := 0, cells := 0, slots := 0, locals := 0 } : Room) s m #[(.int p0)] below meth c s₁ [] 0 0 := Stand.of_body Bd
  have e0 : s₁.heap = h0 := by rw [← hh, Bd.state]; rfl
  have N0 := Fr.nil n0
  have Z0 := own_old_le O0
  show Ends p e below s s₁ (entryFrame m #[(.int p0)] 1) ({ frames := 0, cells := 0, slots := 0, locals := 0 } : Room).cells ({ frames := 0, cells := 0, slots := 0, locals := 0 } : Room).slots (fun v h L => v = some (.int (1 : Int32)) ∧ Fr n0 L ∧ h = h0)
  refine Ends.go (fun _ k => castTop (ef12 m p0) k) ?_
  have K0 := Keep.refl h0 []
  show Ends p e below s s₁ (mkF m 0 #[.val (.int p0)] []) _ _ _
  refine Ends.go (fun _ k => XS.iloadN X0.here hx rfl (hb hby d12_0) rfl k) ?_
  show Ends p e below s s₁ (mkF m 1 #[.val (.int p0)] [(.int p0)]) _ _ _
  refine Ends.go (fun _ k => XS.sipush X0.here hx rfl (hb hby d12_1) k) ?_
  show Ends p e below s s₁ (mkF m 4 #[.val (.int p0)] [(.int (255 : Int32)), (.int p0)]) _ _ _
  refine Ends.go (fun _ k => XS.icmpNo X0.here hx rfl (hb hby d12_4) rfl (flt (hp.2 : ¬ ((255 : Int32) < p0))).2.2.1 k) ?_
  show Ends p e below s s₁ (mkF m 7 #[.val (.int p0)] []) _ _ _
  refine Ends.go (fun _ k => XS.iconst X0.here hx rfl (hb hby d12_7) k) ?_
  show Ends p e below s s₁ (mkF m 8 #[.val (.int p0)] [(.int (1 : Int32))]) _ _ _
  refine Ends.go (fun _ k => XS.goto X0.here hx rfl (pc0 := 8) (pc' := 12) rfl (hb hby d12_8) (by decide) (by decide) k) ?_
  show Ends p e below s s₁ (mkF m 12 #[.val (.int p0)] [(.int (1 : Int32))]) _ _ _
  refine Ends.retZ X0 hx Bd.notSynchronized (t := .boolean) Bd.returns (by simp) (hb hby d12_12) (by decide) (by decide) ?_
  exact ⟨rfl, N0, e0⟩
theorem d13_0 : decode jdk_43_method_46_code 0 = .ok (.iconst 1, 1) := by decide +kernel
theorem d13_1 : decode jdk_43_method_46_code 1 = .ok (.newarray .byte, 2) := by decide +kernel
theorem d13_3 : decode jdk_43_method_46_code 3 = .ok (.dup, 1) := by decide +kernel
theorem d13_4 : decode jdk_43_method_46_code 4 = .ok (.iconst 0, 1) := by decide +kernel
theorem d13_5 : decode jdk_43_method_46_code 5 = .ok (.iload_n 0, 1) := by decide +kernel
theorem d13_6 : decode jdk_43_method_46_code 6 = .ok (.i2b, 1) := by decide +kernel
theorem d13_7 : decode jdk_43_method_46_code 7 = .ok (.bastore, 1) := by decide +kernel
theorem d13_8 : decode jdk_43_method_46_code 8 = .ok (.areturn, 1) := by decide +kernel
theorem pn13 : plainName "java/lang/StringLatin1" = true := by first | (simp [plainName, overriddenIn]; done) | decide +kernel
theorem ef13 (m : MethodId) (p0 : Int32) : entryFrame m #[(.int p0)] 1 = mkF m 0 #[.val (.int p0)] [] := by first | (simp [entryFrame, mkF, argsToLocals, Value.category]; done) | rfl
set_option maxRecDepth 65536 in
set_option maxHeartbeats 40000000 in
theorem rmB (l : Launch) (Z : State) (a0 : Array Value) (hw : ∀ d ∈ tables_1, d.before a0 Z = true) (ws : List Jvm.Cond) (n0 : Nat) (h0 : Heap) (O0 : Old Z n0 h0) (p0 : Int32)  :
    Meets1 l (⟨"java/lang/StringLatin1", "toBytes", "(C)[B"⟩ : MethodName) jdk_43_method_46_code 1 (some (.array .byte)) ws ({ frames := 0, cells := 1, slots := 1, locals := 0 } : Room) #[(.int p0)] Z h0 (fun v h L => ∃ (t : Addr) (kb : ClassId), v = some (.ref t) ∧ Fr n0 L ∧ h0.size ≤ t ∧ Keep h0 h [] ∧ Arv Z h t kb .byte (1 : Int32) [(.int (p0.toInt8.toInt32))] (.int (0 : Int32))) := by
  refine MetFree.of_bodySF (plainFor_of_name pn13) hisR ?_
  intro p e s m args below meth c s₁ Bd hml0 hP hK
  obtain ⟨rfl, hZ, hh⟩ := hP
  have hx := Bd.exec
  have hby := Bd.bytes
  have hml : c.maxLocals = 1 := hml0
  have hown : s.vm.findClass "java/lang/StringLatin1" = some m.cls := findClass_of_methodNamed Bd.named
  have hnm := (name_of_methodNamed Bd.named Bd.method).1
  have X0 : Stand p l e ({ frames := 0, cells := 1, slots := 1, locals := 0 } : Room) s m #[(.int p0)] below meth c s₁ [] 0 0 := Stand.of_body Bd
  have e0 : s₁.heap = h0 := by rw [← hh, Bd.state]; rfl
  have N0 := Fr.nil n0
  have Z0 := own_old_le O0
  show Ends p e below s s₁ (entryFrame m #[(.int p0)] 1) ({ frames := 0, cells := 1, slots := 1, locals := 0 } : Room).cells ({ frames := 0, cells := 1, slots := 1, locals := 0 } : Room).slots (fun v h L => ∃ (t : Addr) (kb : ClassId), v = some (.ref t) ∧ Fr n0 L ∧ h0.size ≤ t ∧ Keep h0 h [] ∧ Arv Z h t kb .byte (1 : Int32) [(.int (p0.toInt8.toInt32))] (.int (0 : Int32)))
  refine Ends.go (fun _ k => castTop (ef13 m p0) k) ?_
  have K0 := Keep.refl h0 []
  show Ends p e below s s₁ (mkF m 0 #[.val (.int p0)] []) _ _ _
  refine Ends.go (fun _ k => XS.iconst X0.here hx rfl (hb hby d13_0) k) ?_
  show Ends p e below s s₁ (mkF m 1 #[.val (.int p0)] [(.int (1 : Int32))]) _ _ _
  obtain ⟨T1, h1, k1, X1, e1, E1, A1, st1⟩ := newP X0 hx hZ (hw _ (List.mem_of_getElem? (i := 19) rfl)) e0 (g := (mkF m 1 #[.val (.int p0)] [(.int (1 : Int32))])) rfl (hb hby d13_1) rfl (by decide) (cap := 1) (by decide) (by decide) (by decide) (by decide)
  obtain ⟨b1, g1⟩ : ∃ z, z = h0.size := ⟨_, rfl⟩
  rw [← g1] at A1 st1
  refine Ends.go st1 ?_
  have g_b1 : n0 ≤ b1 := Nat.le_trans (own_old_le O0) (Nat.le_of_eq g1.symm)
  have sz_b1 : h0.size ≤ b1 := Nat.le_trans K0.1 (Nat.le_of_eq g1.symm)
  have K1 := K0.ext E1
  have O1 := O0.ext E1
  have V_b1 : Arv Z h1 b1 k1 .byte (1 : Int32) [(.int (0 : Int32))] (.int (0 : Int32)) := (Arv.new A1 (by decide)).pad (pad_rep [] (.int (0 : Int32)) 1)
  show Ends p e below s T1 (mkF m 3 #[.val (.int p0)] [(.ref b1)]) _ _ _
  refine Ends.go (fun _ k => XS.dup X1.here hx rfl (hb hby d13_3) rfl rfl k) ?_
  show Ends p e below s T1 (mkF m 4 #[.val (.int p0)] [(.ref b1), (.ref b1)]) _ _ _
  refine Ends.go (fun _ k => XS.iconst X1.here hx rfl (hb hby d13_4) k) ?_
  show Ends p e below s T1 (mkF m 5 #[.val (.int p0)] [(.int (0 : Int32)), (.ref b1), (.ref b1)]) _ _ _
  refine Ends.go (fun _ k => XS.iloadN X1.here hx rfl (hb hby d13_5) rfl k) ?_
  show Ends p e below s T1 (mkF m 6 #[.val (.int p0)] [(.int p0), (.int (0 : Int32)), (.ref b1), (.ref b1)]) _ _ _
  refine Ends.go (fun _ k => XS.i2b X1.here hx rfl (hb hby d13_6) rfl k) ?_
  show Ends p e below s T1 (mkF m 7 #[.val (.int p0)] [(.int (p0.toInt8.toInt32)), (.int (0 : Int32)), (.ref b1), (.ref b1)]) _ _ _
  obtain ⟨cl2, Ar2, q2, S2, M2, H2, G2⟩ := id V_b1
  have hin2 := inb_of (j := (0 : Int32)) S2 ⟨by decide, by decide⟩
  obtain ⟨T2, h2, X2, e2, W2, st2⟩ := stB X1 hx hZ e1 Ar2 (j := (0 : Int32)) hin2 (g := (mkF m 7 #[.val (.int p0)] [(.int (p0.toInt8.toInt32)), (.int (0 : Int32)), (.ref b1), (.ref b1)])) rfl rfl (hb hby d13_7)
  refine Ends.go st2 ?_
  have V2 : Arv Z h2 b1 k1 .byte (1 : Int32) [(.int (nar .byte (p0.toInt8.toInt32)))] (.int (0 : Int32)) := Arv.set Ar2 q2 S2 M2 H2 G2 (fits_nar_byte _) W2 0 rfl (Nat.le_of_ble_eq_true rfl)
  rw [own_narb] at V2
  have K2 := K1.wr W2 (Or.inr sz_b1)
  have O2 := O1.wr W2 g_b1
  have N2 := Fr.snoc X2 N0 g_b1
  show Ends p e below s T2 (mkF m 8 #[.val (.int p0)] [(.ref b1)]) _ _ _
  refine Ends.ret X2 hx Bd.notSynchronized (t := (.array .byte)) Bd.returns rfl (Or.inr (Or.inr (Or.inr (Or.inr ⟨rfl, rfl, rfl⟩)))) (hb hby d13_8) (by decide) (by decide) ?_
  rw [e2]
  exact ⟨b1, k1, rfl, N2, sz_b1, K2, V2⟩
theorem d14_0 : decode jdk_42_method_151_code 0 = .ok (.aload_n 0, 1) := by decide +kernel
theorem d14_1 : decode jdk_42_method_151_code 1 = .ok (.invokespecial 1, 3) := by decide +kernel
theorem d14_4 : decode jdk_42_method_151_code 4 = .ok (.aload_n 0, 1) := by decide +kernel
theorem d14_5 : decode jdk_42_method_151_code 5 = .ok (.aload_n 1, 1) := by decide +kernel
theorem d14_6 : decode jdk_42_method_151_code 6 = .ok (.putfield 9, 3) := by decide +kernel
theorem d14_9 : decode jdk_42_method_151_code 9 = .ok (.aload_n 0, 1) := by decide +kernel
theorem d14_10 : decode jdk_42_method_151_code 10 = .ok (.iload_n 2, 1) := by decide +kernel
theorem d14_11 : decode jdk_42_method_151_code 11 = .ok (.putfield 15, 3) := by decide +kernel
theorem d14_14 : decode jdk_42_method_151_code 14 = .ok (.return_, 1) := by decide +kernel
theorem pn14 : plainName "java/lang/String" = true := by first | (simp [plainName, overriddenIn]; done) | decide +kernel
theorem ef14 (m : MethodId) (o0 : Addr) (o1 : Addr) (p2 : Int32) : entryFrame m #[(.ref o0), (.ref o1), (.int p2)] 3 = mkF m 0 #[.val (.ref o0), .val (.ref o1), .val (.int p2)] [] := by first | (simp [entryFrame, mkF, argsToLocals, Value.category]; done) | rfl
set_option maxRecDepth 65536 in
set_option maxHeartbeats 40000000 in
theorem rmN (l : Launch) (Z : State) (a0 : Array Value) (hw : ∀ d ∈ tables_1, d.before a0 Z = true) (ws : List Jvm.Cond) (n0 : Nat) (h0 : Heap) (O0 : Old Z n0 h0) (o0 : Addr) (o1 : Addr) (p2 : Int32) (hz : p2 = (0 : Int32)) (g_o0 : n0 ≤ o0) (Ex0 : Exa Z h0 o0 "java/lang/String") (F0v : Fld Z h0 o0 "java/lang/String" "value" "[B" .null) (F0c : Fld Z h0 o0 "java/lang/String" "coder" "B" (.int (0 : Int32))) :
    Meets1 l (⟨"java/lang/String", "<init>", "([BB)V"⟩ : MethodName) jdk_42_method_151_code 3 none ws ({ frames := 1, cells := 0, slots := 0, locals := 12 } : Room) #[(.ref o0), (.ref o1), (.int p2)] Z h0 (fun v h L => v = none ∧ Fr n0 L ∧ Keep h0 h [o0] ∧ Exa Z h o0 "java/lang/String" ∧ Fld Z h o0 "java/lang/String" "value" "[B" (.ref o1) ∧ Fld Z h o0 "java/lang/String" "coder" "B" (.int (0 : Int32))) := by
  refine MetFree.of_bodySF (plainFor_of_name pn14) hisR ?_
  intro p e s m args below meth c s₁ Bd hml0 hP hK
  obtain ⟨rfl, hZ, hh⟩ := hP
  have hx := Bd.exec
  have hby := Bd.bytes
  have hml : c.maxLocals = 3 := hml0
  have hown : s.vm.findClass "java/lang/String" = some m.cls := findClass_of_methodNamed Bd.named
  have hnm := (name_of_methodNamed Bd.named Bd.method).1
  have X0 : Stand p l e ({ frames := 1, cells := 0, slots := 0, locals := 12 } : Room) s m #[(.ref o0), (.ref o1), (.int p2)] below meth c s₁ [] 0 0 := Stand.of_body Bd
  have e0 : s₁.heap = h0 := by rw [← hh, Bd.state]; rfl
  have N0 := Fr.nil n0
  have Z0 := own_old_le O0
  show Ends p e below s s₁ (entryFrame m #[(.ref o0), (.ref o1), (.int p2)] 3) ({ frames := 1, cells := 0, slots := 0, locals := 12 } : Room).cells ({ frames := 1, cells := 0, slots := 0, locals := 12 } : Room).slots (fun v h L => v = none ∧ Fr n0 L ∧ Keep h0 h [o0] ∧ Exa Z h o0 "java/lang/String" ∧ Fld Z h o0 "java/lang/String" "value" "[B" (.ref o1) ∧ Fld Z h o0 "java/lang/String" "coder" "B" (.int (0 : Int32)))
  refine Ends.go (fun _ k => castTop (ef14 m o0 o1 p2) k) ?_
  have K0 := Keep.refl h0 [o0]
  show Ends p e below s s₁ (mkF m 0 #[.val (.ref o0), .val (.ref o1), .val (.int p2)] []) _ _ _
  refine Ends.go (fun _ k => XS.aloadN X0.here hx rfl (hb hby d14_0) rfl rfl k) ?_
  show Ends p e below s s₁ (mkF m 1 #[.val (.ref o0), .val (.ref o1), .val (.int p2)] [(.ref o0)]) _ _ _
  obtain ⟨T1, X1, e1, st1⟩ := initO X0 hx hZ hown (hw _ (List.mem_of_getElem? (i := 11) rfl)) (hw _ (List.mem_of_getElem? (i := 12) rfl)) (hw _ (List.mem_of_getElem? (i := 13) rfl)) e0 (g := (mkF m 1 #[.val (.ref o0), .val (.ref o1), .val (.int p2)] [(.ref o0)])) rfl (by rw [hml]; rfl) rfl (hb hby d14_1) (by decide) (W := 0) (by show 2 * 0 + _ ≤ _; exact Nat.le_of_eq rfl) (by decide)
  refine Ends.go st1 ?_
  show Ends p e below s T1 (mkF m 4 #[.val (.ref o0), .val (.ref o1), .val (.int p2)] []) _ _ _
  refine Ends.go (fun _ k => XS.aloadN X1.here hx rfl (hb hby d14_4) rfl rfl k) ?_
  show Ends p e below s T1 (mkF m 5 #[.val (.ref o0), .val (.ref o1), .val (.int p2)] [(.ref o0)]) _ _ _
  refine Ends.go (fun _ k => XS.aloadN X1.here hx rfl (hb hby d14_5) rfl rfl k) ?_
  show Ends p e below s T1 (mkF m 6 #[.val (.ref o0), .val (.ref o1), .val (.int p2)] [(.ref o1), (.ref o0)]) _ _ _
  obtain ⟨T2, h2, X2, e2, W2, st2⟩ := putF X1 hx hZ hown (host := "") (Or.inl (hw _ (List.mem_of_getElem? (i := 28) rfl))) Via.refl e1 F0v Ex0 (Or.inr ⟨(hw _ (List.mem_of_getElem? (i := 29) rfl)), rfl, hnm⟩) (hw _ (List.mem_of_getElem? (i := 1) rfl)) (ty := (.array .byte)) (by decide) rfl rfl (g := (mkF m 6 #[.val (.ref o0), .val (.ref o1), .val (.int p2)] [(.ref o1), (.ref o0)])) rfl rfl (hb hby d14_6)
  refine Ends.go st2 ?_
  have Fw2 := F0v.same W2
  have K2 := K0.wr W2 (Or.inl (List.mem_of_getElem? (i := 0) rfl))
  have O2 := O0.wr W2 g_o0
  have N2 := Fr.snoc X2 N0 g_o0
  show Ends p e below s T2 (mkF m 9 #[.val (.ref o0), .val (.ref o1), .val (.int p2)] []) _ _ _
  refine Ends.go (fun _ k => XS.aloadN X2.here hx rfl (hb hby d14_9) rfl rfl k) ?_
  show Ends p e below s T2 (mkF m 10 #[.val (.ref o0), .val (.ref o1), .val (.int p2)] [(.ref o0)]) _ _ _
  refine Ends.go (fun _ k => XS.iloadN X2.here hx rfl (hb hby d14_10) rfl k) ?_
  show Ends p e below s T2 (mkF m 11 #[.val (.ref o0), .val (.ref o1), .val (.int p2)] [(.int p2), (.ref o0)]) _ _ _
  obtain ⟨T3, h3, X3, e3, W3, st3⟩ := putFN X2 hx hZ hown (hw _ (List.mem_of_getElem? (i := 26) rfl)) Via.refl e2 (F0c.other W2 (Or.inr (slot_ne (Or.inr (hw _ (List.mem_of_getElem? (i := 27) rfl))) (Or.inr (hw _ (List.mem_of_getElem? (i := 29) rfl))) (by decide) (t := .byte) (t' := (.array .byte)) (by decide) (by decide)))) (Ex0.wr W2) (Or.inr ⟨(hw _ (List.mem_of_getElem? (i := 27) rfl)), rfl, hnm⟩) (hw _ (List.mem_of_getElem? (i := 1) rfl)) (ty := .byte) (v' := (.int (0 : Int32))) (by decide) (by rw [hz]; rfl) (by decide) (g := (mkF m 11 #[.val (.ref o0), .val (.ref o1), .val (.int p2)] [(.int p2), (.ref o0)])) rfl rfl (hb hby d14_11)
  refine Ends.go st3 ?_
  have Fw3 := (F0c.other W2 (Or.inr (slot_ne (Or.inr (hw _ (List.mem_of_getElem? (i := 27) rfl))) (Or.inr (hw _ (List.mem_of_getElem? (i := 29) rfl))) (by decide) (t := .byte) (t' := (.array .byte)) (by decide) (by decide)))).same W3
  have K3 := K2.wr W3 (Or.inl (List.mem_of_getElem? (i := 0) rfl))
  have O3 := O2.wr W3 g_o0
  have N3 := Fr.snoc X3 N2 g_o0
  show Ends p e below s T3 (mkF m 14 #[.val (.ref o0), .val (.ref o1), .val (.int p2)] []) _ _ _
  refine Ends.retV X3 hx Bd.notSynchronized Bd.returns (hb hby d14_14) (by decide) (by decide) ?_
  rw [e3]
  exact ⟨rfl, N3, K3, ((Ex0.wr W2).wr W3), (Fw2.other W3 (Or.inr (slot_ne (Or.inr (hw _ (List.mem_of_getElem? (i := 29) rfl))) (Or.inr (hw _ (List.mem_of_getElem? (i := 27) rfl))) (by decide) (t := (.array .byte)) (t' := .byte) (by decide) (by decide)))), Fw3⟩
theorem d11_0 : decode jdk_42_method_139_code 0 = .ok (.getstatic 38, 3) := by decide +kernel
theorem d11_3 : decode jdk_42_method_139_code 3 = .ok (.ifCond .eq 23, 3) := by decide +kernel
theorem d11_6 : decode jdk_42_method_139_code 6 = .ok (.iload_n 0, 1) := by decide +kernel
theorem d11_7 : decode jdk_42_method_139_code 7 = .ok (.invokestatic 1015, 3) := by decide +kernel
theorem d11_10 : decode jdk_42_method_139_code 10 = .ok (.ifCond .eq 16, 3) := by decide +kernel
theorem d11_13 : decode jdk_42_method_139_code 13 = .ok (.new 10, 3) := by decide +kernel
theorem d11_16 : decode jdk_42_method_139_code 16 = .ok (.dup, 1) := by decide +kernel
theorem d11_17 : decode jdk_42_method_139_code 17 = .ok (.iload_n 0, 1) := by decide +kernel
theorem d11_18 : decode jdk_42_method_139_code 18 = .ok (.invokestatic 1018, 3) := by decide +kernel
theorem d11_21 : decode jdk_42_method_139_code 21 = .ok (.iconst 0, 1) := by decide +kernel
theorem d11_22 : decode jdk_42_method_139_code 22 = .ok (.invokespecial 209, 3) := by decide +kernel
theorem d11_25 : decode jdk_42_method_139_code 25 = .ok (.areturn, 1) := by decide +kernel
theorem pn11 : plainName "java/lang/String" = true := by first | (simp [plainName, overriddenIn]; done) | decide +kernel
theorem pd11_0 : parseMethodDescriptor "(C)Z" = some ⟨[.char], some .boolean⟩ := by decide +kernel
theorem pd11_1 : parseMethodDescriptor "(C)[B" = some ⟨[.char], some (.array .byte)⟩ := by decide +kernel
theorem pd11_2 : parseMethodDescriptor "([BB)V" = some ⟨[(.array .byte), .byte], none⟩ := by decide +kernel
theorem ef11 (m : MethodId) (p0 : Int32) : entryFrame m #[(.int p0)] 1 = mkF m 0 #[.val (.int p0)] [] := by first | (simp [entryFrame, mkF, argsToLocals, Value.category]; done) | rfl
set_option maxRecDepth 65536 in
set_option maxHeartbeats 40000000 in
theorem rmV (l : Launch) (Z : State) (a0 : Array Value) (hw : ∀ d ∈ tables_1, d.before a0 Z = true) (ws : List Jvm.Cond) (n0 : Nat) (h0 : Heap) (O0 : Old Z n0 h0) (p0 : Int32) (G1 : Int32) (SCS : Sta Z Z.heap "java/lang/String" "COMPACT_STRINGS" "Z" (.int G1)) (P5 : ¬ G1 = (0 : Int32)) (hp : ¬ p0 < 0 ∧ ¬ (255 : Int32) < p0) :
    Meets1 l (⟨"java/lang/String", "valueOf", "(C)Ljava/lang/String;"⟩ : MethodName) jdk_42_method_139_code 1 (some (.object "java/lang/String")) ws ({ frames := 2, cells := 2, slots := 5, locals := 27 } : Room) #[(.int p0)] Z h0 (fun v h L => ∃ (b t : Addr) (kb : ClassId), v = some (.ref b) ∧ Fr n0 L ∧ h0.size ≤ b ∧ h0.size ≤ t ∧ b ≠ t ∧ Keep h0 h [] ∧ Exa Z h b "java/lang/String" ∧ Fld Z h b "java/lang/String" "value" "[B" (.ref t) ∧ Fld Z h b "java/lang/String" "coder" "B" (.int (0 : Int32)) ∧ Arv Z h t kb .byte (1 : Int32) [(.int (p0.toInt8.toInt32))] (.int (0 : Int32))) := by
  refine MetFree.of_bodySF (plainFor_of_name pn11) hisR ?_
  intro p e s m args below meth c s₁ Bd hml0 hP hK
  obtain ⟨rfl, hZ, hh⟩ := hP
  have hx := Bd.exec
  have hby := Bd.bytes
  have hml : c.maxLocals = 1 := hml0
  have hown : s.vm.findClass "java/lang/String" = some m.cls := findClass_of_methodNamed Bd.named
  have hnm := (name_of_methodNamed Bd.named Bd.method).1
  have X0 : Stand p l e ({ frames := 2, cells := 2, slots := 5, locals := 27 } : Room) s m #[(.int p0)] below meth c s₁ [] 0 0 := Stand.of_body Bd
  have e0 : s₁.heap = h0 := by rw [← hh, Bd.state]; rfl
  have N0 := Fr.nil n0
  have Z0 := own_old_le O0
  show Ends p e below s s₁ (entryFrame m #[(.int p0)] 1) ({ frames := 2, cells := 2, slots := 5, locals := 27 } : Room).cells ({ frames := 2, cells := 2, slots := 5, locals := 27 } : Room).slots (fun v h L => ∃ (b t : Addr) (kb : ClassId), v = some (.ref b) ∧ Fr n0 L ∧ h0.size ≤ b ∧ h0.size ≤ t ∧ b ≠ t ∧ Keep h0 h [] ∧ Exa Z h b "java/lang/String" ∧ Fld Z h b "java/lang/String" "value" "[B" (.ref t) ∧ Fld Z h b "java/lang/String" "coder" "B" (.int (0 : Int32)) ∧ Arv Z h t kb .byte (1 : Int32) [(.int (p0.toInt8.toInt32))] (.int (0 : Int32)))
  refine Ends.go (fun _ k => castTop (ef11 m p0) k) ?_
  have K0 := Keep.refl h0 []
  show Ends p e below s s₁ (mkF m 0 #[.val (.int p0)] []) _ _ _
  obtain ⟨T1, X1, e1, st1⟩ := getS2 X0 hx hZ hown (host := "") (Or.inl (hw _ (List.mem_of_getElem? (i := 14) rfl))) Via.refl e0 (SCS.ext O0.2) (g := (mkF m 0 #[.val (.int p0)] [])) rfl (hb hby d11_0)
  refine Ends.go st1 ?_
  show Ends p e below s T1 (mkF m 3 #[.val (.int p0)] [(.int G1)]) _ _ _
  refine Ends.go (fun _ k => XS.ifNo X1.here hx rfl (hb hby d11_3) rfl ((if0 _ _).trans (feq (P5 : ¬ (G1 = (0 : Int32)))).1) k) ?_
  show Ends p e below s T1 (mkF m 6 #[.val (.int p0)] []) _ _ _
  refine Ends.go (fun _ k => XS.iloadN X1.here hx rfl (hb hby d11_6) rfl k) ?_
  show Ends p e below s T1 (mkF m 7 #[.val (.int p0)] [(.int p0)]) _ _ _
  obtain ⟨_, _, ⟨T2, L2, k2, n2⟩, -, X2, ⟨Lc2, hQ2, l2, y2, z2⟩, st2⟩ := Jvm.LawKit.callS X1 hx (y := (⟨"java/lang/StringLatin1", "canEncode", "(C)Z"⟩ : MethodName)) hown (mvT hZ (hw _ (List.mem_of_getElem? (i := 74) rfl))) (mvT hZ (hw _ (List.mem_of_getElem? (i := 75) rfl))) (mvT hZ (hw _ (List.mem_of_getElem? (i := 67) rfl))) (mvT hZ (hw _ (List.mem_of_getElem? (i := 76) rfl))) (by decide) (own_backOf (W := 0) (rmC l Z a0 hw [] n0 h0 O0 p0 hp) hZ (hw _ (List.mem_of_getElem? (i := 76) rfl)) (hw _ (List.mem_of_getElem? (i := 67) rfl)) (by decide) (by decide)) (g := (mkF m 7 #[.val (.int p0)] [(.int p0)])) rfl (by rw [hml]; rfl) (argsL := [(.int p0)]) (rest := []) (lenOf pd11_0 rfl) rfl (by show 2 * 0 + _ ≤ _; exact Nat.le_of_eq rfl) (hb hby d11_7) (fun _ _ => ⟨rfl, e1, (by decide : 0 + 0 ≤ _), (by decide : 0 + 0 ≤ _)⟩)
  dsimp only [Pt.U, Pt.locs, Pt.cells, Pt.slots] at X2 l2 y2 z2 st2 hQ2
  subst l2 y2 z2
  obtain ⟨rfl, N2q, e2q⟩ := hQ2
  have N2 := Fr.app N0 N2q
  refine Ends.go st2 ?_
  show Ends p e below s T2 (mkF m 10 #[.val (.int p0)] [(.int (1 : Int32))]) _ _ _
  refine Ends.go (fun _ k => XS.ifNo X2.here hx rfl (hb hby d11_10) rfl ((if0 _ _).trans (feq (by decide : ¬ ((1 : Int32) = (0 : Int32)))).1) k) ?_
  show Ends p e below s T2 (mkF m 13 #[.val (.int p0)] []) _ _ _
  obtain ⟨T3, h3, X3, e3, E3, A3, D3, -, st3⟩ := newO X2 hx hZ hown (hw _ (List.mem_of_getElem? (i := 64) rfl)) (hw _ (List.mem_of_getElem? (i := 1) rfl)) (hw _ (List.mem_of_getElem? (i := 2) rfl)) e2q (g := (mkF m 13 #[.val (.int p0)] [])) rfl (hb hby d11_13) (by decide) (by decide)
  obtain ⟨b3, g3⟩ : ∃ z, z = h0.size := ⟨_, rfl⟩
  rw [← g3] at A3 D3 st3
  refine Ends.go st3 ?_
  have g_b3 : n0 ≤ b3 := Nat.le_trans (own_old_le O0) (Nat.le_of_eq g3.symm)
  have sz_b3 : h0.size ≤ b3 := Nat.le_trans K0.1 (Nat.le_of_eq g3.symm)
  have K3 := K0.ext E3
  have O3 := O0.ext E3
  have F_coder_b3 : Fld Z h3 b3 "java/lang/String" "coder" "B" (.int (0 : Int32)) := D3 (Or.inr (hw _ (List.mem_of_getElem? (i := 27) rfl))) (ty := .byte) (by decide)
  have F_value_b3 : Fld Z h3 b3 "java/lang/String" "value" "[B" .null := D3 (Or.inr (hw _ (List.mem_of_getElem? (i := 29) rfl))) (ty := (.array .byte)) (by decide)
  show Ends p e below s T3 (mkF m 16 #[.val (.int p0)] [(.ref b3)]) _ _ _
  refine Ends.go (fun _ k => XS.dup X3.here hx rfl (hb hby d11_16) rfl rfl k) ?_
  show Ends p e below s T3 (mkF m 17 #[.val (.int p0)] [(.ref b3), (.ref b3)]) _ _ _
  refine Ends.go (fun _ k => XS.iloadN X3.here hx rfl (hb hby d11_17) rfl k) ?_
  show Ends p e below s T3 (mkF m 18 #[.val (.int p0)] [(.int p0), (.ref b3), (.ref b3)]) _ _ _
  obtain ⟨_, _, ⟨T4, L4, k4, n4⟩, -, X4, ⟨Lc4, hQ4, l4, y4, z4⟩, st4⟩ := Jvm.LawKit.callS X3 hx (y := (⟨"java/lang/StringLatin1", "toBytes", "(C)[B"⟩ : MethodName)) hown (mvT hZ (hw _ (List.mem_of_getElem? (i := 77) rfl))) (mvT hZ (hw _ (List.mem_of_getElem? (i := 78) rfl))) (mvT hZ (hw _ (List.mem_of_getElem? (i := 67) rfl))) (mvT hZ (hw _ (List.mem_of_getElem? (i := 79) rfl))) (by decide) (own_backOf (W := 2) (rmB l Z a0 hw [] n0 h3 O3 p0) hZ (hw _ (List.mem_of_getElem? (i := 79) rfl)) (hw _ (List.mem_of_getElem? (i := 67) rfl)) (by decide) (by decide)) (g := (mkF m 18 #[.val (.int p0)] [(.int p0), (.ref b3), (.ref b3)])) rfl (by rw [hml]; rfl) (argsL := [(.int p0)]) (rest := [(.ref b3), (.ref b3)]) (lenOf pd11_1 rfl) rfl (by show 2 * 0 + _ ≤ _; exact Nat.le_of_eq rfl) (hb hby d11_18) (fun _ _ => ⟨rfl, e3, (by decide : 1 + 1 ≤ _), (by decide : 4 + 1 ≤ _)⟩)
  dsimp only [Pt.U, Pt.locs, Pt.cells, Pt.slots] at X4 l4 y4 z4 st4 hQ4
  subst l4 y4 z4
  obtain ⟨t4, kb4, rfl, N4q, ht4, K4c, Aq4⟩ := hQ4
  have N4 := Fr.app N2 N4q
  refine Ends.go st4 ?_
  have ne_b3_t4 : b3 ≠ t4 := Nat.ne_of_lt (Nat.lt_of_lt_of_le A3.lt ht4)
  have g_t4 : n0 ≤ t4 := Nat.le_trans (own_old_le O3) ht4
  have sz_t4 : h0.size ≤ t4 := Nat.le_trans K3.1 ht4
  obtain ⟨h4, e4⟩ : ∃ z, T4.heap = z := ⟨_, rfl⟩
  rw [e4] at K4c Aq4
  have K4 := K3.trans K4c all0
  have O4 := O3.keep K4c all0
  show Ends p e below s T4 (mkF m 21 #[.val (.int p0)] [(.ref t4), (.ref b3), (.ref b3)]) _ _ _
  refine Ends.go (fun _ k => XS.iconst X4.here hx rfl (hb hby d11_21) k) ?_
  show Ends p e below s T4 (mkF m 22 #[.val (.int p0)] [(.int (0 : Int32)), (.ref t4), (.ref b3), (.ref b3)]) _ _ _
  obtain ⟨_, _, ⟨T5, L5, k5, n5⟩, -, X5, ⟨Lc5, hQ5, l5, y5, z5⟩, st5⟩ := X4.specialBack hx (y := (⟨"java/lang/String", "<init>", "([BB)V"⟩ : MethodName)) rfl hown (mvT hZ (hw _ (List.mem_of_getElem? (i := 80) rfl))) (mvT hZ (hw _ (List.mem_of_getElem? (i := 81) rfl))) (mvT hZ (hw _ (List.mem_of_getElem? (i := 82) rfl))) (by decide) (own_backOf (W := 1) (rmN l Z a0 hw [] n0 h4 O4 b3 t4 (0 : Int32) rfl g_b3 (A3.keep K4c) (F_value_b3.keep K4c nin0) (F_coder_b3.keep K4c nin0)) hZ (hw _ (List.mem_of_getElem? (i := 82) rfl)) (hw _ (List.mem_of_getElem? (i := 2) rfl)) (by decide) (by decide)) (g := (mkF m 22 #[.val (.int p0)] [(.int (0 : Int32)), (.ref t4), (.ref b3), (.ref b3)])) rfl (by rw [hml]; rfl) (Steps.refl _) (a := b3) (argsL := [(.ref t4), (.int (0 : Int32))]) (rest := [(.ref b3)]) (lenOf pd11_2 rfl) rfl (by show 2 * 0 + _ ≤ _; exact Nat.le_of_eq rfl) (hb hby d11_22) (fun _ _ => ⟨rfl, e4, (by decide : 2 + 0 ≤ _), (by decide : 5 + 0 ≤ _)⟩)
  dsimp only [Pt.U, Pt.locs, Pt.cells, Pt.slots] at X5 l5 y5 z5 st5 hQ5
  subst l5 y5 z5
  obtain ⟨rfl, N5q, K5c, Eq5, Vq5, Cq5⟩ := hQ5
  have N5 := Fr.app N4 N5q
  refine Ends.go (fun _ k => st5.trans k) ?_
  obtain ⟨h5, e5⟩ : ∃ z, T5.heap = z := ⟨_, rfl⟩
  rw [e5] at K5c Eq5 Vq5 Cq5
  have K5 := K4.trans K5c (allS (Or.inr sz_b3) all0)
  have O5 := O4.keep K5c (allS g_b3 all0)
  show Ends p e below s T5 (mkF m 25 #[.val (.int p0)] [(.ref b3)]) _ _ _
  refine Ends.ret X5 hx Bd.notSynchronized (t := (.object "java/lang/String")) Bd.returns rfl (Or.inr (Or.inr (Or.inr (Or.inr ⟨rfl, rfl, rfl⟩)))) (hb hby d11_25) (by decide) (by decide) ?_
  rw [e5]
  exact ⟨b3, t4, kb4, rfl, N5, sz_b3, sz_t4, ne_b3_t4, K5, Eq5, Vq5, Cq5, (Aq4.keep K5c (ninS (Ne.symm ne_b3_t4) nin0))⟩
theorem d8_0 : decode prog_7_method_25_code 0 = .ok (.aload_n 1, 1) := by decide +kernel
theorem d8_1 : decode prog_7_method_25_code 1 = .ok (.instanceof 8, 3) := by decide +kernel
theorem d8_4 : decode prog_7_method_25_code 4 = .ok (.ifCond .eq 11, 3) := by decide +kernel
theorem d8_7 : decode prog_7_method_25_code 7 = .ok (.aload_n 1, 1) := by decide +kernel
theorem d8_8 : decode prog_7_method_25_code 8 = .ok (.checkcast 8, 3) := by decide +kernel
theorem d8_11 : decode prog_7_method_25_code 11 = .ok (.astore_n 2, 1) := by decide +kernel
theorem d8_12 : decode prog_7_method_25_code 12 = .ok (.goto 5, 3) := by decide +kernel
theorem d8_17 : decode prog_7_method_25_code 17 = .ok (.aload_n 0, 1) := by decide +kernel
theorem d8_18 : decode prog_7_method_25_code 18 = .ok (.getfield 7, 3) := by decide +kernel
theorem d8_21 : decode prog_7_method_25_code 21 = .ok (.aload_n 2, 1) := by decide +kernel
theorem d8_22 : decode prog_7_method_25_code 22 = .ok (.getfield 7, 3) := by decide +kernel
theorem d8_25 : decode prog_7_method_25_code 25 = .ok (.invokevirtual 167, 3) := by decide +kernel
theorem d8_28 : decode prog_7_method_25_code 28 = .ok (.ifCond .eq 73, 3) := by decide +kernel
theorem d8_31 : decode prog_7_method_25_code 31 = .ok (.aload_n 0, 1) := by decide +kernel
theorem d8_32 : decode prog_7_method_25_code 32 = .ok (.getfield 13, 3) := by decide +kernel
theorem d8_35 : decode prog_7_method_25_code 35 = .ok (.aload_n 2, 1) := by decide +kernel
theorem d8_36 : decode prog_7_method_25_code 36 = .ok (.getfield 13, 3) := by decide +kernel
theorem d8_39 : decode prog_7_method_25_code 39 = .ok (.if_icmp .ne 62, 3) := by decide +kernel
theorem d8_42 : decode prog_7_method_25_code 42 = .ok (.aload_n 0, 1) := by decide +kernel
theorem d8_43 : decode prog_7_method_25_code 43 = .ok (.getfield 17, 3) := by decide +kernel
theorem d8_46 : decode prog_7_method_25_code 46 = .ok (.aload_n 2, 1) := by decide +kernel
theorem d8_47 : decode prog_7_method_25_code 47 = .ok (.getfield 17, 3) := by decide +kernel
theorem d8_50 : decode prog_7_method_25_code 50 = .ok (.if_icmp .ne 51, 3) := by decide +kernel
theorem d8_53 : decode prog_7_method_25_code 53 = .ok (.aload_n 0, 1) := by decide +kernel
theorem d8_54 : decode prog_7_method_25_code 54 = .ok (.getfield 20, 3) := by decide +kernel
theorem d8_57 : decode prog_7_method_25_code 57 = .ok (.aload_n 2, 1) := by decide +kernel
theorem d8_58 : decode prog_7_method_25_code 58 = .ok (.getfield 20, 3) := by decide +kernel
theorem d8_61 : decode prog_7_method_25_code 61 = .ok (.if_icmp .ne 40, 3) := by decide +kernel
theorem d8_64 : decode prog_7_method_25_code 64 = .ok (.aload_n 0, 1) := by decide +kernel
theorem d8_65 : decode prog_7_method_25_code 65 = .ok (.getfield 23, 3) := by decide +kernel
theorem d8_68 : decode prog_7_method_25_code 68 = .ok (.aload_n 2, 1) := by decide +kernel
theorem d8_69 : decode prog_7_method_25_code 69 = .ok (.getfield 23, 3) := by decide +kernel
theorem d8_72 : decode prog_7_method_25_code 72 = .ok (.if_icmp .ne 29, 3) := by decide +kernel
theorem d8_75 : decode prog_7_method_25_code 75 = .ok (.aload_n 0, 1) := by decide +kernel
theorem d8_76 : decode prog_7_method_25_code 76 = .ok (.getfield 26, 3) := by decide +kernel
theorem d8_79 : decode prog_7_method_25_code 79 = .ok (.aload_n 2, 1) := by decide +kernel
theorem d8_80 : decode prog_7_method_25_code 80 = .ok (.getfield 26, 3) := by decide +kernel
theorem d8_83 : decode prog_7_method_25_code 83 = .ok (.if_icmp .ne 18, 3) := by decide +kernel
theorem d8_86 : decode prog_7_method_25_code 86 = .ok (.aload_n 0, 1) := by decide +kernel
theorem d8_87 : decode prog_7_method_25_code 87 = .ok (.getfield 29, 3) := by decide +kernel
theorem d8_90 : decode prog_7_method_25_code 90 = .ok (.aload_n 2, 1) := by decide +kernel
theorem d8_91 : decode prog_7_method_25_code 91 = .ok (.getfield 29, 3) := by decide +kernel
theorem d8_94 : decode prog_7_method_25_code 94 = .ok (.if_icmp .ne 7, 3) := by decide +kernel
theorem d8_97 : decode prog_7_method_25_code 97 = .ok (.iconst 1, 1) := by decide +kernel
theorem d8_98 : decode prog_7_method_25_code 98 = .ok (.goto 4, 3) := by decide +kernel
theorem d8_101 : decode prog_7_method_25_code 101 = .ok (.iconst 0, 1) := by decide +kernel
theorem d8_102 : decode prog_7_method_25_code 102 = .ok (.ireturn, 1) := by decide +kernel
theorem pn8 : plainName "com/example/authority/authority/UriReference" = true := by first | (simp [plainName, overriddenIn]; done) | decide +kernel
theorem pd8_0 : parseMethodDescriptor "(Ljava/lang/Object;)Z" = some ⟨[(.object "java/lang/Object")], some .boolean⟩ := by decide +kernel
theorem ef8 (m : MethodId) (o0 : Addr) (o1 : Addr) : entryFrame m #[(.ref o0), (.ref o1)] 3 = mkF m 0 #[.val (.ref o0), .val (.ref o1), .unset] [] := by first | (simp [entryFrame, mkF, argsToLocals, Value.category]; done) | rfl
set_option maxRecDepth 65536 in
set_option maxHeartbeats 40000000 in
theorem rmE (l : Launch) (Z : State) (a0 : Array Value) (hw : ∀ d ∈ tables_1, d.before a0 Z = true) (ws : List Jvm.Cond) (n0 : Nat) (h0 : Heap) (O0 : Old Z n0 h0) (o0 : Addr) (o1 : Addr) (G1 : Int32) (SCS : Sta Z Z.heap "java/lang/String" "COMPACT_STRINGS" "Z" (.int G1)) (P5 : ¬ G1 = (0 : Int32)) (sa t1 : Addr) (k1 : ClassId) (ca : List Int32) (N1 : Int32) (va : List Value) (x1 x2 x3 x4 x5 x6 : Int32) (SA : StrA Z h0 sa t1 k1 ca N1 va) (EA : Exa Z h0 o0 "com/example/authority/authority/UriReference") (FA_mText : Fld Z h0 o0 "com/example/authority/authority/UriReference" "mText" "Ljava/lang/String;" (.ref sa)) (FA_mSchemeEnd : Fld Z h0 o0 "com/example/authority/authority/UriReference" "mSchemeEnd" "I" (.int x1)) (FA_mHostStart : Fld Z h0 o0 "com/example/authority/authority/UriReference" "mHostStart" "I" (.int x2)) (FA_mHostEnd : Fld Z h0 o0 "com/example/authority/authority/UriReference" "mHostEnd" "I" (.int x3)) (FA_mPathStart : Fld Z h0 o0 "com/example/authority/authority/UriReference" "mPathStart" "I" (.int x4)) (FA_mPathEnd : Fld Z h0 o0 "com/example/authority/authority/UriReference" "mPathEnd" "I" (.int x5)) (FA_mQueryEnd : Fld Z h0 o0 "com/example/authority/authority/UriReference" "mQueryEnd" "I" (.int x6)) (sb t2 : Addr) (k2 : ClassId) (cb : List Int32) (N2 : Int32) (vb : List Value) (y1 y2 y3 y4 y5 y6 : Int32) (SB : StrA Z h0 sb t2 k2 cb N2 vb) (EB : Exa Z h0 o1 "com/example/authority/authority/UriReference") (FB_mText : Fld Z h0 o1 "com/example/authority/authority/UriReference" "mText" "Ljava/lang/String;" (.ref sb)) (FB_mSchemeEnd : Fld Z h0 o1 "com/example/authority/authority/UriReference" "mSchemeEnd" "I" (.int y1)) (FB_mHostStart : Fld Z h0 o1 "com/example/authority/authority/UriReference" "mHostStart" "I" (.int y2)) (FB_mHostEnd : Fld Z h0 o1 "com/example/authority/authority/UriReference" "mHostEnd" "I" (.int y3)) (FB_mPathStart : Fld Z h0 o1 "com/example/authority/authority/UriReference" "mPathStart" "I" (.int y4)) (FB_mPathEnd : Fld Z h0 o1 "com/example/authority/authority/UriReference" "mPathEnd" "I" (.int y5)) (FB_mQueryEnd : Fld Z h0 o1 "com/example/authority/authority/UriReference" "mQueryEnd" "I" (.int y6)) :
    Meets1 l (⟨"com/example/authority/authority/UriReference", "equals", "(Ljava/lang/Object;)Z"⟩ : MethodName) prog_7_method_25_code 3 (some .boolean) ws ({ frames := 2, cells := 0, slots := 0, locals := 28 } : Room) #[(.ref o0), (.ref o1)] Z h0 (fun v h L => ∃ r : Int32, v = some (.int r) ∧ Fr n0 L ∧ h = h0 ∧ ((r = 1 ∧ ca = cb ∧ x1 = y1 ∧ x2 = y2 ∧ x3 = y3 ∧ x4 = y4 ∧ x5 = y5 ∧ x6 = y6) ∨ (r = 0 ∧ ¬ (ca = cb ∧ x1 = y1 ∧ x2 = y2 ∧ x3 = y3 ∧ x4 = y4 ∧ x5 = y5 ∧ x6 = y6)))) := by
  refine MetFree.of_bodySF (plainFor_of_name pn8) hisR ?_
  intro p e s m args below meth c s₁ Bd hml0 hP hK
  obtain ⟨rfl, hZ, hh⟩ := hP
  have hx := Bd.exec
  have hby := Bd.bytes
  have hml : c.maxLocals = 3 := hml0
  have hown : s.vm.findClass "com/example/authority/authority/UriReference" = some m.cls := findClass_of_methodNamed Bd.named
  have hnm := (name_of_methodNamed Bd.named Bd.method).1
  have X0 : Stand p l e ({ frames := 2, cells := 0, slots := 0, locals := 28 } : Room) s m #[(.ref o0), (.ref o1)] below meth c s₁ [] 0 0 := Stand.of_body Bd
  have e0 : s₁.heap = h0 := by rw [← hh, Bd.state]; rfl
  have N0 := Fr.nil n0
  have Z0 := own_old_le O0
  show Ends p e below s s₁ (entryFrame m #[(.ref o0), (.ref o1)] 3) ({ frames := 2, cells := 0, slots := 0, locals := 28 } : Room).cells ({ frames := 2, cells := 0, slots := 0, locals := 28 } : Room).slots (fun v h L => ∃ r : Int32, v = some (.int r) ∧ Fr n0 L ∧ h = h0 ∧ ((r = 1 ∧ ca = cb ∧ x1 = y1 ∧ x2 = y2 ∧ x3 = y3 ∧ x4 = y4 ∧ x5 = y5 ∧ x6 = y6) ∨ (r = 0 ∧ ¬ (ca = cb ∧ x1 = y1 ∧ x2 = y2 ∧ x3 = y3 ∧ x4 = y4 ∧ x5 = y5 ∧ x6 = y6))))
  refine Ends.go (fun _ k => castTop (ef8 m o0 o1) k) ?_
  have K0 := Keep.refl h0 []
  have heq : ∀ d ∈ StrChars.Road.wordsEq, d.before a0 Z = true := fun d hd => hw d ((by decide +kernel : ∀ d ∈ StrChars.Road.wordsEq, d ∈ tables_1) d hd)
  show Ends p e below s s₁ (mkF m 0 #[.val (.ref o0), .val (.ref o1), .unset] []) _ _ _
  refine Ends.go (fun _ k => XS.aloadN X0.here hx rfl (hb hby d8_0) rfl rfl k) ?_
  show Ends p e below s s₁ (mkF m 1 #[.val (.ref o0), .val (.ref o1), .unset] [(.ref o1)]) _ _ _
  obtain ⟨T1, X1, e1, st1⟩ := instY X0 hx hZ hown (hw _ (List.mem_of_getElem? (i := 57) rfl)) e0 (Ins.self EB) (g := (mkF m 1 #[.val (.ref o0), .val (.ref o1), .unset] [(.ref o1)])) rfl rfl (hb hby d8_1)
  refine Ends.go st1 ?_
  show Ends p e below s T1 (mkF m 4 #[.val (.ref o0), .val (.ref o1), .unset] [(.int (1 : Int32))]) _ _ _
  refine Ends.go (fun _ k => XS.ifNo X1.here hx rfl (hb hby d8_4) rfl ((if0 _ _).trans (feq (by decide : ¬ ((1 : Int32) = (0 : Int32)))).1) k) ?_
  show Ends p e below s T1 (mkF m 7 #[.val (.ref o0), .val (.ref o1), .unset] []) _ _ _
  refine Ends.go (fun _ k => XS.aloadN X1.here hx rfl (hb hby d8_7) rfl rfl k) ?_
  show Ends p e below s T1 (mkF m 8 #[.val (.ref o0), .val (.ref o1), .unset] [(.ref o1)]) _ _ _
  obtain ⟨T2, X2, e2, st2⟩ := castY X1 hx hZ hown (hw _ (List.mem_of_getElem? (i := 57) rfl)) e1 (Ins.self EB) (g := (mkF m 8 #[.val (.ref o0), .val (.ref o1), .unset] [(.ref o1)])) rfl rfl (hb hby d8_8)
  refine Ends.go st2 ?_
  show Ends p e below s T2 (mkF m 11 #[.val (.ref o0), .val (.ref o1), .unset] [(.ref o1)]) _ _ _
  refine Ends.go (fun _ k => XS.astoreN X2.here hx rfl (hb hby d8_11) rfl rfl (l' := #[.val (.ref o0), .val (.ref o1), .val (.ref o1)]) rfl k) ?_
  show Ends p e below s T2 (mkF m 12 #[.val (.ref o0), .val (.ref o1), .val (.ref o1)] []) _ _ _
  refine Ends.go (fun _ k => XS.goto X2.here hx rfl (pc0 := 12) (pc' := 17) rfl (hb hby d8_12) (by decide) (by decide) k) ?_
  show Ends p e below s T2 (mkF m 17 #[.val (.ref o0), .val (.ref o1), .val (.ref o1)] []) _ _ _
  refine Ends.go (fun _ k => XS.aloadN X2.here hx rfl (hb hby d8_17) rfl rfl k) ?_
  show Ends p e below s T2 (mkF m 18 #[.val (.ref o0), .val (.ref o1), .val (.ref o1)] [(.ref o0)]) _ _ _
  obtain ⟨T3, X3, e3, st3⟩ := getF X2 hx hZ hown (host := "") (Or.inl (hw _ (List.mem_of_getElem? (i := 38) rfl))) Via.refl e2 FA_mText (g := (mkF m 18 #[.val (.ref o0), .val (.ref o1), .val (.ref o1)] [(.ref o0)])) rfl rfl (hb hby d8_18)
  refine Ends.go st3 ?_
  show Ends p e below s T3 (mkF m 21 #[.val (.ref o0), .val (.ref o1), .val (.ref o1)] [(.ref sa)]) _ _ _
  refine Ends.go (fun _ k => XS.aloadN X3.here hx rfl (hb hby d8_21) rfl rfl k) ?_
  show Ends p e below s T3 (mkF m 22 #[.val (.ref o0), .val (.ref o1), .val (.ref o1)] [(.ref o1), (.ref sa)]) _ _ _
  obtain ⟨T4, X4, e4, st4⟩ := getF X3 hx hZ hown (host := "") (Or.inl (hw _ (List.mem_of_getElem? (i := 38) rfl))) Via.refl e3 FB_mText (g := (mkF m 22 #[.val (.ref o0), .val (.ref o1), .val (.ref o1)] [(.ref o1), (.ref sa)])) rfl rfl (hb hby d8_22)
  refine Ends.go st4 ?_
  show Ends p e below s T4 (mkF m 25 #[.val (.ref o0), .val (.ref o1), .val (.ref o1)] [(.ref sb), (.ref sa)]) _ _ _
  obtain ⟨cq5, kq5, q5a, q5b, q5c⟩ := isOf hZ e4 SA.1
  obtain ⟨_, _, ⟨T5, L5, k5, n5⟩, -, X5, ⟨Lc5, hQ5, l5, y5, z5⟩, st5⟩ := X4.virtualBack hx (y := (⟨"java/lang/String", "equals", "(Ljava/lang/Object;)Z"⟩ : MethodName)) (z := (⟨"java/lang/String", "equals", "(Ljava/lang/Object;)Z"⟩ : MethodName)) hown (mvT hZ (hw _ (List.mem_of_getElem? (i := 59) rfl))) (mvT hZ (hw _ (List.mem_of_getElem? (i := 60) rfl))) (notFace_of_selects (args := #[]) (mvT hZ (hw _ (List.mem_of_getElem? (i := 62) rfl)))) (mvT hZ (hw _ (List.mem_of_getElem? (i := 62) rfl))) (mvT hZ (hw _ (List.mem_of_getElem? (i := 61) rfl))) (by decide) (StrChars.Road.eqW (W := 0) hZ heq (kI := 4) (hw _ (List.mem_of_getElem? (i := 1) rfl)) SA.1 SA.2.1 SA.2.2.1 SA.2.2.2.1 SA.2.2.2.2.1 SA.2.2.2.2.2.1 SA.2.2.2.2.2.2 SB.1 SB.2.1 SB.2.2.1 SB.2.2.2.1 SB.2.2.2.2.1 SB.2.2.2.2.2.1 SB.2.2.2.2.2.2 (SCS.ext O0.2) P5 (by decide) (by decide)) q5a q5c (g := (mkF m 25 #[.val (.ref o0), .val (.ref o1), .val (.ref o1)] [(.ref sb), (.ref sa)])) rfl (by rw [hml]; rfl) (Steps.refl _) (argsL := [(.ref sb)]) (rest := []) (lenOf pd8_0 rfl) rfl (by show 2 * 0 + _ ≤ _; exact Nat.le_of_eq rfl) (hb hby d8_25) (fun _ _ => ⟨rfl, e4, (by decide : 0 + 0 ≤ _), (by decide : 0 + 0 ≤ _)⟩)
  dsimp only [Pt.U, Pt.locs, Pt.cells, Pt.slots] at X5 l5 y5 z5 st5 hQ5
  subst l5 y5 z5
  obtain ⟨hv5, rfl, e5q⟩ := hQ5
  have N5 := Fr.app N0 (Fr.nil n0)
  rcases hv5 with ⟨rfl, hcs5⟩ | ⟨rfl, hcs5⟩
  · refine Ends.go (fun _ k => st5.trans k) ?_
    show Ends p e below s T5 (mkF m 28 #[.val (.ref o0), .val (.ref o1), .val (.ref o1)] [(.int (1 : Int32))]) _ _ _
    refine Ends.go (fun _ k => XS.ifNo X5.here hx rfl (hb hby d8_28) rfl ((if0 _ _).trans (feq (by decide : ¬ ((1 : Int32) = (0 : Int32)))).1) k) ?_
    show Ends p e below s T5 (mkF m 31 #[.val (.ref o0), .val (.ref o1), .val (.ref o1)] []) _ _ _
    refine Ends.go (fun _ k => XS.aloadN X5.here hx rfl (hb hby d8_31) rfl rfl k) ?_
    show Ends p e below s T5 (mkF m 32 #[.val (.ref o0), .val (.ref o1), .val (.ref o1)] [(.ref o0)]) _ _ _
    obtain ⟨T6, X6, e6, st6⟩ := getF X5 hx hZ hown (host := "") (Or.inl (hw _ (List.mem_of_getElem? (i := 40) rfl))) Via.refl e5q FA_mSchemeEnd (g := (mkF m 32 #[.val (.ref o0), .val (.ref o1), .val (.ref o1)] [(.ref o0)])) rfl rfl (hb hby d8_32)
    refine Ends.go st6 ?_
    show Ends p e below s T6 (mkF m 35 #[.val (.ref o0), .val (.ref o1), .val (.ref o1)] [(.int x1)]) _ _ _
    refine Ends.go (fun _ k => XS.aloadN X6.here hx rfl (hb hby d8_35) rfl rfl k) ?_
    show Ends p e below s T6 (mkF m 36 #[.val (.ref o0), .val (.ref o1), .val (.ref o1)] [(.ref o1), (.int x1)]) _ _ _
    obtain ⟨T7, X7, e7, st7⟩ := getF X6 hx hZ hown (host := "") (Or.inl (hw _ (List.mem_of_getElem? (i := 40) rfl))) Via.refl e6 FB_mSchemeEnd (g := (mkF m 36 #[.val (.ref o0), .val (.ref o1), .val (.ref o1)] [(.ref o1), (.int x1)])) rfl rfl (hb hby d8_36)
    refine Ends.go st7 ?_
    show Ends p e below s T7 (mkF m 39 #[.val (.ref o0), .val (.ref o1), .val (.ref o1)] [(.int y1), (.int x1)]) _ _ _
    by_cases hc39_8 : x1 = y1
    · refine Ends.go (fun _ k => XS.icmpNo X7.here hx rfl (hb hby d8_39) rfl (teq hc39_8).2 k) ?_
      show Ends p e below s T7 (mkF m 42 #[.val (.ref o0), .val (.ref o1), .val (.ref o1)] []) _ _ _
      refine Ends.go (fun _ k => XS.aloadN X7.here hx rfl (hb hby d8_42) rfl rfl k) ?_
      show Ends p e below s T7 (mkF m 43 #[.val (.ref o0), .val (.ref o1), .val (.ref o1)] [(.ref o0)]) _ _ _
      obtain ⟨T9, X9, e9, st9⟩ := getF X7 hx hZ hown (host := "") (Or.inl (hw _ (List.mem_of_getElem? (i := 42) rfl))) Via.refl e7 FA_mHostStart (g := (mkF m 43 #[.val (.ref o0), .val (.ref o1), .val (.ref o1)] [(.ref o0)])) rfl rfl (hb hby d8_43)
      refine Ends.go st9 ?_
      show Ends p e below s T9 (mkF m 46 #[.val (.ref o0), .val (.ref o1), .val (.ref o1)] [(.int x2)]) _ _ _
      refine Ends.go (fun _ k => XS.aloadN X9.here hx rfl (hb hby d8_46) rfl rfl k) ?_
      show Ends p e below s T9 (mkF m 47 #[.val (.ref o0), .val (.ref o1), .val (.ref o1)] [(.ref o1), (.int x2)]) _ _ _
      obtain ⟨T10, X10, e10, st10⟩ := getF X9 hx hZ hown (host := "") (Or.inl (hw _ (List.mem_of_getElem? (i := 42) rfl))) Via.refl e9 FB_mHostStart (g := (mkF m 47 #[.val (.ref o0), .val (.ref o1), .val (.ref o1)] [(.ref o1), (.int x2)])) rfl rfl (hb hby d8_47)
      refine Ends.go st10 ?_
      show Ends p e below s T10 (mkF m 50 #[.val (.ref o0), .val (.ref o1), .val (.ref o1)] [(.int y2), (.int x2)]) _ _ _
      by_cases hc50_11 : x2 = y2
      · refine Ends.go (fun _ k => XS.icmpNo X10.here hx rfl (hb hby d8_50) rfl (teq hc50_11).2 k) ?_
        show Ends p e below s T10 (mkF m 53 #[.val (.ref o0), .val (.ref o1), .val (.ref o1)] []) _ _ _
        refine Ends.go (fun _ k => XS.aloadN X10.here hx rfl (hb hby d8_53) rfl rfl k) ?_
        show Ends p e below s T10 (mkF m 54 #[.val (.ref o0), .val (.ref o1), .val (.ref o1)] [(.ref o0)]) _ _ _
        obtain ⟨T12, X12, e12, st12⟩ := getF X10 hx hZ hown (host := "") (Or.inl (hw _ (List.mem_of_getElem? (i := 44) rfl))) Via.refl e10 FA_mHostEnd (g := (mkF m 54 #[.val (.ref o0), .val (.ref o1), .val (.ref o1)] [(.ref o0)])) rfl rfl (hb hby d8_54)
        refine Ends.go st12 ?_
        show Ends p e below s T12 (mkF m 57 #[.val (.ref o0), .val (.ref o1), .val (.ref o1)] [(.int x3)]) _ _ _
        refine Ends.go (fun _ k => XS.aloadN X12.here hx rfl (hb hby d8_57) rfl rfl k) ?_
        show Ends p e below s T12 (mkF m 58 #[.val (.ref o0), .val (.ref o1), .val (.ref o1)] [(.ref o1), (.int x3)]) _ _ _
        obtain ⟨T13, X13, e13, st13⟩ := getF X12 hx hZ hown (host := "") (Or.inl (hw _ (List.mem_of_getElem? (i := 44) rfl))) Via.refl e12 FB_mHostEnd (g := (mkF m 58 #[.val (.ref o0), .val (.ref o1), .val (.ref o1)] [(.ref o1), (.int x3)])) rfl rfl (hb hby d8_58)
        refine Ends.go st13 ?_
        show Ends p e below s T13 (mkF m 61 #[.val (.ref o0), .val (.ref o1), .val (.ref o1)] [(.int y3), (.int x3)]) _ _ _
        by_cases hc61_14 : x3 = y3
        · refine Ends.go (fun _ k => XS.icmpNo X13.here hx rfl (hb hby d8_61) rfl (teq hc61_14).2 k) ?_
          show Ends p e below s T13 (mkF m 64 #[.val (.ref o0), .val (.ref o1), .val (.ref o1)] []) _ _ _
          refine Ends.go (fun _ k => XS.aloadN X13.here hx rfl (hb hby d8_64) rfl rfl k) ?_
          show Ends p e below s T13 (mkF m 65 #[.val (.ref o0), .val (.ref o1), .val (.ref o1)] [(.ref o0)]) _ _ _
          obtain ⟨T15, X15, e15, st15⟩ := getF X13 hx hZ hown (host := "") (Or.inl (hw _ (List.mem_of_getElem? (i := 46) rfl))) Via.refl e13 FA_mPathStart (g := (mkF m 65 #[.val (.ref o0), .val (.ref o1), .val (.ref o1)] [(.ref o0)])) rfl rfl (hb hby d8_65)
          refine Ends.go st15 ?_
          show Ends p e below s T15 (mkF m 68 #[.val (.ref o0), .val (.ref o1), .val (.ref o1)] [(.int x4)]) _ _ _
          refine Ends.go (fun _ k => XS.aloadN X15.here hx rfl (hb hby d8_68) rfl rfl k) ?_
          show Ends p e below s T15 (mkF m 69 #[.val (.ref o0), .val (.ref o1), .val (.ref o1)] [(.ref o1), (.int x4)]) _ _ _
          obtain ⟨T16, X16, e16, st16⟩ := getF X15 hx hZ hown (host := "") (Or.inl (hw _ (List.mem_of_getElem? (i := 46) rfl))) Via.refl e15 FB_mPathStart (g := (mkF m 69 #[.val (.ref o0), .val (.ref o1), .val (.ref o1)] [(.ref o1), (.int x4)])) rfl rfl (hb hby d8_69)
          refine Ends.go st16 ?_
          show Ends p e below s T16 (mkF m 72 #[.val (.ref o0), .val (.ref o1), .val (.ref o1)] [(.int y4), (.int x4)]) _ _ _
          by_cases hc72_17 : x4 = y4
          · refine Ends.go (fun _ k => XS.icmpNo X16.here hx rfl (hb hby d8_72) rfl (teq hc72_17).2 k) ?_
            show Ends p e below s T16 (mkF m 75 #[.val (.ref o0), .val (.ref o1), .val (.ref o1)] []) _ _ _
            refine Ends.go (fun _ k => XS.aloadN X16.here hx rfl (hb hby d8_75) rfl rfl k) ?_
            show Ends p e below s T16 (mkF m 76 #[.val (.ref o0), .val (.ref o1), .val (.ref o1)] [(.ref o0)]) _ _ _
            obtain ⟨T18, X18, e18, st18⟩ := getF X16 hx hZ hown (host := "") (Or.inl (hw _ (List.mem_of_getElem? (i := 48) rfl))) Via.refl e16 FA_mPathEnd (g := (mkF m 76 #[.val (.ref o0), .val (.ref o1), .val (.ref o1)] [(.ref o0)])) rfl rfl (hb hby d8_76)
            refine Ends.go st18 ?_
            show Ends p e below s T18 (mkF m 79 #[.val (.ref o0), .val (.ref o1), .val (.ref o1)] [(.int x5)]) _ _ _
            refine Ends.go (fun _ k => XS.aloadN X18.here hx rfl (hb hby d8_79) rfl rfl k) ?_
            show Ends p e below s T18 (mkF m 80 #[.val (.ref o0), .val (.ref o1), .val (.ref o1)] [(.ref o1), (.int x5)]) _ _ _
            obtain ⟨T19, X19, e19, st19⟩ := getF X18 hx hZ hown (host := "") (Or.inl (hw _ (List.mem_of_getElem? (i := 48) rfl))) Via.refl e18 FB_mPathEnd (g := (mkF m 80 #[.val (.ref o0), .val (.ref o1), .val (.ref o1)] [(.ref o1), (.int x5)])) rfl rfl (hb hby d8_80)
            refine Ends.go st19 ?_
            show Ends p e below s T19 (mkF m 83 #[.val (.ref o0), .val (.ref o1), .val (.ref o1)] [(.int y5), (.int x5)]) _ _ _
            by_cases hc83_20 : x5 = y5
            · refine Ends.go (fun _ k => XS.icmpNo X19.here hx rfl (hb hby d8_83) rfl (teq hc83_20).2 k) ?_
              show Ends p e below s T19 (mkF m 86 #[.val (.ref o0), .val (.ref o1), .val (.ref o1)] []) _ _ _
              refine Ends.go (fun _ k => XS.aloadN X19.here hx rfl (hb hby d8_86) rfl rfl k) ?_
              show Ends p e below s T19 (mkF m 87 #[.val (.ref o0), .val (.ref o1), .val (.ref o1)] [(.ref o0)]) _ _ _
              obtain ⟨T21, X21, e21, st21⟩ := getF X19 hx hZ hown (host := "") (Or.inl (hw _ (List.mem_of_getElem? (i := 50) rfl))) Via.refl e19 FA_mQueryEnd (g := (mkF m 87 #[.val (.ref o0), .val (.ref o1), .val (.ref o1)] [(.ref o0)])) rfl rfl (hb hby d8_87)
              refine Ends.go st21 ?_
              show Ends p e below s T21 (mkF m 90 #[.val (.ref o0), .val (.ref o1), .val (.ref o1)] [(.int x6)]) _ _ _
              refine Ends.go (fun _ k => XS.aloadN X21.here hx rfl (hb hby d8_90) rfl rfl k) ?_
              show Ends p e below s T21 (mkF m 91 #[.val (.ref o0), .val (.ref o1), .val (.ref o1)] [(.ref o1), (.int x6)]) _ _ _
              obtain ⟨T22, X22, e22, st22⟩ := getF X21 hx hZ hown (host := "") (Or.inl (hw _ (List.mem_of_getElem? (i := 50) rfl))) Via.refl e21 FB_mQueryEnd (g := (mkF m 91 #[.val (.ref o0), .val (.ref o1), .val (.ref o1)] [(.ref o1), (.int x6)])) rfl rfl (hb hby d8_91)
              refine Ends.go st22 ?_
              show Ends p e below s T22 (mkF m 94 #[.val (.ref o0), .val (.ref o1), .val (.ref o1)] [(.int y6), (.int x6)]) _ _ _
              by_cases hc94_23 : x6 = y6
              · refine Ends.go (fun _ k => XS.icmpNo X22.here hx rfl (hb hby d8_94) rfl (teq hc94_23).2 k) ?_
                show Ends p e below s T22 (mkF m 97 #[.val (.ref o0), .val (.ref o1), .val (.ref o1)] []) _ _ _
                refine Ends.go (fun _ k => XS.iconst X22.here hx rfl (hb hby d8_97) k) ?_
                show Ends p e below s T22 (mkF m 98 #[.val (.ref o0), .val (.ref o1), .val (.ref o1)] [(.int (1 : Int32))]) _ _ _
                refine Ends.go (fun _ k => XS.goto X22.here hx rfl (pc0 := 98) (pc' := 102) rfl (hb hby d8_98) (by decide) (by decide) k) ?_
                show Ends p e below s T22 (mkF m 102 #[.val (.ref o0), .val (.ref o1), .val (.ref o1)] [(.int (1 : Int32))]) _ _ _
                refine Ends.retZ X22 hx Bd.notSynchronized (t := .boolean) Bd.returns (by simp) (hb hby d8_102) (by decide) (by decide) ?_
                exact ⟨1, rfl, N5, e22, Or.inl ⟨rfl, hcs5, hc39_8, hc50_11, hc61_14, hc72_17, hc83_20, hc94_23⟩⟩
              · refine Ends.go (fun _ k => XS.icmpYes X22.here hx rfl (pc0 := 94) (pc' := 101) rfl (hb hby d8_94) rfl (feq hc94_23).2 (by decide) (by decide) k) ?_
                show Ends p e below s T22 (mkF m 101 #[.val (.ref o0), .val (.ref o1), .val (.ref o1)] []) _ _ _
                refine Ends.go (fun _ k => XS.iconst X22.here hx rfl (hb hby d8_101) k) ?_
                show Ends p e below s T22 (mkF m 102 #[.val (.ref o0), .val (.ref o1), .val (.ref o1)] [(.int (0 : Int32))]) _ _ _
                refine Ends.retZ X22 hx Bd.notSynchronized (t := .boolean) Bd.returns (by simp) (hb hby d8_102) (by decide) (by decide) ?_
                exact ⟨0, rfl, N5, e22, Or.inr ⟨rfl, fun ⟨z0, z1, z2, z3, z4, z5, z6⟩ => hc94_23 z6⟩⟩
            · refine Ends.go (fun _ k => XS.icmpYes X19.here hx rfl (pc0 := 83) (pc' := 101) rfl (hb hby d8_83) rfl (feq hc83_20).2 (by decide) (by decide) k) ?_
              show Ends p e below s T19 (mkF m 101 #[.val (.ref o0), .val (.ref o1), .val (.ref o1)] []) _ _ _
              refine Ends.go (fun _ k => XS.iconst X19.here hx rfl (hb hby d8_101) k) ?_
              show Ends p e below s T19 (mkF m 102 #[.val (.ref o0), .val (.ref o1), .val (.ref o1)] [(.int (0 : Int32))]) _ _ _
              refine Ends.retZ X19 hx Bd.notSynchronized (t := .boolean) Bd.returns (by simp) (hb hby d8_102) (by decide) (by decide) ?_
              exact ⟨0, rfl, N5, e19, Or.inr ⟨rfl, fun ⟨z0, z1, z2, z3, z4, z5, z6⟩ => hc83_20 z5⟩⟩
          · refine Ends.go (fun _ k => XS.icmpYes X16.here hx rfl (pc0 := 72) (pc' := 101) rfl (hb hby d8_72) rfl (feq hc72_17).2 (by decide) (by decide) k) ?_
            show Ends p e below s T16 (mkF m 101 #[.val (.ref o0), .val (.ref o1), .val (.ref o1)] []) _ _ _
            refine Ends.go (fun _ k => XS.iconst X16.here hx rfl (hb hby d8_101) k) ?_
            show Ends p e below s T16 (mkF m 102 #[.val (.ref o0), .val (.ref o1), .val (.ref o1)] [(.int (0 : Int32))]) _ _ _
            refine Ends.retZ X16 hx Bd.notSynchronized (t := .boolean) Bd.returns (by simp) (hb hby d8_102) (by decide) (by decide) ?_
            exact ⟨0, rfl, N5, e16, Or.inr ⟨rfl, fun ⟨z0, z1, z2, z3, z4, z5, z6⟩ => hc72_17 z4⟩⟩
        · refine Ends.go (fun _ k => XS.icmpYes X13.here hx rfl (pc0 := 61) (pc' := 101) rfl (hb hby d8_61) rfl (feq hc61_14).2 (by decide) (by decide) k) ?_
          show Ends p e below s T13 (mkF m 101 #[.val (.ref o0), .val (.ref o1), .val (.ref o1)] []) _ _ _
          refine Ends.go (fun _ k => XS.iconst X13.here hx rfl (hb hby d8_101) k) ?_
          show Ends p e below s T13 (mkF m 102 #[.val (.ref o0), .val (.ref o1), .val (.ref o1)] [(.int (0 : Int32))]) _ _ _
          refine Ends.retZ X13 hx Bd.notSynchronized (t := .boolean) Bd.returns (by simp) (hb hby d8_102) (by decide) (by decide) ?_
          exact ⟨0, rfl, N5, e13, Or.inr ⟨rfl, fun ⟨z0, z1, z2, z3, z4, z5, z6⟩ => hc61_14 z3⟩⟩
      · refine Ends.go (fun _ k => XS.icmpYes X10.here hx rfl (pc0 := 50) (pc' := 101) rfl (hb hby d8_50) rfl (feq hc50_11).2 (by decide) (by decide) k) ?_
        show Ends p e below s T10 (mkF m 101 #[.val (.ref o0), .val (.ref o1), .val (.ref o1)] []) _ _ _
        refine Ends.go (fun _ k => XS.iconst X10.here hx rfl (hb hby d8_101) k) ?_
        show Ends p e below s T10 (mkF m 102 #[.val (.ref o0), .val (.ref o1), .val (.ref o1)] [(.int (0 : Int32))]) _ _ _
        refine Ends.retZ X10 hx Bd.notSynchronized (t := .boolean) Bd.returns (by simp) (hb hby d8_102) (by decide) (by decide) ?_
        exact ⟨0, rfl, N5, e10, Or.inr ⟨rfl, fun ⟨z0, z1, z2, z3, z4, z5, z6⟩ => hc50_11 z2⟩⟩
    · refine Ends.go (fun _ k => XS.icmpYes X7.here hx rfl (pc0 := 39) (pc' := 101) rfl (hb hby d8_39) rfl (feq hc39_8).2 (by decide) (by decide) k) ?_
      show Ends p e below s T7 (mkF m 101 #[.val (.ref o0), .val (.ref o1), .val (.ref o1)] []) _ _ _
      refine Ends.go (fun _ k => XS.iconst X7.here hx rfl (hb hby d8_101) k) ?_
      show Ends p e below s T7 (mkF m 102 #[.val (.ref o0), .val (.ref o1), .val (.ref o1)] [(.int (0 : Int32))]) _ _ _
      refine Ends.retZ X7 hx Bd.notSynchronized (t := .boolean) Bd.returns (by simp) (hb hby d8_102) (by decide) (by decide) ?_
      exact ⟨0, rfl, N5, e7, Or.inr ⟨rfl, fun ⟨z0, z1, z2, z3, z4, z5, z6⟩ => hc39_8 z1⟩⟩
  · refine Ends.go (fun _ k => st5.trans k) ?_
    show Ends p e below s T5 (mkF m 28 #[.val (.ref o0), .val (.ref o1), .val (.ref o1)] [(.int (0 : Int32))]) _ _ _
    refine Ends.go (fun _ k => XS.ifYes X5.here hx rfl (pc0 := 28) (pc' := 101) rfl (hb hby d8_28) rfl ((if0 _ _).trans (teq (by decide : (0 : Int32) = (0 : Int32))).1) (by decide) (by decide) k) ?_
    show Ends p e below s T5 (mkF m 101 #[.val (.ref o0), .val (.ref o1), .val (.ref o1)] []) _ _ _
    refine Ends.go (fun _ k => XS.iconst X5.here hx rfl (hb hby d8_101) k) ?_
    show Ends p e below s T5 (mkF m 102 #[.val (.ref o0), .val (.ref o1), .val (.ref o1)] [(.int (0 : Int32))]) _ _ _
    refine Ends.retZ X5 hx Bd.notSynchronized (t := .boolean) Bd.returns (by simp) (hb hby d8_102) (by decide) (by decide) ?_
    exact ⟨0, rfl, N5, e5q, Or.inr ⟨rfl, fun ⟨z0, z1, z2, z3, z4, z5, z6⟩ => hcs5 z0⟩⟩
theorem dz8_0 : decode prog_7_method_25_code 0 = .ok (.aload_n 1, 1) := by decide +kernel
theorem dz8_1 : decode prog_7_method_25_code 1 = .ok (.instanceof 8, 3) := by decide +kernel
theorem dz8_4 : decode prog_7_method_25_code 4 = .ok (.ifCond .eq 11, 3) := by decide +kernel
theorem dz8_15 : decode prog_7_method_25_code 15 = .ok (.iconst 0, 1) := by decide +kernel
theorem dz8_16 : decode prog_7_method_25_code 16 = .ok (.ireturn, 1) := by decide +kernel
theorem pnz8 : plainName "com/example/authority/authority/UriReference" = true := by first | (simp [plainName, overriddenIn]; done) | decide +kernel
theorem efz8 (m : MethodId) (o0 : Addr) : entryFrame m #[(.ref o0), .null] 3 = mkF m 0 #[.val (.ref o0), .val .null, .unset] [] := by first | (simp [entryFrame, mkF, argsToLocals, Value.category]; done) | rfl
set_option maxRecDepth 65536 in
set_option maxHeartbeats 40000000 in
theorem rmZ (l : Launch) (Z : State) (a0 : Array Value) (hw : ∀ d ∈ tables_1, d.before a0 Z = true) (ws : List Jvm.Cond) (n0 : Nat) (h0 : Heap) (O0 : Old Z n0 h0) (o0 : Addr)  :
    Meets1 l (⟨"com/example/authority/authority/UriReference", "equals", "(Ljava/lang/Object;)Z"⟩ : MethodName) prog_7_method_25_code 3 (some .boolean) ws ({ frames := 0, cells := 0, slots := 0, locals := 0 } : Room) #[(.ref o0), .null] Z h0 (fun v h L => v = some (.int (0 : Int32)) ∧ Fr n0 L ∧ h = h0) := by
  refine MetFree.of_bodySF (plainFor_of_name pnz8) hisR ?_
  intro p e s m args below meth c s₁ Bd hml0 hP hK
  obtain ⟨rfl, hZ, hh⟩ := hP
  have hx := Bd.exec
  have hby := Bd.bytes
  have hml : c.maxLocals = 3 := hml0
  have hown : s.vm.findClass "com/example/authority/authority/UriReference" = some m.cls := findClass_of_methodNamed Bd.named
  have hnm := (name_of_methodNamed Bd.named Bd.method).1
  have X0 : Stand p l e ({ frames := 0, cells := 0, slots := 0, locals := 0 } : Room) s m #[(.ref o0), .null] below meth c s₁ [] 0 0 := Stand.of_body Bd
  have e0 : s₁.heap = h0 := by rw [← hh, Bd.state]; rfl
  have N0 := Fr.nil n0
  have Z0 := own_old_le O0
  show Ends p e below s s₁ (entryFrame m #[(.ref o0), .null] 3) ({ frames := 0, cells := 0, slots := 0, locals := 0 } : Room).cells ({ frames := 0, cells := 0, slots := 0, locals := 0 } : Room).slots (fun v h L => v = some (.int (0 : Int32)) ∧ Fr n0 L ∧ h = h0)
  refine Ends.go (fun _ k => castTop (efz8 m o0) k) ?_
  have K0 := Keep.refl h0 []
  show Ends p e below s s₁ (mkF m 0 #[.val (.ref o0), .val .null, .unset] []) _ _ _
  refine Ends.go (fun _ k => XS.aloadN X0.here hx rfl (hb hby dz8_0) rfl rfl k) ?_
  show Ends p e below s s₁ (mkF m 1 #[.val (.ref o0), .val .null, .unset] [.null]) _ _ _
  refine Ends.go (X0.instanceofNull hx (g := (mkF m 1 #[.val (.ref o0), .val .null, .unset] [.null])) rfl rfl (hb hby dz8_1)) ?_
  show Ends p e below s s₁ (mkF m 4 #[.val (.ref o0), .val .null, .unset] [(.int (0 : Int32))]) _ _ _
  refine Ends.go (fun _ k => XS.ifYes X0.here hx rfl (pc0 := 4) (pc' := 15) rfl (hb hby dz8_4) rfl ((if0 _ _).trans (teq (by decide : (0 : Int32) = (0 : Int32))).1) (by decide) (by decide) k) ?_
  show Ends p e below s s₁ (mkF m 15 #[.val (.ref o0), .val .null, .unset] []) _ _ _
  refine Ends.go (fun _ k => XS.iconst X0.here hx rfl (hb hby dz8_15) k) ?_
  show Ends p e below s s₁ (mkF m 16 #[.val (.ref o0), .val .null, .unset] [(.int (0 : Int32))]) _ _ _
  refine Ends.retZ X0 hx Bd.notSynchronized (t := .boolean) Bd.returns (by simp) (hb hby dz8_16) (by decide) (by decide) ?_
  exact ⟨rfl, N0, e0⟩
theorem dt8_0 : decode prog_7_method_25_code 0 = .ok (.aload_n 1, 1) := by decide +kernel
theorem dt8_1 : decode prog_7_method_25_code 1 = .ok (.instanceof 8, 3) := by decide +kernel
theorem dt8_4 : decode prog_7_method_25_code 4 = .ok (.ifCond .eq 11, 3) := by decide +kernel
theorem dt8_15 : decode prog_7_method_25_code 15 = .ok (.iconst 0, 1) := by decide +kernel
theorem dt8_16 : decode prog_7_method_25_code 16 = .ok (.ireturn, 1) := by decide +kernel
theorem pnt8 : plainName "com/example/authority/authority/UriReference" = true := by first | (simp [plainName, overriddenIn]; done) | decide +kernel
theorem eft8 (m : MethodId) (o0 : Addr) (o1 : Addr) : entryFrame m #[(.ref o0), (.ref o1)] 3 = mkF m 0 #[.val (.ref o0), .val (.ref o1), .unset] [] := by first | (simp [entryFrame, mkF, argsToLocals, Value.category]; done) | rfl
set_option maxRecDepth 65536 in
set_option maxHeartbeats 40000000 in
theorem rmT (l : Launch) (Z : State) (a0 : Array Value) (hw : ∀ d ∈ tables_1, d.before a0 Z = true) (ws : List Jvm.Cond) (n0 : Nat) (h0 : Heap) (O0 : Old Z n0 h0) (o0 : Addr) (o1 : Addr) (Es : Exa Z h0 o1 "java/lang/String") :
    Meets1 l (⟨"com/example/authority/authority/UriReference", "equals", "(Ljava/lang/Object;)Z"⟩ : MethodName) prog_7_method_25_code 3 (some .boolean) ws ({ frames := 0, cells := 0, slots := 0, locals := 0 } : Room) #[(.ref o0), (.ref o1)] Z h0 (fun v h L => v = some (.int (0 : Int32)) ∧ Fr n0 L ∧ h = h0) := by
  refine MetFree.of_bodySF (plainFor_of_name pnt8) hisR ?_
  intro p e s m args below meth c s₁ Bd hml0 hP hK
  obtain ⟨rfl, hZ, hh⟩ := hP
  have hx := Bd.exec
  have hby := Bd.bytes
  have hml : c.maxLocals = 3 := hml0
  have hown : s.vm.findClass "com/example/authority/authority/UriReference" = some m.cls := findClass_of_methodNamed Bd.named
  have hnm := (name_of_methodNamed Bd.named Bd.method).1
  have X0 : Stand p l e ({ frames := 0, cells := 0, slots := 0, locals := 0 } : Room) s m #[(.ref o0), (.ref o1)] below meth c s₁ [] 0 0 := Stand.of_body Bd
  have e0 : s₁.heap = h0 := by rw [← hh, Bd.state]; rfl
  have N0 := Fr.nil n0
  have Z0 := own_old_le O0
  show Ends p e below s s₁ (entryFrame m #[(.ref o0), (.ref o1)] 3) ({ frames := 0, cells := 0, slots := 0, locals := 0 } : Room).cells ({ frames := 0, cells := 0, slots := 0, locals := 0 } : Room).slots (fun v h L => v = some (.int (0 : Int32)) ∧ Fr n0 L ∧ h = h0)
  refine Ends.go (fun _ k => castTop (eft8 m o0 o1) k) ?_
  have K0 := Keep.refl h0 []
  show Ends p e below s s₁ (mkF m 0 #[.val (.ref o0), .val (.ref o1), .unset] []) _ _ _
  refine Ends.go (fun _ k => XS.aloadN X0.here hx rfl (hb hby dt8_0) rfl rfl k) ?_
  show Ends p e below s s₁ (mkF m 1 #[.val (.ref o0), .val (.ref o1), .unset] [(.ref o1)]) _ _ _
  obtain ⟨T1, X1, e1, st1⟩ := instNo X0 hx hZ hown (hw _ (List.mem_of_getElem? (i := 57) rfl)) e0 Es (own_notsub (hw _ (List.mem_of_getElem? (i := 69) rfl)) (hw _ (List.mem_of_getElem? (i := 70) rfl)) (hw _ (List.mem_of_getElem? (i := 32) rfl))) (g := (mkF m 1 #[.val (.ref o0), .val (.ref o1), .unset] [(.ref o1)])) rfl rfl (hb hby dt8_1)
  refine Ends.go st1 ?_
  show Ends p e below s T1 (mkF m 4 #[.val (.ref o0), .val (.ref o1), .unset] [(.int (0 : Int32))]) _ _ _
  refine Ends.go (fun _ k => XS.ifYes X1.here hx rfl (pc0 := 4) (pc' := 15) rfl (hb hby dt8_4) rfl ((if0 _ _).trans (teq (by decide : (0 : Int32) = (0 : Int32))).1) (by decide) (by decide) k) ?_
  show Ends p e below s T1 (mkF m 15 #[.val (.ref o0), .val (.ref o1), .unset] []) _ _ _
  refine Ends.go (fun _ k => XS.iconst X1.here hx rfl (hb hby dt8_15) k) ?_
  show Ends p e below s T1 (mkF m 16 #[.val (.ref o0), .val (.ref o1), .unset] [(.int (0 : Int32))]) _ _ _
  refine Ends.retZ X1 hx Bd.notSynchronized (t := .boolean) Bd.returns (by simp) (hb hby dt8_16) (by decide) (by decide) ?_
  exact ⟨rfl, N0, e1⟩
theorem pn0 : plainName "com/example/authority/authority/UriReferenceEqualsPinLaw" = true := by first | (simp [plainName, overriddenIn]; done) | decide +kernel
theorem pd0_0 : parseMethodDescriptor "(Ljava/lang/String;IIIIII)V" = some ⟨[(.object "java/lang/String"), .int, .int, .int, .int, .int, .int], none⟩ := by decide +kernel
theorem pd0_1 : parseMethodDescriptor "(Ljava/lang/Object;)Z" = some ⟨[(.object "java/lang/Object")], some .boolean⟩ := by decide +kernel
theorem pd0_2 : parseMethodDescriptor "([C)V" = some ⟨[(.array .char)], none⟩ := by decide +kernel
theorem pd0_3 : parseMethodDescriptor "(C)Ljava/lang/String;" = some ⟨[.char], some (.object "java/lang/String")⟩ := by decide +kernel
theorem ef0 (m : MethodId) (p0 : Int32) (p1 : Int32) (p2 : Int32) (p3 : Int32) (p4 : Int32) (p5 : Int32) : entryFrame m #[(.int p0), (.int p1), (.int p2), (.int p3), (.int p4), (.int p5)] maxLocals = mkF m 0 #[.val (.int p0), .val (.int p1), .val (.int p2), .val (.int p3), .val (.int p4), .val (.int p5), .unset, .unset, .unset, .unset, .unset, .unset, .unset, .unset, .unset, .unset, .unset, .unset, .unset, .unset, .unset, .unset] [] := by first | (simp [entryFrame, mkF, argsToLocals, Value.category, maxLocals]; done) | rfl
set_option maxRecDepth 65536 in
set_option maxHeartbeats 40000000 in
theorem rm0 (l : Launch) (Z : State) (a0 : Array Value) (hw : ∀ d ∈ tables_1, d.before a0 Z = true) (ws : List Jvm.Cond) (n0 : Nat) (h0 : Heap) (O0 : Old Z n0 h0) (p0 : Int32) (p1 : Int32) (p2 : Int32) (p3 : Int32) (p4 : Int32) (p5 : Int32) (G1 : Int32) (SCS : Sta Z Z.heap "java/lang/String" "COMPACT_STRINGS" "Z" (.int G1)) (P5 : ¬ G1 = (0 : Int32)) :
    Meets1 l x code maxLocals ret ws room_1 #[(.int p0), (.int p1), (.int p2), (.int p3), (.int p4), (.int p5)] Z h0 (fun v h L => v = some (.int (1 : Int32)) ∧ Fr n0 L) := by
  refine MetFree.of_bodySF (plainFor_of_name pn0) hisR ?_
  intro p e s m args below meth c s₁ Bd hml0 hP hK
  obtain ⟨rfl, hZ, hh⟩ := hP
  have hx := Bd.exec
  have hby := Bd.bytes
  have hml : c.maxLocals = 22 := hml0
  have hown : s.vm.findClass "com/example/authority/authority/UriReferenceEqualsPinLaw" = some m.cls := findClass_of_methodNamed Bd.named
  have hnm := (name_of_methodNamed Bd.named Bd.method).1
  have X0 : Stand p l e room_1 s m #[(.int p0), (.int p1), (.int p2), (.int p3), (.int p4), (.int p5)] below meth c s₁ [] 0 0 := Stand.of_body Bd
  have e0 : s₁.heap = h0 := by rw [← hh, Bd.state]; rfl
  have N0 := Fr.nil n0
  have Z0 := own_old_le O0
  show Ends p e below s s₁ (entryFrame m #[(.int p0), (.int p1), (.int p2), (.int p3), (.int p4), (.int p5)] maxLocals) room_1.cells room_1.slots (fun v h L => v = some (.int (1 : Int32)) ∧ Fr n0 L)
  refine Ends.go (fun _ k => castTop (ef0 m p0 p1 p2 p3 p4 p5) k) ?_
  have K0 := Keep.refl h0 []
  have hws : ∀ d ∈ StrChars.Road.words, d.before a0 Z = true := fun d hd => hw d ((by decide +kernel : ∀ d ∈ StrChars.Road.words, d ∈ tables_1) d hd)
  show Ends p e below s s₁ (mkF m 0 #[.val (.int p0), .val (.int p1), .val (.int p2), .val (.int p3), .val (.int p4), .val (.int p5), .unset, .unset, .unset, .unset, .unset, .unset, .unset, .unset, .unset, .unset, .unset, .unset, .unset, .unset, .unset, .unset] []) _ _ _
  refine Ends.go (fun _ k => XS.iloadN X0.here hx rfl (hb hby at_0) rfl k) ?_
  show Ends p e below s s₁ (mkF m 1 #[.val (.int p0), .val (.int p1), .val (.int p2), .val (.int p3), .val (.int p4), .val (.int p5), .unset, .unset, .unset, .unset, .unset, .unset, .unset, .unset, .unset, .unset, .unset, .unset, .unset, .unset, .unset, .unset] [(.int p0)]) _ _ _
  refine Ends.go (fun _ k => XS.sipush X0.here hx rfl (hb hby at_1) k) ?_
  show Ends p e below s s₁ (mkF m 4 #[.val (.int p0), .val (.int p1), .val (.int p2), .val (.int p3), .val (.int p4), .val (.int p5), .unset, .unset, .unset, .unset, .unset, .unset, .unset, .unset, .unset, .unset, .unset, .unset, .unset, .unset, .unset, .unset] [(.int (255 : Int32)), (.int p0)]) _ _ _
  refine Ends.go (fun _ k => XS.iand X0.here hx rfl (hb hby at_4) rfl k) ?_
  show Ends p e below s s₁ (mkF m 5 #[.val (.int p0), .val (.int p1), .val (.int p2), .val (.int p3), .val (.int p4), .val (.int p5), .unset, .unset, .unset, .unset, .unset, .unset, .unset, .unset, .unset, .unset, .unset, .unset, .unset, .unset, .unset, .unset] [(.int (p0 &&& (255 : Int32)))]) _ _ _
  refine Ends.go (fun _ k => XS.i2c X0.here hx rfl (hb hby at_5) rfl k) ?_
  show Ends p e below s s₁ (mkF m 6 #[.val (.int p0), .val (.int p1), .val (.int p2), .val (.int p3), .val (.int p4), .val (.int p5), .unset, .unset, .unset, .unset, .unset, .unset, .unset, .unset, .unset, .unset, .unset, .unset, .unset, .unset, .unset, .unset] [(.int ((p0 &&& (255 : Int32)).toUInt32.toUInt16.toUInt32.toInt32))]) _ _ _
  generalize hgc0 : ((p0 &&& (255 : Int32)).toUInt32.toUInt16.toUInt32.toInt32) = c0
  have hc0 : ¬ c0 < 0 ∧ ¬ (255 : Int32) < c0 := by rw [← hgc0]; exact own_c255 p0
  show Ends p e below s s₁ (mkF m 6 #[.val (.int p0), .val (.int p1), .val (.int p2), .val (.int p3), .val (.int p4), .val (.int p5), .unset, .unset, .unset, .unset, .unset, .unset, .unset, .unset, .unset, .unset, .unset, .unset, .unset, .unset, .unset, .unset] [(.int c0)]) _ _ _
  refine Ends.go (fun _ k => XS.istore X0.here hx rfl (hb hby at_6) rfl (l' := #[.val (.int p0), .val (.int p1), .val (.int p2), .val (.int p3), .val (.int p4), .val (.int p5), .val (.int c0), .unset, .unset, .unset, .unset, .unset, .unset, .unset, .unset, .unset, .unset, .unset, .unset, .unset, .unset, .unset]) rfl k) ?_
  show Ends p e below s s₁ (mkF m 8 #[.val (.int p0), .val (.int p1), .val (.int p2), .val (.int p3), .val (.int p4), .val (.int p5), .val (.int c0), .unset, .unset, .unset, .unset, .unset, .unset, .unset, .unset, .unset, .unset, .unset, .unset, .unset, .unset, .unset] []) _ _ _
  refine Ends.go (fun _ k => XS.iloadN X0.here hx rfl (hb hby at_8) rfl k) ?_
  show Ends p e below s s₁ (mkF m 9 #[.val (.int p0), .val (.int p1), .val (.int p2), .val (.int p3), .val (.int p4), .val (.int p5), .val (.int c0), .unset, .unset, .unset, .unset, .unset, .unset, .unset, .unset, .unset, .unset, .unset, .unset, .unset, .unset, .unset] [(.int p0)]) _ _ _
  refine Ends.go (fun _ k => XS.bipush X0.here hx rfl (hb hby at_9) k) ?_
  show Ends p e below s s₁ (mkF m 11 #[.val (.int p0), .val (.int p1), .val (.int p2), .val (.int p3), .val (.int p4), .val (.int p5), .val (.int c0), .unset, .unset, .unset, .unset, .unset, .unset, .unset, .unset, .unset, .unset, .unset, .unset, .unset, .unset, .unset] [(.int (8 : Int32)), (.int p0)]) _ _ _
  refine Ends.go (fun _ k => XS.iushr X0.here hx rfl (hb hby at_11) rfl k) ?_
  show Ends p e below s s₁ (mkF m 12 #[.val (.int p0), .val (.int p1), .val (.int p2), .val (.int p3), .val (.int p4), .val (.int p5), .val (.int c0), .unset, .unset, .unset, .unset, .unset, .unset, .unset, .unset, .unset, .unset, .unset, .unset, .unset, .unset, .unset] [(.int ((p0.toUInt32 >>> ((8 : Int32) &&& 31).toUInt32).toInt32))]) _ _ _
  refine Ends.go (fun _ k => XS.sipush X0.here hx rfl (hb hby at_12) k) ?_
  show Ends p e below s s₁ (mkF m 15 #[.val (.int p0), .val (.int p1), .val (.int p2), .val (.int p3), .val (.int p4), .val (.int p5), .val (.int c0), .unset, .unset, .unset, .unset, .unset, .unset, .unset, .unset, .unset, .unset, .unset, .unset, .unset, .unset, .unset] [(.int (255 : Int32)), (.int ((p0.toUInt32 >>> ((8 : Int32) &&& 31).toUInt32).toInt32))]) _ _ _
  refine Ends.go (fun _ k => XS.iand X0.here hx rfl (hb hby at_15) rfl k) ?_
  show Ends p e below s s₁ (mkF m 16 #[.val (.int p0), .val (.int p1), .val (.int p2), .val (.int p3), .val (.int p4), .val (.int p5), .val (.int c0), .unset, .unset, .unset, .unset, .unset, .unset, .unset, .unset, .unset, .unset, .unset, .unset, .unset, .unset, .unset] [(.int (((p0.toUInt32 >>> ((8 : Int32) &&& 31).toUInt32).toInt32) &&& (255 : Int32)))]) _ _ _
  refine Ends.go (fun _ k => XS.i2c X0.here hx rfl (hb hby at_16) rfl k) ?_
  show Ends p e below s s₁ (mkF m 17 #[.val (.int p0), .val (.int p1), .val (.int p2), .val (.int p3), .val (.int p4), .val (.int p5), .val (.int c0), .unset, .unset, .unset, .unset, .unset, .unset, .unset, .unset, .unset, .unset, .unset, .unset, .unset, .unset, .unset] [(.int ((((p0.toUInt32 >>> ((8 : Int32) &&& 31).toUInt32).toInt32) &&& (255 : Int32)).toUInt32.toUInt16.toUInt32.toInt32))]) _ _ _
  generalize hgc1 : ((((p0.toUInt32 >>> ((8 : Int32) &&& 31).toUInt32).toInt32) &&& (255 : Int32)).toUInt32.toUInt16.toUInt32.toInt32) = c1
  have hc1 : ¬ c1 < 0 ∧ ¬ (255 : Int32) < c1 := by rw [← hgc1]; exact own_c255 _
  show Ends p e below s s₁ (mkF m 17 #[.val (.int p0), .val (.int p1), .val (.int p2), .val (.int p3), .val (.int p4), .val (.int p5), .val (.int c0), .unset, .unset, .unset, .unset, .unset, .unset, .unset, .unset, .unset, .unset, .unset, .unset, .unset, .unset, .unset] [(.int c1)]) _ _ _
  refine Ends.go (fun _ k => XS.istore X0.here hx rfl (hb hby at_17) rfl (l' := #[.val (.int p0), .val (.int p1), .val (.int p2), .val (.int p3), .val (.int p4), .val (.int p5), .val (.int c0), .val (.int c1), .unset, .unset, .unset, .unset, .unset, .unset, .unset, .unset, .unset, .unset, .unset, .unset, .unset, .unset]) rfl k) ?_
  show Ends p e below s s₁ (mkF m 19 #[.val (.int p0), .val (.int p1), .val (.int p2), .val (.int p3), .val (.int p4), .val (.int p5), .val (.int c0), .val (.int c1), .unset, .unset, .unset, .unset, .unset, .unset, .unset, .unset, .unset, .unset, .unset, .unset, .unset, .unset] []) _ _ _
  refine Ends.go (fun _ k => XS.iloadN X0.here hx rfl (hb hby at_19) rfl k) ?_
  show Ends p e below s s₁ (mkF m 20 #[.val (.int p0), .val (.int p1), .val (.int p2), .val (.int p3), .val (.int p4), .val (.int p5), .val (.int c0), .val (.int c1), .unset, .unset, .unset, .unset, .unset, .unset, .unset, .unset, .unset, .unset, .unset, .unset, .unset, .unset] [(.int p1)]) _ _ _
  refine Ends.go (fun _ k => XS.sipush X0.here hx rfl (hb hby at_20) k) ?_
  show Ends p e below s s₁ (mkF m 23 #[.val (.int p0), .val (.int p1), .val (.int p2), .val (.int p3), .val (.int p4), .val (.int p5), .val (.int c0), .val (.int c1), .unset, .unset, .unset, .unset, .unset, .unset, .unset, .unset, .unset, .unset, .unset, .unset, .unset, .unset] [(.int (255 : Int32)), (.int p1)]) _ _ _
  refine Ends.go (fun _ k => XS.iand X0.here hx rfl (hb hby at_23) rfl k) ?_
  show Ends p e below s s₁ (mkF m 24 #[.val (.int p0), .val (.int p1), .val (.int p2), .val (.int p3), .val (.int p4), .val (.int p5), .val (.int c0), .val (.int c1), .unset, .unset, .unset, .unset, .unset, .unset, .unset, .unset, .unset, .unset, .unset, .unset, .unset, .unset] [(.int (p1 &&& (255 : Int32)))]) _ _ _
  refine Ends.go (fun _ k => XS.i2c X0.here hx rfl (hb hby at_24) rfl k) ?_
  show Ends p e below s s₁ (mkF m 25 #[.val (.int p0), .val (.int p1), .val (.int p2), .val (.int p3), .val (.int p4), .val (.int p5), .val (.int c0), .val (.int c1), .unset, .unset, .unset, .unset, .unset, .unset, .unset, .unset, .unset, .unset, .unset, .unset, .unset, .unset] [(.int ((p1 &&& (255 : Int32)).toUInt32.toUInt16.toUInt32.toInt32))]) _ _ _
  generalize hgd0 : ((p1 &&& (255 : Int32)).toUInt32.toUInt16.toUInt32.toInt32) = d0
  have hd0 : ¬ d0 < 0 ∧ ¬ (255 : Int32) < d0 := by rw [← hgd0]; exact own_c255 p1
  show Ends p e below s s₁ (mkF m 25 #[.val (.int p0), .val (.int p1), .val (.int p2), .val (.int p3), .val (.int p4), .val (.int p5), .val (.int c0), .val (.int c1), .unset, .unset, .unset, .unset, .unset, .unset, .unset, .unset, .unset, .unset, .unset, .unset, .unset, .unset] [(.int d0)]) _ _ _
  refine Ends.go (fun _ k => XS.istore X0.here hx rfl (hb hby at_25) rfl (l' := #[.val (.int p0), .val (.int p1), .val (.int p2), .val (.int p3), .val (.int p4), .val (.int p5), .val (.int c0), .val (.int c1), .val (.int d0), .unset, .unset, .unset, .unset, .unset, .unset, .unset, .unset, .unset, .unset, .unset, .unset, .unset]) rfl k) ?_
  show Ends p e below s s₁ (mkF m 27 #[.val (.int p0), .val (.int p1), .val (.int p2), .val (.int p3), .val (.int p4), .val (.int p5), .val (.int c0), .val (.int c1), .val (.int d0), .unset, .unset, .unset, .unset, .unset, .unset, .unset, .unset, .unset, .unset, .unset, .unset, .unset] []) _ _ _
  refine Ends.go (fun _ k => XS.iloadN X0.here hx rfl (hb hby at_27) rfl k) ?_
  show Ends p e below s s₁ (mkF m 28 #[.val (.int p0), .val (.int p1), .val (.int p2), .val (.int p3), .val (.int p4), .val (.int p5), .val (.int c0), .val (.int c1), .val (.int d0), .unset, .unset, .unset, .unset, .unset, .unset, .unset, .unset, .unset, .unset, .unset, .unset, .unset] [(.int p1)]) _ _ _
  refine Ends.go (fun _ k => XS.bipush X0.here hx rfl (hb hby at_28) k) ?_
  show Ends p e below s s₁ (mkF m 30 #[.val (.int p0), .val (.int p1), .val (.int p2), .val (.int p3), .val (.int p4), .val (.int p5), .val (.int c0), .val (.int c1), .val (.int d0), .unset, .unset, .unset, .unset, .unset, .unset, .unset, .unset, .unset, .unset, .unset, .unset, .unset] [(.int (8 : Int32)), (.int p1)]) _ _ _
  refine Ends.go (fun _ k => XS.iushr X0.here hx rfl (hb hby at_30) rfl k) ?_
  show Ends p e below s s₁ (mkF m 31 #[.val (.int p0), .val (.int p1), .val (.int p2), .val (.int p3), .val (.int p4), .val (.int p5), .val (.int c0), .val (.int c1), .val (.int d0), .unset, .unset, .unset, .unset, .unset, .unset, .unset, .unset, .unset, .unset, .unset, .unset, .unset] [(.int ((p1.toUInt32 >>> ((8 : Int32) &&& 31).toUInt32).toInt32))]) _ _ _
  refine Ends.go (fun _ k => XS.sipush X0.here hx rfl (hb hby at_31) k) ?_
  show Ends p e below s s₁ (mkF m 34 #[.val (.int p0), .val (.int p1), .val (.int p2), .val (.int p3), .val (.int p4), .val (.int p5), .val (.int c0), .val (.int c1), .val (.int d0), .unset, .unset, .unset, .unset, .unset, .unset, .unset, .unset, .unset, .unset, .unset, .unset, .unset] [(.int (255 : Int32)), (.int ((p1.toUInt32 >>> ((8 : Int32) &&& 31).toUInt32).toInt32))]) _ _ _
  refine Ends.go (fun _ k => XS.iand X0.here hx rfl (hb hby at_34) rfl k) ?_
  show Ends p e below s s₁ (mkF m 35 #[.val (.int p0), .val (.int p1), .val (.int p2), .val (.int p3), .val (.int p4), .val (.int p5), .val (.int c0), .val (.int c1), .val (.int d0), .unset, .unset, .unset, .unset, .unset, .unset, .unset, .unset, .unset, .unset, .unset, .unset, .unset] [(.int (((p1.toUInt32 >>> ((8 : Int32) &&& 31).toUInt32).toInt32) &&& (255 : Int32)))]) _ _ _
  refine Ends.go (fun _ k => XS.i2c X0.here hx rfl (hb hby at_35) rfl k) ?_
  show Ends p e below s s₁ (mkF m 36 #[.val (.int p0), .val (.int p1), .val (.int p2), .val (.int p3), .val (.int p4), .val (.int p5), .val (.int c0), .val (.int c1), .val (.int d0), .unset, .unset, .unset, .unset, .unset, .unset, .unset, .unset, .unset, .unset, .unset, .unset, .unset] [(.int ((((p1.toUInt32 >>> ((8 : Int32) &&& 31).toUInt32).toInt32) &&& (255 : Int32)).toUInt32.toUInt16.toUInt32.toInt32))]) _ _ _
  generalize hgd1 : ((((p1.toUInt32 >>> ((8 : Int32) &&& 31).toUInt32).toInt32) &&& (255 : Int32)).toUInt32.toUInt16.toUInt32.toInt32) = d1
  have hd1 : ¬ d1 < 0 ∧ ¬ (255 : Int32) < d1 := by rw [← hgd1]; exact own_c255 _
  show Ends p e below s s₁ (mkF m 36 #[.val (.int p0), .val (.int p1), .val (.int p2), .val (.int p3), .val (.int p4), .val (.int p5), .val (.int c0), .val (.int c1), .val (.int d0), .unset, .unset, .unset, .unset, .unset, .unset, .unset, .unset, .unset, .unset, .unset, .unset, .unset] [(.int d1)]) _ _ _
  refine Ends.go (fun _ k => XS.istore X0.here hx rfl (hb hby at_36) rfl (l' := #[.val (.int p0), .val (.int p1), .val (.int p2), .val (.int p3), .val (.int p4), .val (.int p5), .val (.int c0), .val (.int c1), .val (.int d0), .val (.int d1), .unset, .unset, .unset, .unset, .unset, .unset, .unset, .unset, .unset, .unset, .unset, .unset]) rfl k) ?_
  show Ends p e below s s₁ (mkF m 38 #[.val (.int p0), .val (.int p1), .val (.int p2), .val (.int p3), .val (.int p4), .val (.int p5), .val (.int c0), .val (.int c1), .val (.int d0), .val (.int d1), .unset, .unset, .unset, .unset, .unset, .unset, .unset, .unset, .unset, .unset, .unset, .unset] []) _ _ _
  refine Ends.go (fun _ k => XS.iload X0.here hx rfl (hb hby at_38) rfl k) ?_
  show Ends p e below s s₁ (mkF m 40 #[.val (.int p0), .val (.int p1), .val (.int p2), .val (.int p3), .val (.int p4), .val (.int p5), .val (.int c0), .val (.int c1), .val (.int d0), .val (.int d1), .unset, .unset, .unset, .unset, .unset, .unset, .unset, .unset, .unset, .unset, .unset, .unset] [(.int p4)]) _ _ _
  refine Ends.go (fun _ k => XS.iconst X0.here hx rfl (hb hby at_40) k) ?_
  show Ends p e below s s₁ (mkF m 41 #[.val (.int p0), .val (.int p1), .val (.int p2), .val (.int p3), .val (.int p4), .val (.int p5), .val (.int c0), .val (.int c1), .val (.int d0), .val (.int d1), .unset, .unset, .unset, .unset, .unset, .unset, .unset, .unset, .unset, .unset, .unset, .unset] [(.int (3 : Int32)), (.int p4)]) _ _ _
  refine Ends.go (fun _ k => XS.iand X0.here hx rfl (hb hby at_41) rfl k) ?_
  show Ends p e below s s₁ (mkF m 42 #[.val (.int p0), .val (.int p1), .val (.int p2), .val (.int p3), .val (.int p4), .val (.int p5), .val (.int c0), .val (.int c1), .val (.int d0), .val (.int d1), .unset, .unset, .unset, .unset, .unset, .unset, .unset, .unset, .unset, .unset, .unset, .unset] [(.int (p4 &&& (3 : Int32)))]) _ _ _
  have J200 : ∀ (TT : State) (hh : Heap) (lcs : List Loc) (ta tb t1 t2 : Addr) (k1 k2 : ClassId) (ca cb : List Int32) (N1 N2 : Int32) (va vb : List Value) (md tx : Int32) (XX : Stand p l e room_1 s m #[(.int p0), (.int p1), (.int p2), (.int p3), (.int p4), (.int p5)] below meth c TT lcs 6 18) (eTT : TT.heap = hh) (OO : Old Z n0 hh) (NN : Fr n0 lcs) (KK : Keep h0 hh []) (SA : StrA Z hh ta t1 k1 ca N1 va) (SB : StrA Z hh tb t2 k2 cb N2 vb) (htx : (tx = 1 ∧ ca = cb) ∨ (tx = 0 ∧ ¬ ca = cb)), Ends p e below s TT (mkF m 200 #[.val (.int p0), .val (.int p1), .val (.int p2), .val (.int p3), .val (.int p4), .val (.int p5), .val (.int c0), .val (.int c1), .val (.int d0), .val (.int d1), .val (.int md), .val (.ref ta), .val (.ref tb), .val (.int tx), .unset, .unset, .unset, .unset, .unset, .unset, .unset, .unset] []) room_1.cells room_1.slots (fun v h L => v = some (.int (1 : Int32)) ∧ Fr n0 L) := by
    intro TT hh lcs ta tb t1 t2 k1 k2 ca cb N1 N2 va vb md tx XX eTT OO NN KK SA SB htx
    have J341 : ∀ (T3 : State) (h3 : Heap) (lcs : List Loc) (aa ab : Addr) (kA kB : ClassId) (kk fe ex fb_0 fb_1 fb_2 fb_3 fb_4 fb_5 : Int32) (X3 : Stand p l e room_1 s m #[(.int p0), (.int p1), (.int p2), (.int p3), (.int p4), (.int p5)] below meth c T3 lcs 8 30) (eT3 : T3.heap = h3) (O3 : Old Z n0 h3) (N3 : Fr n0 lcs) (K3 : Keep h0 h3 []) (SA : StrA Z h3 ta t1 k1 ca N1 va) (SB : StrA Z h3 tb t2 k2 cb N2 vb) (VA : Arv Z h3 aa kA .int (6 : Int32) [(.int p2), (.int p3), (.int (p2 ^^^ (-1 : Int32))), (.int (p3 ^^^ (-1 : Int32))), (.int (p2 ^^^ p3)), (.int (p2 - p3))] (.int (0 : Int32))) (VB : Arv Z h3 ab kB .int (6 : Int32) [(.int fb_0), (.int fb_1), (.int fb_2), (.int fb_3), (.int fb_4), (.int fb_5)] (.int (0 : Int32))) (hex : (ex = 1 ∧ ca = cb ∧ p2 = fb_0 ∧ p3 = fb_1 ∧ (p2 ^^^ (-1 : Int32)) = fb_2 ∧ (p3 ^^^ (-1 : Int32)) = fb_3 ∧ (p2 ^^^ p3) = fb_4 ∧ (p2 - p3) = fb_5) ∨ (ex = 0 ∧ ¬ (ca = cb ∧ p2 = fb_0 ∧ p3 = fb_1 ∧ (p2 ^^^ (-1 : Int32)) = fb_2 ∧ (p3 ^^^ (-1 : Int32)) = fb_3 ∧ (p2 ^^^ p3) = fb_4 ∧ (p2 - p3) = fb_5))), Ends p e below s T3 (mkF m 341 #[.val (.int p0), .val (.int p1), .val (.int p2), .val (.int p3), .val (.int p4), .val (.int p5), .val (.int c0), .val (.int c1), .val (.int d0), .val (.int d1), .val (.int md), .val (.ref ta), .val (.ref tb), .val (.int tx), .val (.ref aa), .val (.ref ab), .val (.int kk), .val (.int fe), .val (.int ex), .unset, .unset, .unset] []) room_1.cells room_1.slots (fun v h L => v = some (.int (1 : Int32)) ∧ Fr n0 L) := by
      intro T3 h3 lcs aa ab kA kB kk fe ex fb_0 fb_1 fb_2 fb_3 fb_4 fb_5 X3 eT3 O3 N3 K3 SA SB VA VB hex
      obtain ⟨Ea, Va, Ca, Aa, -, -, -⟩ := id SA
      obtain ⟨Eb, Vb, Cb, Ab, -, -, -⟩ := id SB
      show Ends p e below s T3 (mkF m 341 #[.val (.int p0), .val (.int p1), .val (.int p2), .val (.int p3), .val (.int p4), .val (.int p5), .val (.int c0), .val (.int c1), .val (.int d0), .val (.int d1), .val (.int md), .val (.ref ta), .val (.ref tb), .val (.int tx), .val (.ref aa), .val (.ref ab), .val (.int kk), .val (.int fe), .val (.int ex), .unset, .unset, .unset] []) _ _ _
      obtain ⟨T1, h1, X1, e1, E1, A1, D1, -, st1⟩ := newO X3 hx hZ hown (hw _ (List.mem_of_getElem? (i := 31) rfl)) (hw _ (List.mem_of_getElem? (i := 32) rfl)) (hw _ (List.mem_of_getElem? (i := 33) rfl)) eT3 (g := (mkF m 341 #[.val (.int p0), .val (.int p1), .val (.int p2), .val (.int p3), .val (.int p4), .val (.int p5), .val (.int c0), .val (.int c1), .val (.int d0), .val (.int d1), .val (.int md), .val (.ref ta), .val (.ref tb), .val (.int tx), .val (.ref aa), .val (.ref ab), .val (.int kk), .val (.int fe), .val (.int ex), .unset, .unset, .unset] [])) rfl (hb hby at_341) (by decide) (by decide)
      obtain ⟨b1, g1⟩ : ∃ z, z = h3.size := ⟨_, rfl⟩
      rw [← g1] at A1 D1 st1
      refine Ends.go st1 ?_
      have ne_ta_b1 : ta ≠ b1 := Nat.ne_of_lt (Nat.lt_of_lt_of_le Ea.lt (Nat.le_of_eq g1.symm))
      have ne_t1_b1 : t1 ≠ b1 := Nat.ne_of_lt (Nat.lt_of_lt_of_le Aa.lt (Nat.le_of_eq g1.symm))
      have ne_tb_b1 : tb ≠ b1 := Nat.ne_of_lt (Nat.lt_of_lt_of_le Eb.lt (Nat.le_of_eq g1.symm))
      have ne_t2_b1 : t2 ≠ b1 := Nat.ne_of_lt (Nat.lt_of_lt_of_le Ab.lt (Nat.le_of_eq g1.symm))
      have ne_aa_b1 : aa ≠ b1 := Nat.ne_of_lt (Nat.lt_of_lt_of_le VA.lt (Nat.le_of_eq g1.symm))
      have ne_ab_b1 : ab ≠ b1 := Nat.ne_of_lt (Nat.lt_of_lt_of_le VB.lt (Nat.le_of_eq g1.symm))
      have g_b1 : n0 ≤ b1 := Nat.le_trans (own_old_le O3) (Nat.le_of_eq g1.symm)
      have sz_b1 : h0.size ≤ b1 := Nat.le_trans K3.1 (Nat.le_of_eq g1.symm)
      have K1 := K3.ext E1
      have O1 := O3.ext E1
      have F_mText_b1 : Fld Z h1 b1 "com/example/authority/authority/UriReference" "mText" "Ljava/lang/String;" .null := D1 (Or.inr (hw _ (List.mem_of_getElem? (i := 39) rfl))) (ty := (.object "java/lang/String")) (by decide)
      have F_mSchemeEnd_b1 : Fld Z h1 b1 "com/example/authority/authority/UriReference" "mSchemeEnd" "I" (.int (0 : Int32)) := D1 (Or.inr (hw _ (List.mem_of_getElem? (i := 41) rfl))) (ty := .int) (by decide)
      have F_mHostStart_b1 : Fld Z h1 b1 "com/example/authority/authority/UriReference" "mHostStart" "I" (.int (0 : Int32)) := D1 (Or.inr (hw _ (List.mem_of_getElem? (i := 43) rfl))) (ty := .int) (by decide)
      have F_mHostEnd_b1 : Fld Z h1 b1 "com/example/authority/authority/UriReference" "mHostEnd" "I" (.int (0 : Int32)) := D1 (Or.inr (hw _ (List.mem_of_getElem? (i := 45) rfl))) (ty := .int) (by decide)
      have F_mPathStart_b1 : Fld Z h1 b1 "com/example/authority/authority/UriReference" "mPathStart" "I" (.int (0 : Int32)) := D1 (Or.inr (hw _ (List.mem_of_getElem? (i := 47) rfl))) (ty := .int) (by decide)
      have F_mPathEnd_b1 : Fld Z h1 b1 "com/example/authority/authority/UriReference" "mPathEnd" "I" (.int (0 : Int32)) := D1 (Or.inr (hw _ (List.mem_of_getElem? (i := 49) rfl))) (ty := .int) (by decide)
      have F_mQueryEnd_b1 : Fld Z h1 b1 "com/example/authority/authority/UriReference" "mQueryEnd" "I" (.int (0 : Int32)) := D1 (Or.inr (hw _ (List.mem_of_getElem? (i := 51) rfl))) (ty := .int) (by decide)
      show Ends p e below s T1 (mkF m 344 #[.val (.int p0), .val (.int p1), .val (.int p2), .val (.int p3), .val (.int p4), .val (.int p5), .val (.int c0), .val (.int c1), .val (.int d0), .val (.int d1), .val (.int md), .val (.ref ta), .val (.ref tb), .val (.int tx), .val (.ref aa), .val (.ref ab), .val (.int kk), .val (.int fe), .val (.int ex), .unset, .unset, .unset] [(.ref b1)]) _ _ _
      refine Ends.go (fun _ k => XS.dup X1.here hx rfl (hb hby at_344) rfl rfl k) ?_
      show Ends p e below s T1 (mkF m 345 #[.val (.int p0), .val (.int p1), .val (.int p2), .val (.int p3), .val (.int p4), .val (.int p5), .val (.int c0), .val (.int c1), .val (.int d0), .val (.int d1), .val (.int md), .val (.ref ta), .val (.ref tb), .val (.int tx), .val (.ref aa), .val (.ref ab), .val (.int kk), .val (.int fe), .val (.int ex), .unset, .unset, .unset] [(.ref b1), (.ref b1)]) _ _ _
      refine Ends.go (fun _ k => XS.aload X1.here hx rfl (hb hby at_345) rfl rfl k) ?_
      show Ends p e below s T1 (mkF m 347 #[.val (.int p0), .val (.int p1), .val (.int p2), .val (.int p3), .val (.int p4), .val (.int p5), .val (.int c0), .val (.int c1), .val (.int d0), .val (.int d1), .val (.int md), .val (.ref ta), .val (.ref tb), .val (.int tx), .val (.ref aa), .val (.ref ab), .val (.int kk), .val (.int fe), .val (.int ex), .unset, .unset, .unset] [(.ref ta), (.ref b1), (.ref b1)]) _ _ _
      refine Ends.go (fun _ k => XS.aload X1.here hx rfl (hb hby at_347) rfl rfl k) ?_
      show Ends p e below s T1 (mkF m 349 #[.val (.int p0), .val (.int p1), .val (.int p2), .val (.int p3), .val (.int p4), .val (.int p5), .val (.int c0), .val (.int c1), .val (.int d0), .val (.int d1), .val (.int md), .val (.ref ta), .val (.ref tb), .val (.int tx), .val (.ref aa), .val (.ref ab), .val (.int kk), .val (.int fe), .val (.int ex), .unset, .unset, .unset] [(.ref aa), (.ref ta), (.ref b1), (.ref b1)]) _ _ _
      refine Ends.go (fun _ k => XS.iconst X1.here hx rfl (hb hby at_349) k) ?_
      show Ends p e below s T1 (mkF m 350 #[.val (.int p0), .val (.int p1), .val (.int p2), .val (.int p3), .val (.int p4), .val (.int p5), .val (.int c0), .val (.int c1), .val (.int d0), .val (.int d1), .val (.int md), .val (.ref ta), .val (.ref tb), .val (.int tx), .val (.ref aa), .val (.ref ab), .val (.int kk), .val (.int fe), .val (.int ex), .unset, .unset, .unset] [(.int (0 : Int32)), (.ref aa), (.ref ta), (.ref b1), (.ref b1)]) _ _ _
      obtain ⟨cl2, Ar2, q2, S2, M2, H2, G2⟩ := id (VA.ext E1)
      have hin2 := inb_of (j := (0 : Int32)) S2 ⟨by decide, by decide⟩
      refine Ends.go (X1.iaload hx (j := (0 : Int32)) (v := (.int p2)) (by rw [e1]; exact Ar2.1) (State.isArrayOf_alike hZ.alike Ar2.2.1) Ar2.2.2 hin2 (H2.at hin2 rfl) (g := (mkF m 350 #[.val (.int p0), .val (.int p1), .val (.int p2), .val (.int p3), .val (.int p4), .val (.int p5), .val (.int c0), .val (.int c1), .val (.int d0), .val (.int d1), .val (.int md), .val (.ref ta), .val (.ref tb), .val (.int tx), .val (.ref aa), .val (.ref ab), .val (.int kk), .val (.int fe), .val (.int ex), .unset, .unset, .unset] [(.int (0 : Int32)), (.ref aa), (.ref ta), (.ref b1), (.ref b1)])) rfl rfl (hb hby at_350)) ?_
      show Ends p e below s T1 (mkF m 351 #[.val (.int p0), .val (.int p1), .val (.int p2), .val (.int p3), .val (.int p4), .val (.int p5), .val (.int c0), .val (.int c1), .val (.int d0), .val (.int d1), .val (.int md), .val (.ref ta), .val (.ref tb), .val (.int tx), .val (.ref aa), .val (.ref ab), .val (.int kk), .val (.int fe), .val (.int ex), .unset, .unset, .unset] [(.int p2), (.ref ta), (.ref b1), (.ref b1)]) _ _ _
      refine Ends.go (fun _ k => XS.aload X1.here hx rfl (hb hby at_351) rfl rfl k) ?_
      show Ends p e below s T1 (mkF m 353 #[.val (.int p0), .val (.int p1), .val (.int p2), .val (.int p3), .val (.int p4), .val (.int p5), .val (.int c0), .val (.int c1), .val (.int d0), .val (.int d1), .val (.int md), .val (.ref ta), .val (.ref tb), .val (.int tx), .val (.ref aa), .val (.ref ab), .val (.int kk), .val (.int fe), .val (.int ex), .unset, .unset, .unset] [(.ref aa), (.int p2), (.ref ta), (.ref b1), (.ref b1)]) _ _ _
      refine Ends.go (fun _ k => XS.iconst X1.here hx rfl (hb hby at_353) k) ?_
      show Ends p e below s T1 (mkF m 354 #[.val (.int p0), .val (.int p1), .val (.int p2), .val (.int p3), .val (.int p4), .val (.int p5), .val (.int c0), .val (.int c1), .val (.int d0), .val (.int d1), .val (.int md), .val (.ref ta), .val (.ref tb), .val (.int tx), .val (.ref aa), .val (.ref ab), .val (.int kk), .val (.int fe), .val (.int ex), .unset, .unset, .unset] [(.int (1 : Int32)), (.ref aa), (.int p2), (.ref ta), (.ref b1), (.ref b1)]) _ _ _
      obtain ⟨cl3, Ar3, q3, S3, M3, H3, G3⟩ := id (VA.ext E1)
      have hin3 := inb_of (j := (1 : Int32)) S3 ⟨by decide, by decide⟩
      refine Ends.go (X1.iaload hx (j := (1 : Int32)) (v := (.int p3)) (by rw [e1]; exact Ar3.1) (State.isArrayOf_alike hZ.alike Ar3.2.1) Ar3.2.2 hin3 (H3.at hin3 rfl) (g := (mkF m 354 #[.val (.int p0), .val (.int p1), .val (.int p2), .val (.int p3), .val (.int p4), .val (.int p5), .val (.int c0), .val (.int c1), .val (.int d0), .val (.int d1), .val (.int md), .val (.ref ta), .val (.ref tb), .val (.int tx), .val (.ref aa), .val (.ref ab), .val (.int kk), .val (.int fe), .val (.int ex), .unset, .unset, .unset] [(.int (1 : Int32)), (.ref aa), (.int p2), (.ref ta), (.ref b1), (.ref b1)])) rfl rfl (hb hby at_354)) ?_
      show Ends p e below s T1 (mkF m 355 #[.val (.int p0), .val (.int p1), .val (.int p2), .val (.int p3), .val (.int p4), .val (.int p5), .val (.int c0), .val (.int c1), .val (.int d0), .val (.int d1), .val (.int md), .val (.ref ta), .val (.ref tb), .val (.int tx), .val (.ref aa), .val (.ref ab), .val (.int kk), .val (.int fe), .val (.int ex), .unset, .unset, .unset] [(.int p3), (.int p2), (.ref ta), (.ref b1), (.ref b1)]) _ _ _
      refine Ends.go (fun _ k => XS.aload X1.here hx rfl (hb hby at_355) rfl rfl k) ?_
      show Ends p e below s T1 (mkF m 357 #[.val (.int p0), .val (.int p1), .val (.int p2), .val (.int p3), .val (.int p4), .val (.int p5), .val (.int c0), .val (.int c1), .val (.int d0), .val (.int d1), .val (.int md), .val (.ref ta), .val (.ref tb), .val (.int tx), .val (.ref aa), .val (.ref ab), .val (.int kk), .val (.int fe), .val (.int ex), .unset, .unset, .unset] [(.ref aa), (.int p3), (.int p2), (.ref ta), (.ref b1), (.ref b1)]) _ _ _
      refine Ends.go (fun _ k => XS.iconst X1.here hx rfl (hb hby at_357) k) ?_
      show Ends p e below s T1 (mkF m 358 #[.val (.int p0), .val (.int p1), .val (.int p2), .val (.int p3), .val (.int p4), .val (.int p5), .val (.int c0), .val (.int c1), .val (.int d0), .val (.int d1), .val (.int md), .val (.ref ta), .val (.ref tb), .val (.int tx), .val (.ref aa), .val (.ref ab), .val (.int kk), .val (.int fe), .val (.int ex), .unset, .unset, .unset] [(.int (2 : Int32)), (.ref aa), (.int p3), (.int p2), (.ref ta), (.ref b1), (.ref b1)]) _ _ _
      obtain ⟨cl4, Ar4, q4, S4, M4, H4, G4⟩ := id (VA.ext E1)
      have hin4 := inb_of (j := (2 : Int32)) S4 ⟨by decide, by decide⟩
      refine Ends.go (X1.iaload hx (j := (2 : Int32)) (v := (.int (p2 ^^^ (-1 : Int32)))) (by rw [e1]; exact Ar4.1) (State.isArrayOf_alike hZ.alike Ar4.2.1) Ar4.2.2 hin4 (H4.at hin4 rfl) (g := (mkF m 358 #[.val (.int p0), .val (.int p1), .val (.int p2), .val (.int p3), .val (.int p4), .val (.int p5), .val (.int c0), .val (.int c1), .val (.int d0), .val (.int d1), .val (.int md), .val (.ref ta), .val (.ref tb), .val (.int tx), .val (.ref aa), .val (.ref ab), .val (.int kk), .val (.int fe), .val (.int ex), .unset, .unset, .unset] [(.int (2 : Int32)), (.ref aa), (.int p3), (.int p2), (.ref ta), (.ref b1), (.ref b1)])) rfl rfl (hb hby at_358)) ?_
      show Ends p e below s T1 (mkF m 359 #[.val (.int p0), .val (.int p1), .val (.int p2), .val (.int p3), .val (.int p4), .val (.int p5), .val (.int c0), .val (.int c1), .val (.int d0), .val (.int d1), .val (.int md), .val (.ref ta), .val (.ref tb), .val (.int tx), .val (.ref aa), .val (.ref ab), .val (.int kk), .val (.int fe), .val (.int ex), .unset, .unset, .unset] [(.int (p2 ^^^ (-1 : Int32))), (.int p3), (.int p2), (.ref ta), (.ref b1), (.ref b1)]) _ _ _
      refine Ends.go (fun _ k => XS.aload X1.here hx rfl (hb hby at_359) rfl rfl k) ?_
      show Ends p e below s T1 (mkF m 361 #[.val (.int p0), .val (.int p1), .val (.int p2), .val (.int p3), .val (.int p4), .val (.int p5), .val (.int c0), .val (.int c1), .val (.int d0), .val (.int d1), .val (.int md), .val (.ref ta), .val (.ref tb), .val (.int tx), .val (.ref aa), .val (.ref ab), .val (.int kk), .val (.int fe), .val (.int ex), .unset, .unset, .unset] [(.ref aa), (.int (p2 ^^^ (-1 : Int32))), (.int p3), (.int p2), (.ref ta), (.ref b1), (.ref b1)]) _ _ _
      refine Ends.go (fun _ k => XS.iconst X1.here hx rfl (hb hby at_361) k) ?_
      show Ends p e below s T1 (mkF m 362 #[.val (.int p0), .val (.int p1), .val (.int p2), .val (.int p3), .val (.int p4), .val (.int p5), .val (.int c0), .val (.int c1), .val (.int d0), .val (.int d1), .val (.int md), .val (.ref ta), .val (.ref tb), .val (.int tx), .val (.ref aa), .val (.ref ab), .val (.int kk), .val (.int fe), .val (.int ex), .unset, .unset, .unset] [(.int (3 : Int32)), (.ref aa), (.int (p2 ^^^ (-1 : Int32))), (.int p3), (.int p2), (.ref ta), (.ref b1), (.ref b1)]) _ _ _
      obtain ⟨cl5, Ar5, q5, S5, M5, H5, G5⟩ := id (VA.ext E1)
      have hin5 := inb_of (j := (3 : Int32)) S5 ⟨by decide, by decide⟩
      refine Ends.go (X1.iaload hx (j := (3 : Int32)) (v := (.int (p3 ^^^ (-1 : Int32)))) (by rw [e1]; exact Ar5.1) (State.isArrayOf_alike hZ.alike Ar5.2.1) Ar5.2.2 hin5 (H5.at hin5 rfl) (g := (mkF m 362 #[.val (.int p0), .val (.int p1), .val (.int p2), .val (.int p3), .val (.int p4), .val (.int p5), .val (.int c0), .val (.int c1), .val (.int d0), .val (.int d1), .val (.int md), .val (.ref ta), .val (.ref tb), .val (.int tx), .val (.ref aa), .val (.ref ab), .val (.int kk), .val (.int fe), .val (.int ex), .unset, .unset, .unset] [(.int (3 : Int32)), (.ref aa), (.int (p2 ^^^ (-1 : Int32))), (.int p3), (.int p2), (.ref ta), (.ref b1), (.ref b1)])) rfl rfl (hb hby at_362)) ?_
      show Ends p e below s T1 (mkF m 363 #[.val (.int p0), .val (.int p1), .val (.int p2), .val (.int p3), .val (.int p4), .val (.int p5), .val (.int c0), .val (.int c1), .val (.int d0), .val (.int d1), .val (.int md), .val (.ref ta), .val (.ref tb), .val (.int tx), .val (.ref aa), .val (.ref ab), .val (.int kk), .val (.int fe), .val (.int ex), .unset, .unset, .unset] [(.int (p3 ^^^ (-1 : Int32))), (.int (p2 ^^^ (-1 : Int32))), (.int p3), (.int p2), (.ref ta), (.ref b1), (.ref b1)]) _ _ _
      refine Ends.go (fun _ k => XS.aload X1.here hx rfl (hb hby at_363) rfl rfl k) ?_
      show Ends p e below s T1 (mkF m 365 #[.val (.int p0), .val (.int p1), .val (.int p2), .val (.int p3), .val (.int p4), .val (.int p5), .val (.int c0), .val (.int c1), .val (.int d0), .val (.int d1), .val (.int md), .val (.ref ta), .val (.ref tb), .val (.int tx), .val (.ref aa), .val (.ref ab), .val (.int kk), .val (.int fe), .val (.int ex), .unset, .unset, .unset] [(.ref aa), (.int (p3 ^^^ (-1 : Int32))), (.int (p2 ^^^ (-1 : Int32))), (.int p3), (.int p2), (.ref ta), (.ref b1), (.ref b1)]) _ _ _
      refine Ends.go (fun _ k => XS.iconst X1.here hx rfl (hb hby at_365) k) ?_
      show Ends p e below s T1 (mkF m 366 #[.val (.int p0), .val (.int p1), .val (.int p2), .val (.int p3), .val (.int p4), .val (.int p5), .val (.int c0), .val (.int c1), .val (.int d0), .val (.int d1), .val (.int md), .val (.ref ta), .val (.ref tb), .val (.int tx), .val (.ref aa), .val (.ref ab), .val (.int kk), .val (.int fe), .val (.int ex), .unset, .unset, .unset] [(.int (4 : Int32)), (.ref aa), (.int (p3 ^^^ (-1 : Int32))), (.int (p2 ^^^ (-1 : Int32))), (.int p3), (.int p2), (.ref ta), (.ref b1), (.ref b1)]) _ _ _
      obtain ⟨cl6, Ar6, q6, S6, M6, H6, G6⟩ := id (VA.ext E1)
      have hin6 := inb_of (j := (4 : Int32)) S6 ⟨by decide, by decide⟩
      refine Ends.go (X1.iaload hx (j := (4 : Int32)) (v := (.int (p2 ^^^ p3))) (by rw [e1]; exact Ar6.1) (State.isArrayOf_alike hZ.alike Ar6.2.1) Ar6.2.2 hin6 (H6.at hin6 rfl) (g := (mkF m 366 #[.val (.int p0), .val (.int p1), .val (.int p2), .val (.int p3), .val (.int p4), .val (.int p5), .val (.int c0), .val (.int c1), .val (.int d0), .val (.int d1), .val (.int md), .val (.ref ta), .val (.ref tb), .val (.int tx), .val (.ref aa), .val (.ref ab), .val (.int kk), .val (.int fe), .val (.int ex), .unset, .unset, .unset] [(.int (4 : Int32)), (.ref aa), (.int (p3 ^^^ (-1 : Int32))), (.int (p2 ^^^ (-1 : Int32))), (.int p3), (.int p2), (.ref ta), (.ref b1), (.ref b1)])) rfl rfl (hb hby at_366)) ?_
      show Ends p e below s T1 (mkF m 367 #[.val (.int p0), .val (.int p1), .val (.int p2), .val (.int p3), .val (.int p4), .val (.int p5), .val (.int c0), .val (.int c1), .val (.int d0), .val (.int d1), .val (.int md), .val (.ref ta), .val (.ref tb), .val (.int tx), .val (.ref aa), .val (.ref ab), .val (.int kk), .val (.int fe), .val (.int ex), .unset, .unset, .unset] [(.int (p2 ^^^ p3)), (.int (p3 ^^^ (-1 : Int32))), (.int (p2 ^^^ (-1 : Int32))), (.int p3), (.int p2), (.ref ta), (.ref b1), (.ref b1)]) _ _ _
      refine Ends.go (fun _ k => XS.aload X1.here hx rfl (hb hby at_367) rfl rfl k) ?_
      show Ends p e below s T1 (mkF m 369 #[.val (.int p0), .val (.int p1), .val (.int p2), .val (.int p3), .val (.int p4), .val (.int p5), .val (.int c0), .val (.int c1), .val (.int d0), .val (.int d1), .val (.int md), .val (.ref ta), .val (.ref tb), .val (.int tx), .val (.ref aa), .val (.ref ab), .val (.int kk), .val (.int fe), .val (.int ex), .unset, .unset, .unset] [(.ref aa), (.int (p2 ^^^ p3)), (.int (p3 ^^^ (-1 : Int32))), (.int (p2 ^^^ (-1 : Int32))), (.int p3), (.int p2), (.ref ta), (.ref b1), (.ref b1)]) _ _ _
      refine Ends.go (fun _ k => XS.iconst X1.here hx rfl (hb hby at_369) k) ?_
      show Ends p e below s T1 (mkF m 370 #[.val (.int p0), .val (.int p1), .val (.int p2), .val (.int p3), .val (.int p4), .val (.int p5), .val (.int c0), .val (.int c1), .val (.int d0), .val (.int d1), .val (.int md), .val (.ref ta), .val (.ref tb), .val (.int tx), .val (.ref aa), .val (.ref ab), .val (.int kk), .val (.int fe), .val (.int ex), .unset, .unset, .unset] [(.int (5 : Int32)), (.ref aa), (.int (p2 ^^^ p3)), (.int (p3 ^^^ (-1 : Int32))), (.int (p2 ^^^ (-1 : Int32))), (.int p3), (.int p2), (.ref ta), (.ref b1), (.ref b1)]) _ _ _
      obtain ⟨cl7, Ar7, q7, S7, M7, H7, G7⟩ := id (VA.ext E1)
      have hin7 := inb_of (j := (5 : Int32)) S7 ⟨by decide, by decide⟩
      refine Ends.go (X1.iaload hx (j := (5 : Int32)) (v := (.int (p2 - p3))) (by rw [e1]; exact Ar7.1) (State.isArrayOf_alike hZ.alike Ar7.2.1) Ar7.2.2 hin7 (H7.at hin7 rfl) (g := (mkF m 370 #[.val (.int p0), .val (.int p1), .val (.int p2), .val (.int p3), .val (.int p4), .val (.int p5), .val (.int c0), .val (.int c1), .val (.int d0), .val (.int d1), .val (.int md), .val (.ref ta), .val (.ref tb), .val (.int tx), .val (.ref aa), .val (.ref ab), .val (.int kk), .val (.int fe), .val (.int ex), .unset, .unset, .unset] [(.int (5 : Int32)), (.ref aa), (.int (p2 ^^^ p3)), (.int (p3 ^^^ (-1 : Int32))), (.int (p2 ^^^ (-1 : Int32))), (.int p3), (.int p2), (.ref ta), (.ref b1), (.ref b1)])) rfl rfl (hb hby at_370)) ?_
      show Ends p e below s T1 (mkF m 371 #[.val (.int p0), .val (.int p1), .val (.int p2), .val (.int p3), .val (.int p4), .val (.int p5), .val (.int c0), .val (.int c1), .val (.int d0), .val (.int d1), .val (.int md), .val (.ref ta), .val (.ref tb), .val (.int tx), .val (.ref aa), .val (.ref ab), .val (.int kk), .val (.int fe), .val (.int ex), .unset, .unset, .unset] [(.int (p2 - p3)), (.int (p2 ^^^ p3)), (.int (p3 ^^^ (-1 : Int32))), (.int (p2 ^^^ (-1 : Int32))), (.int p3), (.int p2), (.ref ta), (.ref b1), (.ref b1)]) _ _ _
      obtain ⟨_, _, ⟨T8, L8, k8, n8⟩, -, X8, ⟨Lc8, hQ8, l8, y8, z8⟩, st8⟩ := X1.specialBack hx (y := (⟨"com/example/authority/authority/UriReference", "<init>", "(Ljava/lang/String;IIIIII)V"⟩ : MethodName)) rfl hown (mvT hZ (hw _ (List.mem_of_getElem? (i := 34) rfl))) (mvT hZ (hw _ (List.mem_of_getElem? (i := 35) rfl))) (mvT hZ (hw _ (List.mem_of_getElem? (i := 36) rfl))) (by decide) (own_backOf (W := 1) (rmI l Z a0 hw [] n0 h1 O1 b1 ta p2 p3 (p2 ^^^ (-1 : Int32)) (p3 ^^^ (-1 : Int32)) (p2 ^^^ p3) (p2 - p3) g_b1 A1 F_mText_b1 F_mSchemeEnd_b1 F_mHostStart_b1 F_mHostEnd_b1 F_mPathStart_b1 F_mPathEnd_b1 F_mQueryEnd_b1) hZ (hw _ (List.mem_of_getElem? (i := 36) rfl)) (hw _ (List.mem_of_getElem? (i := 33) rfl)) (by decide) (by decide)) (g := (mkF m 371 #[.val (.int p0), .val (.int p1), .val (.int p2), .val (.int p3), .val (.int p4), .val (.int p5), .val (.int c0), .val (.int c1), .val (.int d0), .val (.int d1), .val (.int md), .val (.ref ta), .val (.ref tb), .val (.int tx), .val (.ref aa), .val (.ref ab), .val (.int kk), .val (.int fe), .val (.int ex), .unset, .unset, .unset] [(.int (p2 - p3)), (.int (p2 ^^^ p3)), (.int (p3 ^^^ (-1 : Int32))), (.int (p2 ^^^ (-1 : Int32))), (.int p3), (.int p2), (.ref ta), (.ref b1), (.ref b1)])) rfl (by rw [hml]; rfl) (Steps.refl _) (a := b1) (argsL := [(.ref ta), (.int p2), (.int p3), (.int (p2 ^^^ (-1 : Int32))), (.int (p3 ^^^ (-1 : Int32))), (.int (p2 ^^^ p3)), (.int (p2 - p3))]) (rest := [(.ref b1)]) (lenOf pd0_0 rfl) rfl (by show 2 * 0 + _ ≤ _; exact Nat.le_of_eq rfl) (hb hby at_371) (fun _ _ => ⟨rfl, e1, (by decide : 9 + 0 ≤ _), (by decide : 37 + 0 ≤ _)⟩)
      dsimp only [Pt.U, Pt.locs, Pt.cells, Pt.slots] at X8 l8 y8 z8 st8 hQ8
      subst l8 y8 z8
      obtain ⟨rfl, N8q, K8c, Eq8, Fq8_mText, Fq8_mSchemeEnd, Fq8_mHostStart, Fq8_mHostEnd, Fq8_mPathStart, Fq8_mPathEnd, Fq8_mQueryEnd⟩ := hQ8
      have N8 := Fr.app N3 N8q
      refine Ends.go (fun _ k => st8.trans k) ?_
      obtain ⟨h8, e8⟩ : ∃ z, T8.heap = z := ⟨_, rfl⟩
      rw [e8] at K8c Eq8 Fq8_mText Fq8_mSchemeEnd Fq8_mHostStart Fq8_mHostEnd Fq8_mPathStart Fq8_mPathEnd Fq8_mQueryEnd
      have K8 := K1.trans K8c (allS (Or.inr sz_b1) all0)
      have O8 := O1.keep K8c (allS g_b1 all0)
      show Ends p e below s T8 (mkF m 374 #[.val (.int p0), .val (.int p1), .val (.int p2), .val (.int p3), .val (.int p4), .val (.int p5), .val (.int c0), .val (.int c1), .val (.int d0), .val (.int d1), .val (.int md), .val (.ref ta), .val (.ref tb), .val (.int tx), .val (.ref aa), .val (.ref ab), .val (.int kk), .val (.int fe), .val (.int ex), .unset, .unset, .unset] [(.ref b1)]) _ _ _
      refine Ends.go (fun _ k => XS.astore X8.here hx rfl (hb hby at_374) rfl rfl (l' := #[.val (.int p0), .val (.int p1), .val (.int p2), .val (.int p3), .val (.int p4), .val (.int p5), .val (.int c0), .val (.int c1), .val (.int d0), .val (.int d1), .val (.int md), .val (.ref ta), .val (.ref tb), .val (.int tx), .val (.ref aa), .val (.ref ab), .val (.int kk), .val (.int fe), .val (.int ex), .val (.ref b1), .unset, .unset]) rfl k) ?_
      show Ends p e below s T8 (mkF m 376 #[.val (.int p0), .val (.int p1), .val (.int p2), .val (.int p3), .val (.int p4), .val (.int p5), .val (.int c0), .val (.int c1), .val (.int d0), .val (.int d1), .val (.int md), .val (.ref ta), .val (.ref tb), .val (.int tx), .val (.ref aa), .val (.ref ab), .val (.int kk), .val (.int fe), .val (.int ex), .val (.ref b1), .unset, .unset] []) _ _ _
      obtain ⟨T9, h9, X9, e9, E9, A9, D9, -, st9⟩ := newO X8 hx hZ hown (hw _ (List.mem_of_getElem? (i := 31) rfl)) (hw _ (List.mem_of_getElem? (i := 32) rfl)) (hw _ (List.mem_of_getElem? (i := 33) rfl)) e8 (g := (mkF m 376 #[.val (.int p0), .val (.int p1), .val (.int p2), .val (.int p3), .val (.int p4), .val (.int p5), .val (.int c0), .val (.int c1), .val (.int d0), .val (.int d1), .val (.int md), .val (.ref ta), .val (.ref tb), .val (.int tx), .val (.ref aa), .val (.ref ab), .val (.int kk), .val (.int fe), .val (.int ex), .val (.ref b1), .unset, .unset] [])) rfl (hb hby at_376) (by decide) (by decide)
      obtain ⟨b9, g9⟩ : ∃ z, z = h8.size := ⟨_, rfl⟩
      rw [← g9] at A9 D9 st9
      refine Ends.go st9 ?_
      have ne_ta_b9 : ta ≠ b9 := Nat.ne_of_lt (Nat.lt_of_lt_of_le ((Ea.ext E1).keep K8c).lt (Nat.le_of_eq g9.symm))
      have ne_t1_b9 : t1 ≠ b9 := Nat.ne_of_lt (Nat.lt_of_lt_of_le ((Aa.ext E1).keep K8c (ninS ne_t1_b1 nin0)).lt (Nat.le_of_eq g9.symm))
      have ne_tb_b9 : tb ≠ b9 := Nat.ne_of_lt (Nat.lt_of_lt_of_le ((Eb.ext E1).keep K8c).lt (Nat.le_of_eq g9.symm))
      have ne_t2_b9 : t2 ≠ b9 := Nat.ne_of_lt (Nat.lt_of_lt_of_le ((Ab.ext E1).keep K8c (ninS ne_t2_b1 nin0)).lt (Nat.le_of_eq g9.symm))
      have ne_aa_b9 : aa ≠ b9 := Nat.ne_of_lt (Nat.lt_of_lt_of_le ((VA.ext E1).keep K8c (ninS ne_aa_b1 nin0)).lt (Nat.le_of_eq g9.symm))
      have ne_ab_b9 : ab ≠ b9 := Nat.ne_of_lt (Nat.lt_of_lt_of_le ((VB.ext E1).keep K8c (ninS ne_ab_b1 nin0)).lt (Nat.le_of_eq g9.symm))
      have ne_b1_b9 : b1 ≠ b9 := Nat.ne_of_lt (Nat.lt_of_lt_of_le Eq8.lt (Nat.le_of_eq g9.symm))
      have g_b9 : n0 ≤ b9 := Nat.le_trans (own_old_le O8) (Nat.le_of_eq g9.symm)
      have sz_b9 : h0.size ≤ b9 := Nat.le_trans K8.1 (Nat.le_of_eq g9.symm)
      have K9 := K8.ext E9
      have O9 := O8.ext E9
      have F_mText_b9 : Fld Z h9 b9 "com/example/authority/authority/UriReference" "mText" "Ljava/lang/String;" .null := D9 (Or.inr (hw _ (List.mem_of_getElem? (i := 39) rfl))) (ty := (.object "java/lang/String")) (by decide)
      have F_mSchemeEnd_b9 : Fld Z h9 b9 "com/example/authority/authority/UriReference" "mSchemeEnd" "I" (.int (0 : Int32)) := D9 (Or.inr (hw _ (List.mem_of_getElem? (i := 41) rfl))) (ty := .int) (by decide)
      have F_mHostStart_b9 : Fld Z h9 b9 "com/example/authority/authority/UriReference" "mHostStart" "I" (.int (0 : Int32)) := D9 (Or.inr (hw _ (List.mem_of_getElem? (i := 43) rfl))) (ty := .int) (by decide)
      have F_mHostEnd_b9 : Fld Z h9 b9 "com/example/authority/authority/UriReference" "mHostEnd" "I" (.int (0 : Int32)) := D9 (Or.inr (hw _ (List.mem_of_getElem? (i := 45) rfl))) (ty := .int) (by decide)
      have F_mPathStart_b9 : Fld Z h9 b9 "com/example/authority/authority/UriReference" "mPathStart" "I" (.int (0 : Int32)) := D9 (Or.inr (hw _ (List.mem_of_getElem? (i := 47) rfl))) (ty := .int) (by decide)
      have F_mPathEnd_b9 : Fld Z h9 b9 "com/example/authority/authority/UriReference" "mPathEnd" "I" (.int (0 : Int32)) := D9 (Or.inr (hw _ (List.mem_of_getElem? (i := 49) rfl))) (ty := .int) (by decide)
      have F_mQueryEnd_b9 : Fld Z h9 b9 "com/example/authority/authority/UriReference" "mQueryEnd" "I" (.int (0 : Int32)) := D9 (Or.inr (hw _ (List.mem_of_getElem? (i := 51) rfl))) (ty := .int) (by decide)
      show Ends p e below s T9 (mkF m 379 #[.val (.int p0), .val (.int p1), .val (.int p2), .val (.int p3), .val (.int p4), .val (.int p5), .val (.int c0), .val (.int c1), .val (.int d0), .val (.int d1), .val (.int md), .val (.ref ta), .val (.ref tb), .val (.int tx), .val (.ref aa), .val (.ref ab), .val (.int kk), .val (.int fe), .val (.int ex), .val (.ref b1), .unset, .unset] [(.ref b9)]) _ _ _
      refine Ends.go (fun _ k => XS.dup X9.here hx rfl (hb hby at_379) rfl rfl k) ?_
      show Ends p e below s T9 (mkF m 380 #[.val (.int p0), .val (.int p1), .val (.int p2), .val (.int p3), .val (.int p4), .val (.int p5), .val (.int c0), .val (.int c1), .val (.int d0), .val (.int d1), .val (.int md), .val (.ref ta), .val (.ref tb), .val (.int tx), .val (.ref aa), .val (.ref ab), .val (.int kk), .val (.int fe), .val (.int ex), .val (.ref b1), .unset, .unset] [(.ref b9), (.ref b9)]) _ _ _
      refine Ends.go (fun _ k => XS.aload X9.here hx rfl (hb hby at_380) rfl rfl k) ?_
      show Ends p e below s T9 (mkF m 382 #[.val (.int p0), .val (.int p1), .val (.int p2), .val (.int p3), .val (.int p4), .val (.int p5), .val (.int c0), .val (.int c1), .val (.int d0), .val (.int d1), .val (.int md), .val (.ref ta), .val (.ref tb), .val (.int tx), .val (.ref aa), .val (.ref ab), .val (.int kk), .val (.int fe), .val (.int ex), .val (.ref b1), .unset, .unset] [(.ref tb), (.ref b9), (.ref b9)]) _ _ _
      refine Ends.go (fun _ k => XS.aload X9.here hx rfl (hb hby at_382) rfl rfl k) ?_
      show Ends p e below s T9 (mkF m 384 #[.val (.int p0), .val (.int p1), .val (.int p2), .val (.int p3), .val (.int p4), .val (.int p5), .val (.int c0), .val (.int c1), .val (.int d0), .val (.int d1), .val (.int md), .val (.ref ta), .val (.ref tb), .val (.int tx), .val (.ref aa), .val (.ref ab), .val (.int kk), .val (.int fe), .val (.int ex), .val (.ref b1), .unset, .unset] [(.ref ab), (.ref tb), (.ref b9), (.ref b9)]) _ _ _
      refine Ends.go (fun _ k => XS.iconst X9.here hx rfl (hb hby at_384) k) ?_
      show Ends p e below s T9 (mkF m 385 #[.val (.int p0), .val (.int p1), .val (.int p2), .val (.int p3), .val (.int p4), .val (.int p5), .val (.int c0), .val (.int c1), .val (.int d0), .val (.int d1), .val (.int md), .val (.ref ta), .val (.ref tb), .val (.int tx), .val (.ref aa), .val (.ref ab), .val (.int kk), .val (.int fe), .val (.int ex), .val (.ref b1), .unset, .unset] [(.int (0 : Int32)), (.ref ab), (.ref tb), (.ref b9), (.ref b9)]) _ _ _
      obtain ⟨cl10, Ar10, q10, S10, M10, H10, G10⟩ := id (((VB.ext E1).keep K8c (ninS ne_ab_b1 nin0)).ext E9)
      have hin10 := inb_of (j := (0 : Int32)) S10 ⟨by decide, by decide⟩
      refine Ends.go (X9.iaload hx (j := (0 : Int32)) (v := (.int fb_0)) (by rw [e9]; exact Ar10.1) (State.isArrayOf_alike hZ.alike Ar10.2.1) Ar10.2.2 hin10 (H10.at hin10 rfl) (g := (mkF m 385 #[.val (.int p0), .val (.int p1), .val (.int p2), .val (.int p3), .val (.int p4), .val (.int p5), .val (.int c0), .val (.int c1), .val (.int d0), .val (.int d1), .val (.int md), .val (.ref ta), .val (.ref tb), .val (.int tx), .val (.ref aa), .val (.ref ab), .val (.int kk), .val (.int fe), .val (.int ex), .val (.ref b1), .unset, .unset] [(.int (0 : Int32)), (.ref ab), (.ref tb), (.ref b9), (.ref b9)])) rfl rfl (hb hby at_385)) ?_
      show Ends p e below s T9 (mkF m 386 #[.val (.int p0), .val (.int p1), .val (.int p2), .val (.int p3), .val (.int p4), .val (.int p5), .val (.int c0), .val (.int c1), .val (.int d0), .val (.int d1), .val (.int md), .val (.ref ta), .val (.ref tb), .val (.int tx), .val (.ref aa), .val (.ref ab), .val (.int kk), .val (.int fe), .val (.int ex), .val (.ref b1), .unset, .unset] [(.int fb_0), (.ref tb), (.ref b9), (.ref b9)]) _ _ _
      refine Ends.go (fun _ k => XS.aload X9.here hx rfl (hb hby at_386) rfl rfl k) ?_
      show Ends p e below s T9 (mkF m 388 #[.val (.int p0), .val (.int p1), .val (.int p2), .val (.int p3), .val (.int p4), .val (.int p5), .val (.int c0), .val (.int c1), .val (.int d0), .val (.int d1), .val (.int md), .val (.ref ta), .val (.ref tb), .val (.int tx), .val (.ref aa), .val (.ref ab), .val (.int kk), .val (.int fe), .val (.int ex), .val (.ref b1), .unset, .unset] [(.ref ab), (.int fb_0), (.ref tb), (.ref b9), (.ref b9)]) _ _ _
      refine Ends.go (fun _ k => XS.iconst X9.here hx rfl (hb hby at_388) k) ?_
      show Ends p e below s T9 (mkF m 389 #[.val (.int p0), .val (.int p1), .val (.int p2), .val (.int p3), .val (.int p4), .val (.int p5), .val (.int c0), .val (.int c1), .val (.int d0), .val (.int d1), .val (.int md), .val (.ref ta), .val (.ref tb), .val (.int tx), .val (.ref aa), .val (.ref ab), .val (.int kk), .val (.int fe), .val (.int ex), .val (.ref b1), .unset, .unset] [(.int (1 : Int32)), (.ref ab), (.int fb_0), (.ref tb), (.ref b9), (.ref b9)]) _ _ _
      obtain ⟨cl11, Ar11, q11, S11, M11, H11, G11⟩ := id (((VB.ext E1).keep K8c (ninS ne_ab_b1 nin0)).ext E9)
      have hin11 := inb_of (j := (1 : Int32)) S11 ⟨by decide, by decide⟩
      refine Ends.go (X9.iaload hx (j := (1 : Int32)) (v := (.int fb_1)) (by rw [e9]; exact Ar11.1) (State.isArrayOf_alike hZ.alike Ar11.2.1) Ar11.2.2 hin11 (H11.at hin11 rfl) (g := (mkF m 389 #[.val (.int p0), .val (.int p1), .val (.int p2), .val (.int p3), .val (.int p4), .val (.int p5), .val (.int c0), .val (.int c1), .val (.int d0), .val (.int d1), .val (.int md), .val (.ref ta), .val (.ref tb), .val (.int tx), .val (.ref aa), .val (.ref ab), .val (.int kk), .val (.int fe), .val (.int ex), .val (.ref b1), .unset, .unset] [(.int (1 : Int32)), (.ref ab), (.int fb_0), (.ref tb), (.ref b9), (.ref b9)])) rfl rfl (hb hby at_389)) ?_
      show Ends p e below s T9 (mkF m 390 #[.val (.int p0), .val (.int p1), .val (.int p2), .val (.int p3), .val (.int p4), .val (.int p5), .val (.int c0), .val (.int c1), .val (.int d0), .val (.int d1), .val (.int md), .val (.ref ta), .val (.ref tb), .val (.int tx), .val (.ref aa), .val (.ref ab), .val (.int kk), .val (.int fe), .val (.int ex), .val (.ref b1), .unset, .unset] [(.int fb_1), (.int fb_0), (.ref tb), (.ref b9), (.ref b9)]) _ _ _
      refine Ends.go (fun _ k => XS.aload X9.here hx rfl (hb hby at_390) rfl rfl k) ?_
      show Ends p e below s T9 (mkF m 392 #[.val (.int p0), .val (.int p1), .val (.int p2), .val (.int p3), .val (.int p4), .val (.int p5), .val (.int c0), .val (.int c1), .val (.int d0), .val (.int d1), .val (.int md), .val (.ref ta), .val (.ref tb), .val (.int tx), .val (.ref aa), .val (.ref ab), .val (.int kk), .val (.int fe), .val (.int ex), .val (.ref b1), .unset, .unset] [(.ref ab), (.int fb_1), (.int fb_0), (.ref tb), (.ref b9), (.ref b9)]) _ _ _
      refine Ends.go (fun _ k => XS.iconst X9.here hx rfl (hb hby at_392) k) ?_
      show Ends p e below s T9 (mkF m 393 #[.val (.int p0), .val (.int p1), .val (.int p2), .val (.int p3), .val (.int p4), .val (.int p5), .val (.int c0), .val (.int c1), .val (.int d0), .val (.int d1), .val (.int md), .val (.ref ta), .val (.ref tb), .val (.int tx), .val (.ref aa), .val (.ref ab), .val (.int kk), .val (.int fe), .val (.int ex), .val (.ref b1), .unset, .unset] [(.int (2 : Int32)), (.ref ab), (.int fb_1), (.int fb_0), (.ref tb), (.ref b9), (.ref b9)]) _ _ _
      obtain ⟨cl12, Ar12, q12, S12, M12, H12, G12⟩ := id (((VB.ext E1).keep K8c (ninS ne_ab_b1 nin0)).ext E9)
      have hin12 := inb_of (j := (2 : Int32)) S12 ⟨by decide, by decide⟩
      refine Ends.go (X9.iaload hx (j := (2 : Int32)) (v := (.int fb_2)) (by rw [e9]; exact Ar12.1) (State.isArrayOf_alike hZ.alike Ar12.2.1) Ar12.2.2 hin12 (H12.at hin12 rfl) (g := (mkF m 393 #[.val (.int p0), .val (.int p1), .val (.int p2), .val (.int p3), .val (.int p4), .val (.int p5), .val (.int c0), .val (.int c1), .val (.int d0), .val (.int d1), .val (.int md), .val (.ref ta), .val (.ref tb), .val (.int tx), .val (.ref aa), .val (.ref ab), .val (.int kk), .val (.int fe), .val (.int ex), .val (.ref b1), .unset, .unset] [(.int (2 : Int32)), (.ref ab), (.int fb_1), (.int fb_0), (.ref tb), (.ref b9), (.ref b9)])) rfl rfl (hb hby at_393)) ?_
      show Ends p e below s T9 (mkF m 394 #[.val (.int p0), .val (.int p1), .val (.int p2), .val (.int p3), .val (.int p4), .val (.int p5), .val (.int c0), .val (.int c1), .val (.int d0), .val (.int d1), .val (.int md), .val (.ref ta), .val (.ref tb), .val (.int tx), .val (.ref aa), .val (.ref ab), .val (.int kk), .val (.int fe), .val (.int ex), .val (.ref b1), .unset, .unset] [(.int fb_2), (.int fb_1), (.int fb_0), (.ref tb), (.ref b9), (.ref b9)]) _ _ _
      refine Ends.go (fun _ k => XS.aload X9.here hx rfl (hb hby at_394) rfl rfl k) ?_
      show Ends p e below s T9 (mkF m 396 #[.val (.int p0), .val (.int p1), .val (.int p2), .val (.int p3), .val (.int p4), .val (.int p5), .val (.int c0), .val (.int c1), .val (.int d0), .val (.int d1), .val (.int md), .val (.ref ta), .val (.ref tb), .val (.int tx), .val (.ref aa), .val (.ref ab), .val (.int kk), .val (.int fe), .val (.int ex), .val (.ref b1), .unset, .unset] [(.ref ab), (.int fb_2), (.int fb_1), (.int fb_0), (.ref tb), (.ref b9), (.ref b9)]) _ _ _
      refine Ends.go (fun _ k => XS.iconst X9.here hx rfl (hb hby at_396) k) ?_
      show Ends p e below s T9 (mkF m 397 #[.val (.int p0), .val (.int p1), .val (.int p2), .val (.int p3), .val (.int p4), .val (.int p5), .val (.int c0), .val (.int c1), .val (.int d0), .val (.int d1), .val (.int md), .val (.ref ta), .val (.ref tb), .val (.int tx), .val (.ref aa), .val (.ref ab), .val (.int kk), .val (.int fe), .val (.int ex), .val (.ref b1), .unset, .unset] [(.int (3 : Int32)), (.ref ab), (.int fb_2), (.int fb_1), (.int fb_0), (.ref tb), (.ref b9), (.ref b9)]) _ _ _
      obtain ⟨cl13, Ar13, q13, S13, M13, H13, G13⟩ := id (((VB.ext E1).keep K8c (ninS ne_ab_b1 nin0)).ext E9)
      have hin13 := inb_of (j := (3 : Int32)) S13 ⟨by decide, by decide⟩
      refine Ends.go (X9.iaload hx (j := (3 : Int32)) (v := (.int fb_3)) (by rw [e9]; exact Ar13.1) (State.isArrayOf_alike hZ.alike Ar13.2.1) Ar13.2.2 hin13 (H13.at hin13 rfl) (g := (mkF m 397 #[.val (.int p0), .val (.int p1), .val (.int p2), .val (.int p3), .val (.int p4), .val (.int p5), .val (.int c0), .val (.int c1), .val (.int d0), .val (.int d1), .val (.int md), .val (.ref ta), .val (.ref tb), .val (.int tx), .val (.ref aa), .val (.ref ab), .val (.int kk), .val (.int fe), .val (.int ex), .val (.ref b1), .unset, .unset] [(.int (3 : Int32)), (.ref ab), (.int fb_2), (.int fb_1), (.int fb_0), (.ref tb), (.ref b9), (.ref b9)])) rfl rfl (hb hby at_397)) ?_
      show Ends p e below s T9 (mkF m 398 #[.val (.int p0), .val (.int p1), .val (.int p2), .val (.int p3), .val (.int p4), .val (.int p5), .val (.int c0), .val (.int c1), .val (.int d0), .val (.int d1), .val (.int md), .val (.ref ta), .val (.ref tb), .val (.int tx), .val (.ref aa), .val (.ref ab), .val (.int kk), .val (.int fe), .val (.int ex), .val (.ref b1), .unset, .unset] [(.int fb_3), (.int fb_2), (.int fb_1), (.int fb_0), (.ref tb), (.ref b9), (.ref b9)]) _ _ _
      refine Ends.go (fun _ k => XS.aload X9.here hx rfl (hb hby at_398) rfl rfl k) ?_
      show Ends p e below s T9 (mkF m 400 #[.val (.int p0), .val (.int p1), .val (.int p2), .val (.int p3), .val (.int p4), .val (.int p5), .val (.int c0), .val (.int c1), .val (.int d0), .val (.int d1), .val (.int md), .val (.ref ta), .val (.ref tb), .val (.int tx), .val (.ref aa), .val (.ref ab), .val (.int kk), .val (.int fe), .val (.int ex), .val (.ref b1), .unset, .unset] [(.ref ab), (.int fb_3), (.int fb_2), (.int fb_1), (.int fb_0), (.ref tb), (.ref b9), (.ref b9)]) _ _ _
      refine Ends.go (fun _ k => XS.iconst X9.here hx rfl (hb hby at_400) k) ?_
      show Ends p e below s T9 (mkF m 401 #[.val (.int p0), .val (.int p1), .val (.int p2), .val (.int p3), .val (.int p4), .val (.int p5), .val (.int c0), .val (.int c1), .val (.int d0), .val (.int d1), .val (.int md), .val (.ref ta), .val (.ref tb), .val (.int tx), .val (.ref aa), .val (.ref ab), .val (.int kk), .val (.int fe), .val (.int ex), .val (.ref b1), .unset, .unset] [(.int (4 : Int32)), (.ref ab), (.int fb_3), (.int fb_2), (.int fb_1), (.int fb_0), (.ref tb), (.ref b9), (.ref b9)]) _ _ _
      obtain ⟨cl14, Ar14, q14, S14, M14, H14, G14⟩ := id (((VB.ext E1).keep K8c (ninS ne_ab_b1 nin0)).ext E9)
      have hin14 := inb_of (j := (4 : Int32)) S14 ⟨by decide, by decide⟩
      refine Ends.go (X9.iaload hx (j := (4 : Int32)) (v := (.int fb_4)) (by rw [e9]; exact Ar14.1) (State.isArrayOf_alike hZ.alike Ar14.2.1) Ar14.2.2 hin14 (H14.at hin14 rfl) (g := (mkF m 401 #[.val (.int p0), .val (.int p1), .val (.int p2), .val (.int p3), .val (.int p4), .val (.int p5), .val (.int c0), .val (.int c1), .val (.int d0), .val (.int d1), .val (.int md), .val (.ref ta), .val (.ref tb), .val (.int tx), .val (.ref aa), .val (.ref ab), .val (.int kk), .val (.int fe), .val (.int ex), .val (.ref b1), .unset, .unset] [(.int (4 : Int32)), (.ref ab), (.int fb_3), (.int fb_2), (.int fb_1), (.int fb_0), (.ref tb), (.ref b9), (.ref b9)])) rfl rfl (hb hby at_401)) ?_
      show Ends p e below s T9 (mkF m 402 #[.val (.int p0), .val (.int p1), .val (.int p2), .val (.int p3), .val (.int p4), .val (.int p5), .val (.int c0), .val (.int c1), .val (.int d0), .val (.int d1), .val (.int md), .val (.ref ta), .val (.ref tb), .val (.int tx), .val (.ref aa), .val (.ref ab), .val (.int kk), .val (.int fe), .val (.int ex), .val (.ref b1), .unset, .unset] [(.int fb_4), (.int fb_3), (.int fb_2), (.int fb_1), (.int fb_0), (.ref tb), (.ref b9), (.ref b9)]) _ _ _
      refine Ends.go (fun _ k => XS.aload X9.here hx rfl (hb hby at_402) rfl rfl k) ?_
      show Ends p e below s T9 (mkF m 404 #[.val (.int p0), .val (.int p1), .val (.int p2), .val (.int p3), .val (.int p4), .val (.int p5), .val (.int c0), .val (.int c1), .val (.int d0), .val (.int d1), .val (.int md), .val (.ref ta), .val (.ref tb), .val (.int tx), .val (.ref aa), .val (.ref ab), .val (.int kk), .val (.int fe), .val (.int ex), .val (.ref b1), .unset, .unset] [(.ref ab), (.int fb_4), (.int fb_3), (.int fb_2), (.int fb_1), (.int fb_0), (.ref tb), (.ref b9), (.ref b9)]) _ _ _
      refine Ends.go (fun _ k => XS.iconst X9.here hx rfl (hb hby at_404) k) ?_
      show Ends p e below s T9 (mkF m 405 #[.val (.int p0), .val (.int p1), .val (.int p2), .val (.int p3), .val (.int p4), .val (.int p5), .val (.int c0), .val (.int c1), .val (.int d0), .val (.int d1), .val (.int md), .val (.ref ta), .val (.ref tb), .val (.int tx), .val (.ref aa), .val (.ref ab), .val (.int kk), .val (.int fe), .val (.int ex), .val (.ref b1), .unset, .unset] [(.int (5 : Int32)), (.ref ab), (.int fb_4), (.int fb_3), (.int fb_2), (.int fb_1), (.int fb_0), (.ref tb), (.ref b9), (.ref b9)]) _ _ _
      obtain ⟨cl15, Ar15, q15, S15, M15, H15, G15⟩ := id (((VB.ext E1).keep K8c (ninS ne_ab_b1 nin0)).ext E9)
      have hin15 := inb_of (j := (5 : Int32)) S15 ⟨by decide, by decide⟩
      refine Ends.go (X9.iaload hx (j := (5 : Int32)) (v := (.int fb_5)) (by rw [e9]; exact Ar15.1) (State.isArrayOf_alike hZ.alike Ar15.2.1) Ar15.2.2 hin15 (H15.at hin15 rfl) (g := (mkF m 405 #[.val (.int p0), .val (.int p1), .val (.int p2), .val (.int p3), .val (.int p4), .val (.int p5), .val (.int c0), .val (.int c1), .val (.int d0), .val (.int d1), .val (.int md), .val (.ref ta), .val (.ref tb), .val (.int tx), .val (.ref aa), .val (.ref ab), .val (.int kk), .val (.int fe), .val (.int ex), .val (.ref b1), .unset, .unset] [(.int (5 : Int32)), (.ref ab), (.int fb_4), (.int fb_3), (.int fb_2), (.int fb_1), (.int fb_0), (.ref tb), (.ref b9), (.ref b9)])) rfl rfl (hb hby at_405)) ?_
      show Ends p e below s T9 (mkF m 406 #[.val (.int p0), .val (.int p1), .val (.int p2), .val (.int p3), .val (.int p4), .val (.int p5), .val (.int c0), .val (.int c1), .val (.int d0), .val (.int d1), .val (.int md), .val (.ref ta), .val (.ref tb), .val (.int tx), .val (.ref aa), .val (.ref ab), .val (.int kk), .val (.int fe), .val (.int ex), .val (.ref b1), .unset, .unset] [(.int fb_5), (.int fb_4), (.int fb_3), (.int fb_2), (.int fb_1), (.int fb_0), (.ref tb), (.ref b9), (.ref b9)]) _ _ _
      obtain ⟨_, _, ⟨T16, L16, k16, n16⟩, -, X16, ⟨Lc16, hQ16, l16, y16, z16⟩, st16⟩ := X9.specialBack hx (y := (⟨"com/example/authority/authority/UriReference", "<init>", "(Ljava/lang/String;IIIIII)V"⟩ : MethodName)) rfl hown (mvT hZ (hw _ (List.mem_of_getElem? (i := 34) rfl))) (mvT hZ (hw _ (List.mem_of_getElem? (i := 35) rfl))) (mvT hZ (hw _ (List.mem_of_getElem? (i := 36) rfl))) (by decide) (own_backOf (W := 1) (rmI l Z a0 hw [] n0 h9 O9 b9 tb fb_0 fb_1 fb_2 fb_3 fb_4 fb_5 g_b9 A9 F_mText_b9 F_mSchemeEnd_b9 F_mHostStart_b9 F_mHostEnd_b9 F_mPathStart_b9 F_mPathEnd_b9 F_mQueryEnd_b9) hZ (hw _ (List.mem_of_getElem? (i := 36) rfl)) (hw _ (List.mem_of_getElem? (i := 33) rfl)) (by decide) (by decide)) (g := (mkF m 406 #[.val (.int p0), .val (.int p1), .val (.int p2), .val (.int p3), .val (.int p4), .val (.int p5), .val (.int c0), .val (.int c1), .val (.int d0), .val (.int d1), .val (.int md), .val (.ref ta), .val (.ref tb), .val (.int tx), .val (.ref aa), .val (.ref ab), .val (.int kk), .val (.int fe), .val (.int ex), .val (.ref b1), .unset, .unset] [(.int fb_5), (.int fb_4), (.int fb_3), (.int fb_2), (.int fb_1), (.int fb_0), (.ref tb), (.ref b9), (.ref b9)])) rfl (by rw [hml]; rfl) (Steps.refl _) (a := b9) (argsL := [(.ref tb), (.int fb_0), (.int fb_1), (.int fb_2), (.int fb_3), (.int fb_4), (.int fb_5)]) (rest := [(.ref b9)]) (lenOf pd0_0 rfl) rfl (by show 2 * 0 + _ ≤ _; exact Nat.le_of_eq rfl) (hb hby at_406) (fun _ _ => ⟨rfl, e9, (by decide : 10 + 0 ≤ _), (by decide : 44 + 0 ≤ _)⟩)
      dsimp only [Pt.U, Pt.locs, Pt.cells, Pt.slots] at X16 l16 y16 z16 st16 hQ16
      subst l16 y16 z16
      obtain ⟨rfl, N16q, K16c, Eq16, Fq16_mText, Fq16_mSchemeEnd, Fq16_mHostStart, Fq16_mHostEnd, Fq16_mPathStart, Fq16_mPathEnd, Fq16_mQueryEnd⟩ := hQ16
      have N16 := Fr.app N8 N16q
      refine Ends.go (fun _ k => st16.trans k) ?_
      obtain ⟨h16, e16⟩ : ∃ z, T16.heap = z := ⟨_, rfl⟩
      rw [e16] at K16c Eq16 Fq16_mText Fq16_mSchemeEnd Fq16_mHostStart Fq16_mHostEnd Fq16_mPathStart Fq16_mPathEnd Fq16_mQueryEnd
      have K16 := K9.trans K16c (allS (Or.inr sz_b9) all0)
      have O16 := O9.keep K16c (allS g_b9 all0)
      show Ends p e below s T16 (mkF m 409 #[.val (.int p0), .val (.int p1), .val (.int p2), .val (.int p3), .val (.int p4), .val (.int p5), .val (.int c0), .val (.int c1), .val (.int d0), .val (.int d1), .val (.int md), .val (.ref ta), .val (.ref tb), .val (.int tx), .val (.ref aa), .val (.ref ab), .val (.int kk), .val (.int fe), .val (.int ex), .val (.ref b1), .unset, .unset] [(.ref b9)]) _ _ _
      refine Ends.go (fun _ k => XS.astore X16.here hx rfl (hb hby at_409) rfl rfl (l' := #[.val (.int p0), .val (.int p1), .val (.int p2), .val (.int p3), .val (.int p4), .val (.int p5), .val (.int c0), .val (.int c1), .val (.int d0), .val (.int d1), .val (.int md), .val (.ref ta), .val (.ref tb), .val (.int tx), .val (.ref aa), .val (.ref ab), .val (.int kk), .val (.int fe), .val (.int ex), .val (.ref b1), .val (.ref b9), .unset]) rfl k) ?_
      show Ends p e below s T16 (mkF m 411 #[.val (.int p0), .val (.int p1), .val (.int p2), .val (.int p3), .val (.int p4), .val (.int p5), .val (.int c0), .val (.int c1), .val (.int d0), .val (.int d1), .val (.int md), .val (.ref ta), .val (.ref tb), .val (.int tx), .val (.ref aa), .val (.ref ab), .val (.int kk), .val (.int fe), .val (.int ex), .val (.ref b1), .val (.ref b9), .unset] []) _ _ _
      refine Ends.go (fun _ k => XS.aload X16.here hx rfl (hb hby at_411) rfl rfl k) ?_
      show Ends p e below s T16 (mkF m 413 #[.val (.int p0), .val (.int p1), .val (.int p2), .val (.int p3), .val (.int p4), .val (.int p5), .val (.int c0), .val (.int c1), .val (.int d0), .val (.int d1), .val (.int md), .val (.ref ta), .val (.ref tb), .val (.int tx), .val (.ref aa), .val (.ref ab), .val (.int kk), .val (.int fe), .val (.int ex), .val (.ref b1), .val (.ref b9), .unset] [(.ref ta)]) _ _ _
      refine Ends.go (fun _ k => XS.astore X16.here hx rfl (hb hby at_413) rfl rfl (l' := #[.val (.int p0), .val (.int p1), .val (.int p2), .val (.int p3), .val (.int p4), .val (.int p5), .val (.int c0), .val (.int c1), .val (.int d0), .val (.int d1), .val (.int md), .val (.ref ta), .val (.ref tb), .val (.int tx), .val (.ref aa), .val (.ref ab), .val (.int kk), .val (.int fe), .val (.int ex), .val (.ref b1), .val (.ref b9), .val (.ref ta)]) rfl k) ?_
      show Ends p e below s T16 (mkF m 415 #[.val (.int p0), .val (.int p1), .val (.int p2), .val (.int p3), .val (.int p4), .val (.int p5), .val (.int c0), .val (.int c1), .val (.int d0), .val (.int d1), .val (.int md), .val (.ref ta), .val (.ref tb), .val (.int tx), .val (.ref aa), .val (.ref ab), .val (.int kk), .val (.int fe), .val (.int ex), .val (.ref b1), .val (.ref b9), .val (.ref ta)] []) _ _ _
      refine Ends.go (fun _ k => XS.aload X16.here hx rfl (hb hby at_415) rfl rfl k) ?_
      show Ends p e below s T16 (mkF m 417 #[.val (.int p0), .val (.int p1), .val (.int p2), .val (.int p3), .val (.int p4), .val (.int p5), .val (.int c0), .val (.int c1), .val (.int d0), .val (.int d1), .val (.int md), .val (.ref ta), .val (.ref tb), .val (.int tx), .val (.ref aa), .val (.ref ab), .val (.int kk), .val (.int fe), .val (.int ex), .val (.ref b1), .val (.ref b9), .val (.ref ta)] [(.ref b1)]) _ _ _
      refine Ends.go (fun _ k => XS.aload X16.here hx rfl (hb hby at_417) rfl rfl k) ?_
      show Ends p e below s T16 (mkF m 419 #[.val (.int p0), .val (.int p1), .val (.int p2), .val (.int p3), .val (.int p4), .val (.int p5), .val (.int c0), .val (.int c1), .val (.int d0), .val (.int d1), .val (.int md), .val (.ref ta), .val (.ref tb), .val (.int tx), .val (.ref aa), .val (.ref ab), .val (.int kk), .val (.int fe), .val (.int ex), .val (.ref b1), .val (.ref b9), .val (.ref ta)] [(.ref b9), (.ref b1)]) _ _ _
      obtain ⟨cq17, kq17, q17a, q17b, q17c⟩ := isOf hZ e16 ((Eq8.ext E9).keep K16c)
      obtain ⟨_, _, ⟨T17, L17, k17, n17⟩, -, X17, ⟨Lc17, hQ17, l17, y17, z17⟩, st17⟩ := X16.virtualBack hx (y := (⟨"com/example/authority/authority/UriReference", "equals", "(Ljava/lang/Object;)Z"⟩ : MethodName)) (z := (⟨"com/example/authority/authority/UriReference", "equals", "(Ljava/lang/Object;)Z"⟩ : MethodName)) hown (mvT hZ (hw _ (List.mem_of_getElem? (i := 52) rfl))) (mvT hZ (hw _ (List.mem_of_getElem? (i := 53) rfl))) (notFace_of_selects (args := #[]) (mvT hZ (hw _ (List.mem_of_getElem? (i := 55) rfl)))) (mvT hZ (hw _ (List.mem_of_getElem? (i := 55) rfl))) (mvT hZ (hw _ (List.mem_of_getElem? (i := 54) rfl))) (by decide) (own_backOf (W := 0) (rmE l Z a0 hw [] n0 h16 O16 b1 b9 G1 SCS P5 ta t1 k1 ca N1 va p2 p3 (p2 ^^^ (-1 : Int32)) (p3 ^^^ (-1 : Int32)) (p2 ^^^ p3) (p2 - p3) ⟨((((Ea.ext E1).keep K8c).ext E9).keep K16c), ((((Va.ext E1).keep K8c (ninS ne_ta_b1 nin0)).ext E9).keep K16c (ninS ne_ta_b9 nin0)), ((((Ca.ext E1).keep K8c (ninS ne_ta_b1 nin0)).ext E9).keep K16c (ninS ne_ta_b9 nin0)), ((((Aa.ext E1).keep K8c (ninS ne_t1_b1 nin0)).ext E9).keep K16c (ninS ne_t1_b9 nin0)), SA.2.2.2.2.1, SA.2.2.2.2.2.1, SA.2.2.2.2.2.2⟩ ((Eq8.ext E9).keep K16c) ((Fq8_mText.ext E9).keep K16c (ninS ne_b1_b9 nin0)) ((Fq8_mSchemeEnd.ext E9).keep K16c (ninS ne_b1_b9 nin0)) ((Fq8_mHostStart.ext E9).keep K16c (ninS ne_b1_b9 nin0)) ((Fq8_mHostEnd.ext E9).keep K16c (ninS ne_b1_b9 nin0)) ((Fq8_mPathStart.ext E9).keep K16c (ninS ne_b1_b9 nin0)) ((Fq8_mPathEnd.ext E9).keep K16c (ninS ne_b1_b9 nin0)) ((Fq8_mQueryEnd.ext E9).keep K16c (ninS ne_b1_b9 nin0)) tb t2 k2 cb N2 vb fb_0 fb_1 fb_2 fb_3 fb_4 fb_5 ⟨((((Eb.ext E1).keep K8c).ext E9).keep K16c), ((((Vb.ext E1).keep K8c (ninS ne_tb_b1 nin0)).ext E9).keep K16c (ninS ne_tb_b9 nin0)), ((((Cb.ext E1).keep K8c (ninS ne_tb_b1 nin0)).ext E9).keep K16c (ninS ne_tb_b9 nin0)), ((((Ab.ext E1).keep K8c (ninS ne_t2_b1 nin0)).ext E9).keep K16c (ninS ne_t2_b9 nin0)), SB.2.2.2.2.1, SB.2.2.2.2.2.1, SB.2.2.2.2.2.2⟩ Eq16 Fq16_mText Fq16_mSchemeEnd Fq16_mHostStart Fq16_mHostEnd Fq16_mPathStart Fq16_mPathEnd Fq16_mQueryEnd) hZ (hw _ (List.mem_of_getElem? (i := 56) rfl)) (hw _ (List.mem_of_getElem? (i := 33) rfl)) (by decide) (by decide)) q17a q17c (g := (mkF m 419 #[.val (.int p0), .val (.int p1), .val (.int p2), .val (.int p3), .val (.int p4), .val (.int p5), .val (.int c0), .val (.int c1), .val (.int d0), .val (.int d1), .val (.int md), .val (.ref ta), .val (.ref tb), .val (.int tx), .val (.ref aa), .val (.ref ab), .val (.int kk), .val (.int fe), .val (.int ex), .val (.ref b1), .val (.ref b9), .val (.ref ta)] [(.ref b9), (.ref b1)])) rfl (by rw [hml]; rfl) (Steps.refl _) (argsL := [(.ref b9)]) (rest := []) (lenOf pd0_1 rfl) rfl (by show 2 * 0 + _ ≤ _; exact Nat.le_of_eq rfl) (hb hby at_419) (fun _ _ => ⟨rfl, e16, (by decide : 10 + 0 ≤ _), (by decide : 44 + 0 ≤ _)⟩)
      dsimp only [Pt.U, Pt.locs, Pt.cells, Pt.slots] at X17 l17 y17 z17 st17 hQ17
      subst l17 y17 z17
      obtain ⟨r17, rfl, N17q, e17q, hr17⟩ := hQ17
      have N17 := Fr.app N16 N17q
      refine Ends.go (fun _ k => st17.trans k) ?_
      show Ends p e below s T17 (mkF m 422 #[.val (.int p0), .val (.int p1), .val (.int p2), .val (.int p3), .val (.int p4), .val (.int p5), .val (.int c0), .val (.int c1), .val (.int d0), .val (.int d1), .val (.int md), .val (.ref ta), .val (.ref tb), .val (.int tx), .val (.ref aa), .val (.ref ab), .val (.int kk), .val (.int fe), .val (.int ex), .val (.ref b1), .val (.ref b9), .val (.ref ta)] [(.int r17)]) _ _ _
      refine Ends.go (fun _ k => XS.iload X17.here hx rfl (hb hby at_422) rfl k) ?_
      show Ends p e below s T17 (mkF m 424 #[.val (.int p0), .val (.int p1), .val (.int p2), .val (.int p3), .val (.int p4), .val (.int p5), .val (.int c0), .val (.int c1), .val (.int d0), .val (.int d1), .val (.int md), .val (.ref ta), .val (.ref tb), .val (.int tx), .val (.ref aa), .val (.ref ab), .val (.int kk), .val (.int fe), .val (.int ex), .val (.ref b1), .val (.ref b9), .val (.ref ta)] [(.int ex), (.int r17)]) _ _ _
      refine Ends.go (fun _ k => XS.icmpNo X17.here hx rfl (hb hby at_424) rfl (teq (own_same hr17 hex : r17 = ex)).2 k) ?_
      show Ends p e below s T17 (mkF m 427 #[.val (.int p0), .val (.int p1), .val (.int p2), .val (.int p3), .val (.int p4), .val (.int p5), .val (.int c0), .val (.int c1), .val (.int d0), .val (.int d1), .val (.int md), .val (.ref ta), .val (.ref tb), .val (.int tx), .val (.ref aa), .val (.ref ab), .val (.int kk), .val (.int fe), .val (.int ex), .val (.ref b1), .val (.ref b9), .val (.ref ta)] []) _ _ _
      refine Ends.go (fun _ k => XS.aload X17.here hx rfl (hb hby at_427) rfl rfl k) ?_
      show Ends p e below s T17 (mkF m 429 #[.val (.int p0), .val (.int p1), .val (.int p2), .val (.int p3), .val (.int p4), .val (.int p5), .val (.int c0), .val (.int c1), .val (.int d0), .val (.int d1), .val (.int md), .val (.ref ta), .val (.ref tb), .val (.int tx), .val (.ref aa), .val (.ref ab), .val (.int kk), .val (.int fe), .val (.int ex), .val (.ref b1), .val (.ref b9), .val (.ref ta)] [(.ref b9)]) _ _ _
      refine Ends.go (fun _ k => XS.aload X17.here hx rfl (hb hby at_429) rfl rfl k) ?_
      show Ends p e below s T17 (mkF m 431 #[.val (.int p0), .val (.int p1), .val (.int p2), .val (.int p3), .val (.int p4), .val (.int p5), .val (.int c0), .val (.int c1), .val (.int d0), .val (.int d1), .val (.int md), .val (.ref ta), .val (.ref tb), .val (.int tx), .val (.ref aa), .val (.ref ab), .val (.int kk), .val (.int fe), .val (.int ex), .val (.ref b1), .val (.ref b9), .val (.ref ta)] [(.ref b1), (.ref b9)]) _ _ _
      obtain ⟨cq18, kq18, q18a, q18b, q18c⟩ := isOf hZ e17q Eq16
      obtain ⟨_, _, ⟨T18, L18, k18, n18⟩, -, X18, ⟨Lc18, hQ18, l18, y18, z18⟩, st18⟩ := X17.virtualBack hx (y := (⟨"com/example/authority/authority/UriReference", "equals", "(Ljava/lang/Object;)Z"⟩ : MethodName)) (z := (⟨"com/example/authority/authority/UriReference", "equals", "(Ljava/lang/Object;)Z"⟩ : MethodName)) hown (mvT hZ (hw _ (List.mem_of_getElem? (i := 52) rfl))) (mvT hZ (hw _ (List.mem_of_getElem? (i := 53) rfl))) (notFace_of_selects (args := #[]) (mvT hZ (hw _ (List.mem_of_getElem? (i := 55) rfl)))) (mvT hZ (hw _ (List.mem_of_getElem? (i := 55) rfl))) (mvT hZ (hw _ (List.mem_of_getElem? (i := 54) rfl))) (by decide) (own_backOf (W := 0) (rmE l Z a0 hw [] n0 h16 O16 b9 b1 G1 SCS P5 tb t2 k2 cb N2 vb fb_0 fb_1 fb_2 fb_3 fb_4 fb_5 ⟨((((Eb.ext E1).keep K8c).ext E9).keep K16c), ((((Vb.ext E1).keep K8c (ninS ne_tb_b1 nin0)).ext E9).keep K16c (ninS ne_tb_b9 nin0)), ((((Cb.ext E1).keep K8c (ninS ne_tb_b1 nin0)).ext E9).keep K16c (ninS ne_tb_b9 nin0)), ((((Ab.ext E1).keep K8c (ninS ne_t2_b1 nin0)).ext E9).keep K16c (ninS ne_t2_b9 nin0)), SB.2.2.2.2.1, SB.2.2.2.2.2.1, SB.2.2.2.2.2.2⟩ Eq16 Fq16_mText Fq16_mSchemeEnd Fq16_mHostStart Fq16_mHostEnd Fq16_mPathStart Fq16_mPathEnd Fq16_mQueryEnd ta t1 k1 ca N1 va p2 p3 (p2 ^^^ (-1 : Int32)) (p3 ^^^ (-1 : Int32)) (p2 ^^^ p3) (p2 - p3) ⟨((((Ea.ext E1).keep K8c).ext E9).keep K16c), ((((Va.ext E1).keep K8c (ninS ne_ta_b1 nin0)).ext E9).keep K16c (ninS ne_ta_b9 nin0)), ((((Ca.ext E1).keep K8c (ninS ne_ta_b1 nin0)).ext E9).keep K16c (ninS ne_ta_b9 nin0)), ((((Aa.ext E1).keep K8c (ninS ne_t1_b1 nin0)).ext E9).keep K16c (ninS ne_t1_b9 nin0)), SA.2.2.2.2.1, SA.2.2.2.2.2.1, SA.2.2.2.2.2.2⟩ ((Eq8.ext E9).keep K16c) ((Fq8_mText.ext E9).keep K16c (ninS ne_b1_b9 nin0)) ((Fq8_mSchemeEnd.ext E9).keep K16c (ninS ne_b1_b9 nin0)) ((Fq8_mHostStart.ext E9).keep K16c (ninS ne_b1_b9 nin0)) ((Fq8_mHostEnd.ext E9).keep K16c (ninS ne_b1_b9 nin0)) ((Fq8_mPathStart.ext E9).keep K16c (ninS ne_b1_b9 nin0)) ((Fq8_mPathEnd.ext E9).keep K16c (ninS ne_b1_b9 nin0)) ((Fq8_mQueryEnd.ext E9).keep K16c (ninS ne_b1_b9 nin0))) hZ (hw _ (List.mem_of_getElem? (i := 56) rfl)) (hw _ (List.mem_of_getElem? (i := 33) rfl)) (by decide) (by decide)) q18a q18c (g := (mkF m 431 #[.val (.int p0), .val (.int p1), .val (.int p2), .val (.int p3), .val (.int p4), .val (.int p5), .val (.int c0), .val (.int c1), .val (.int d0), .val (.int d1), .val (.int md), .val (.ref ta), .val (.ref tb), .val (.int tx), .val (.ref aa), .val (.ref ab), .val (.int kk), .val (.int fe), .val (.int ex), .val (.ref b1), .val (.ref b9), .val (.ref ta)] [(.ref b1), (.ref b9)])) rfl (by rw [hml]; rfl) (Steps.refl _) (argsL := [(.ref b1)]) (rest := []) (lenOf pd0_1 rfl) rfl (by show 2 * 0 + _ ≤ _; exact Nat.le_of_eq rfl) (hb hby at_431) (fun _ _ => ⟨rfl, e17q, (by decide : 10 + 0 ≤ _), (by decide : 44 + 0 ≤ _)⟩)
      dsimp only [Pt.U, Pt.locs, Pt.cells, Pt.slots] at X18 l18 y18 z18 st18 hQ18
      subst l18 y18 z18
      obtain ⟨r18, rfl, N18q, e18q, hr18⟩ := hQ18
      have N18 := Fr.app N17 N18q
      refine Ends.go (fun _ k => st18.trans k) ?_
      show Ends p e below s T18 (mkF m 434 #[.val (.int p0), .val (.int p1), .val (.int p2), .val (.int p3), .val (.int p4), .val (.int p5), .val (.int c0), .val (.int c1), .val (.int d0), .val (.int d1), .val (.int md), .val (.ref ta), .val (.ref tb), .val (.int tx), .val (.ref aa), .val (.ref ab), .val (.int kk), .val (.int fe), .val (.int ex), .val (.ref b1), .val (.ref b9), .val (.ref ta)] [(.int r18)]) _ _ _
      refine Ends.go (fun _ k => XS.iload X18.here hx rfl (hb hby at_434) rfl k) ?_
      show Ends p e below s T18 (mkF m 436 #[.val (.int p0), .val (.int p1), .val (.int p2), .val (.int p3), .val (.int p4), .val (.int p5), .val (.int c0), .val (.int c1), .val (.int d0), .val (.int d1), .val (.int md), .val (.ref ta), .val (.ref tb), .val (.int tx), .val (.ref aa), .val (.ref ab), .val (.int kk), .val (.int fe), .val (.int ex), .val (.ref b1), .val (.ref b9), .val (.ref ta)] [(.int ex), (.int r18)]) _ _ _
      refine Ends.go (fun _ k => XS.icmpNo X18.here hx rfl (hb hby at_436) rfl (teq (own_same hr18 (own_flip hex) : r18 = ex)).2 k) ?_
      show Ends p e below s T18 (mkF m 439 #[.val (.int p0), .val (.int p1), .val (.int p2), .val (.int p3), .val (.int p4), .val (.int p5), .val (.int c0), .val (.int c1), .val (.int d0), .val (.int d1), .val (.int md), .val (.ref ta), .val (.ref tb), .val (.int tx), .val (.ref aa), .val (.ref ab), .val (.int kk), .val (.int fe), .val (.int ex), .val (.ref b1), .val (.ref b9), .val (.ref ta)] []) _ _ _
      refine Ends.go (fun _ k => XS.aload X18.here hx rfl (hb hby at_439) rfl rfl k) ?_
      show Ends p e below s T18 (mkF m 441 #[.val (.int p0), .val (.int p1), .val (.int p2), .val (.int p3), .val (.int p4), .val (.int p5), .val (.int c0), .val (.int c1), .val (.int d0), .val (.int d1), .val (.int md), .val (.ref ta), .val (.ref tb), .val (.int tx), .val (.ref aa), .val (.ref ab), .val (.int kk), .val (.int fe), .val (.int ex), .val (.ref b1), .val (.ref b9), .val (.ref ta)] [(.ref b1)]) _ _ _
      refine Ends.go (fun _ k => XS.aload X18.here hx rfl (hb hby at_441) rfl rfl k) ?_
      show Ends p e below s T18 (mkF m 443 #[.val (.int p0), .val (.int p1), .val (.int p2), .val (.int p3), .val (.int p4), .val (.int p5), .val (.int c0), .val (.int c1), .val (.int d0), .val (.int d1), .val (.int md), .val (.ref ta), .val (.ref tb), .val (.int tx), .val (.ref aa), .val (.ref ab), .val (.int kk), .val (.int fe), .val (.int ex), .val (.ref b1), .val (.ref b9), .val (.ref ta)] [(.ref b1), (.ref b1)]) _ _ _
      obtain ⟨cq19, kq19, q19a, q19b, q19c⟩ := isOf hZ e18q ((Eq8.ext E9).keep K16c)
      obtain ⟨_, _, ⟨T19, L19, k19, n19⟩, -, X19, ⟨Lc19, hQ19, l19, y19, z19⟩, st19⟩ := X18.virtualBack hx (y := (⟨"com/example/authority/authority/UriReference", "equals", "(Ljava/lang/Object;)Z"⟩ : MethodName)) (z := (⟨"com/example/authority/authority/UriReference", "equals", "(Ljava/lang/Object;)Z"⟩ : MethodName)) hown (mvT hZ (hw _ (List.mem_of_getElem? (i := 52) rfl))) (mvT hZ (hw _ (List.mem_of_getElem? (i := 53) rfl))) (notFace_of_selects (args := #[]) (mvT hZ (hw _ (List.mem_of_getElem? (i := 55) rfl)))) (mvT hZ (hw _ (List.mem_of_getElem? (i := 55) rfl))) (mvT hZ (hw _ (List.mem_of_getElem? (i := 54) rfl))) (by decide) (own_backOf (W := 0) (rmE l Z a0 hw [] n0 h16 O16 b1 b1 G1 SCS P5 ta t1 k1 ca N1 va p2 p3 (p2 ^^^ (-1 : Int32)) (p3 ^^^ (-1 : Int32)) (p2 ^^^ p3) (p2 - p3) ⟨((((Ea.ext E1).keep K8c).ext E9).keep K16c), ((((Va.ext E1).keep K8c (ninS ne_ta_b1 nin0)).ext E9).keep K16c (ninS ne_ta_b9 nin0)), ((((Ca.ext E1).keep K8c (ninS ne_ta_b1 nin0)).ext E9).keep K16c (ninS ne_ta_b9 nin0)), ((((Aa.ext E1).keep K8c (ninS ne_t1_b1 nin0)).ext E9).keep K16c (ninS ne_t1_b9 nin0)), SA.2.2.2.2.1, SA.2.2.2.2.2.1, SA.2.2.2.2.2.2⟩ ((Eq8.ext E9).keep K16c) ((Fq8_mText.ext E9).keep K16c (ninS ne_b1_b9 nin0)) ((Fq8_mSchemeEnd.ext E9).keep K16c (ninS ne_b1_b9 nin0)) ((Fq8_mHostStart.ext E9).keep K16c (ninS ne_b1_b9 nin0)) ((Fq8_mHostEnd.ext E9).keep K16c (ninS ne_b1_b9 nin0)) ((Fq8_mPathStart.ext E9).keep K16c (ninS ne_b1_b9 nin0)) ((Fq8_mPathEnd.ext E9).keep K16c (ninS ne_b1_b9 nin0)) ((Fq8_mQueryEnd.ext E9).keep K16c (ninS ne_b1_b9 nin0)) ta t1 k1 ca N1 va p2 p3 (p2 ^^^ (-1 : Int32)) (p3 ^^^ (-1 : Int32)) (p2 ^^^ p3) (p2 - p3) ⟨((((Ea.ext E1).keep K8c).ext E9).keep K16c), ((((Va.ext E1).keep K8c (ninS ne_ta_b1 nin0)).ext E9).keep K16c (ninS ne_ta_b9 nin0)), ((((Ca.ext E1).keep K8c (ninS ne_ta_b1 nin0)).ext E9).keep K16c (ninS ne_ta_b9 nin0)), ((((Aa.ext E1).keep K8c (ninS ne_t1_b1 nin0)).ext E9).keep K16c (ninS ne_t1_b9 nin0)), SA.2.2.2.2.1, SA.2.2.2.2.2.1, SA.2.2.2.2.2.2⟩ ((Eq8.ext E9).keep K16c) ((Fq8_mText.ext E9).keep K16c (ninS ne_b1_b9 nin0)) ((Fq8_mSchemeEnd.ext E9).keep K16c (ninS ne_b1_b9 nin0)) ((Fq8_mHostStart.ext E9).keep K16c (ninS ne_b1_b9 nin0)) ((Fq8_mHostEnd.ext E9).keep K16c (ninS ne_b1_b9 nin0)) ((Fq8_mPathStart.ext E9).keep K16c (ninS ne_b1_b9 nin0)) ((Fq8_mPathEnd.ext E9).keep K16c (ninS ne_b1_b9 nin0)) ((Fq8_mQueryEnd.ext E9).keep K16c (ninS ne_b1_b9 nin0))) hZ (hw _ (List.mem_of_getElem? (i := 56) rfl)) (hw _ (List.mem_of_getElem? (i := 33) rfl)) (by decide) (by decide)) q19a q19c (g := (mkF m 443 #[.val (.int p0), .val (.int p1), .val (.int p2), .val (.int p3), .val (.int p4), .val (.int p5), .val (.int c0), .val (.int c1), .val (.int d0), .val (.int d1), .val (.int md), .val (.ref ta), .val (.ref tb), .val (.int tx), .val (.ref aa), .val (.ref ab), .val (.int kk), .val (.int fe), .val (.int ex), .val (.ref b1), .val (.ref b9), .val (.ref ta)] [(.ref b1), (.ref b1)])) rfl (by rw [hml]; rfl) (Steps.refl _) (argsL := [(.ref b1)]) (rest := []) (lenOf pd0_1 rfl) rfl (by show 2 * 0 + _ ≤ _; exact Nat.le_of_eq rfl) (hb hby at_443) (fun _ _ => ⟨rfl, e18q, (by decide : 10 + 0 ≤ _), (by decide : 44 + 0 ≤ _)⟩)
      dsimp only [Pt.U, Pt.locs, Pt.cells, Pt.slots] at X19 l19 y19 z19 st19 hQ19
      subst l19 y19 z19
      obtain ⟨r19, rfl, N19q, e19q, hr19⟩ := hQ19
      have N19 := Fr.app N18 N19q
      refine Ends.go (fun _ k => st19.trans k) ?_
      show Ends p e below s T19 (mkF m 446 #[.val (.int p0), .val (.int p1), .val (.int p2), .val (.int p3), .val (.int p4), .val (.int p5), .val (.int c0), .val (.int c1), .val (.int d0), .val (.int d1), .val (.int md), .val (.ref ta), .val (.ref tb), .val (.int tx), .val (.ref aa), .val (.ref ab), .val (.int kk), .val (.int fe), .val (.int ex), .val (.ref b1), .val (.ref b9), .val (.ref ta)] [(.int r19)]) _ _ _
      refine Ends.go (fun _ k => XS.ifNo X19.here hx rfl (hb hby at_446) rfl ((if0 _ _).trans (feq (own_yes hr19 ⟨rfl, rfl, rfl, rfl, rfl, rfl, rfl⟩ : ¬ (r19 = (0 : Int32)))).1) k) ?_
      show Ends p e below s T19 (mkF m 449 #[.val (.int p0), .val (.int p1), .val (.int p2), .val (.int p3), .val (.int p4), .val (.int p5), .val (.int c0), .val (.int c1), .val (.int d0), .val (.int d1), .val (.int md), .val (.ref ta), .val (.ref tb), .val (.int tx), .val (.ref aa), .val (.ref ab), .val (.int kk), .val (.int fe), .val (.int ex), .val (.ref b1), .val (.ref b9), .val (.ref ta)] []) _ _ _
      refine Ends.go (fun _ k => XS.aload X19.here hx rfl (hb hby at_449) rfl rfl k) ?_
      show Ends p e below s T19 (mkF m 451 #[.val (.int p0), .val (.int p1), .val (.int p2), .val (.int p3), .val (.int p4), .val (.int p5), .val (.int c0), .val (.int c1), .val (.int d0), .val (.int d1), .val (.int md), .val (.ref ta), .val (.ref tb), .val (.int tx), .val (.ref aa), .val (.ref ab), .val (.int kk), .val (.int fe), .val (.int ex), .val (.ref b1), .val (.ref b9), .val (.ref ta)] [(.ref b1)]) _ _ _
      refine Ends.go (fun _ k => XS.aconstNull X19.here hx rfl (hb hby at_451) k) ?_
      show Ends p e below s T19 (mkF m 452 #[.val (.int p0), .val (.int p1), .val (.int p2), .val (.int p3), .val (.int p4), .val (.int p5), .val (.int c0), .val (.int c1), .val (.int d0), .val (.int d1), .val (.int md), .val (.ref ta), .val (.ref tb), .val (.int tx), .val (.ref aa), .val (.ref ab), .val (.int kk), .val (.int fe), .val (.int ex), .val (.ref b1), .val (.ref b9), .val (.ref ta)] [.null, (.ref b1)]) _ _ _
      obtain ⟨cq20, kq20, q20a, q20b, q20c⟩ := isOf hZ e19q ((Eq8.ext E9).keep K16c)
      obtain ⟨_, _, ⟨T20, L20, k20, n20⟩, -, X20, ⟨Lc20, hQ20, l20, y20, z20⟩, st20⟩ := X19.virtualBack hx (y := (⟨"com/example/authority/authority/UriReference", "equals", "(Ljava/lang/Object;)Z"⟩ : MethodName)) (z := (⟨"com/example/authority/authority/UriReference", "equals", "(Ljava/lang/Object;)Z"⟩ : MethodName)) hown (mvT hZ (hw _ (List.mem_of_getElem? (i := 52) rfl))) (mvT hZ (hw _ (List.mem_of_getElem? (i := 53) rfl))) (notFace_of_selects (args := #[]) (mvT hZ (hw _ (List.mem_of_getElem? (i := 55) rfl)))) (mvT hZ (hw _ (List.mem_of_getElem? (i := 55) rfl))) (mvT hZ (hw _ (List.mem_of_getElem? (i := 54) rfl))) (by decide) (own_backOf (W := 0) (rmZ l Z a0 hw [] n0 h16 O16 b1 ) hZ (hw _ (List.mem_of_getElem? (i := 56) rfl)) (hw _ (List.mem_of_getElem? (i := 33) rfl)) (by decide) (by decide)) q20a q20c (g := (mkF m 452 #[.val (.int p0), .val (.int p1), .val (.int p2), .val (.int p3), .val (.int p4), .val (.int p5), .val (.int c0), .val (.int c1), .val (.int d0), .val (.int d1), .val (.int md), .val (.ref ta), .val (.ref tb), .val (.int tx), .val (.ref aa), .val (.ref ab), .val (.int kk), .val (.int fe), .val (.int ex), .val (.ref b1), .val (.ref b9), .val (.ref ta)] [.null, (.ref b1)])) rfl (by rw [hml]; rfl) (Steps.refl _) (argsL := [.null]) (rest := []) (lenOf pd0_1 rfl) rfl (by show 2 * 0 + _ ≤ _; exact Nat.le_of_eq rfl) (hb hby at_452) (fun _ _ => ⟨rfl, e19q, (by decide : 10 + 0 ≤ _), (by decide : 44 + 0 ≤ _)⟩)
      dsimp only [Pt.U, Pt.locs, Pt.cells, Pt.slots] at X20 l20 y20 z20 st20 hQ20
      subst l20 y20 z20
      obtain ⟨rfl, N20q, e20q⟩ := hQ20
      have N20 := Fr.app N19 N20q
      refine Ends.go (fun _ k => st20.trans k) ?_
      show Ends p e below s T20 (mkF m 455 #[.val (.int p0), .val (.int p1), .val (.int p2), .val (.int p3), .val (.int p4), .val (.int p5), .val (.int c0), .val (.int c1), .val (.int d0), .val (.int d1), .val (.int md), .val (.ref ta), .val (.ref tb), .val (.int tx), .val (.ref aa), .val (.ref ab), .val (.int kk), .val (.int fe), .val (.int ex), .val (.ref b1), .val (.ref b9), .val (.ref ta)] [(.int (0 : Int32))]) _ _ _
      refine Ends.go (fun _ k => XS.ifNo X20.here hx rfl (hb hby at_455) rfl ((if0 _ _).trans (teq (by decide : (0 : Int32) = (0 : Int32))).2) k) ?_
      show Ends p e below s T20 (mkF m 458 #[.val (.int p0), .val (.int p1), .val (.int p2), .val (.int p3), .val (.int p4), .val (.int p5), .val (.int c0), .val (.int c1), .val (.int d0), .val (.int d1), .val (.int md), .val (.ref ta), .val (.ref tb), .val (.int tx), .val (.ref aa), .val (.ref ab), .val (.int kk), .val (.int fe), .val (.int ex), .val (.ref b1), .val (.ref b9), .val (.ref ta)] []) _ _ _
      refine Ends.go (fun _ k => XS.aload X20.here hx rfl (hb hby at_458) rfl rfl k) ?_
      show Ends p e below s T20 (mkF m 460 #[.val (.int p0), .val (.int p1), .val (.int p2), .val (.int p3), .val (.int p4), .val (.int p5), .val (.int c0), .val (.int c1), .val (.int d0), .val (.int d1), .val (.int md), .val (.ref ta), .val (.ref tb), .val (.int tx), .val (.ref aa), .val (.ref ab), .val (.int kk), .val (.int fe), .val (.int ex), .val (.ref b1), .val (.ref b9), .val (.ref ta)] [(.ref b1)]) _ _ _
      refine Ends.go (fun _ k => XS.aload X20.here hx rfl (hb hby at_460) rfl rfl k) ?_
      show Ends p e below s T20 (mkF m 462 #[.val (.int p0), .val (.int p1), .val (.int p2), .val (.int p3), .val (.int p4), .val (.int p5), .val (.int c0), .val (.int c1), .val (.int d0), .val (.int d1), .val (.int md), .val (.ref ta), .val (.ref tb), .val (.int tx), .val (.ref aa), .val (.ref ab), .val (.int kk), .val (.int fe), .val (.int ex), .val (.ref b1), .val (.ref b9), .val (.ref ta)] [(.ref ta), (.ref b1)]) _ _ _
      obtain ⟨cq21, kq21, q21a, q21b, q21c⟩ := isOf hZ e20q ((Eq8.ext E9).keep K16c)
      obtain ⟨_, _, ⟨T21, L21, k21, n21⟩, -, X21, ⟨Lc21, hQ21, l21, y21, z21⟩, st21⟩ := X20.virtualBack hx (y := (⟨"com/example/authority/authority/UriReference", "equals", "(Ljava/lang/Object;)Z"⟩ : MethodName)) (z := (⟨"com/example/authority/authority/UriReference", "equals", "(Ljava/lang/Object;)Z"⟩ : MethodName)) hown (mvT hZ (hw _ (List.mem_of_getElem? (i := 52) rfl))) (mvT hZ (hw _ (List.mem_of_getElem? (i := 53) rfl))) (notFace_of_selects (args := #[]) (mvT hZ (hw _ (List.mem_of_getElem? (i := 55) rfl)))) (mvT hZ (hw _ (List.mem_of_getElem? (i := 55) rfl))) (mvT hZ (hw _ (List.mem_of_getElem? (i := 54) rfl))) (by decide) (own_backOf (W := 0) (rmT l Z a0 hw [] n0 h16 O16 b1 ta ((((Ea.ext E1).keep K8c).ext E9).keep K16c)) hZ (hw _ (List.mem_of_getElem? (i := 56) rfl)) (hw _ (List.mem_of_getElem? (i := 33) rfl)) (by decide) (by decide)) q21a q21c (g := (mkF m 462 #[.val (.int p0), .val (.int p1), .val (.int p2), .val (.int p3), .val (.int p4), .val (.int p5), .val (.int c0), .val (.int c1), .val (.int d0), .val (.int d1), .val (.int md), .val (.ref ta), .val (.ref tb), .val (.int tx), .val (.ref aa), .val (.ref ab), .val (.int kk), .val (.int fe), .val (.int ex), .val (.ref b1), .val (.ref b9), .val (.ref ta)] [(.ref ta), (.ref b1)])) rfl (by rw [hml]; rfl) (Steps.refl _) (argsL := [(.ref ta)]) (rest := []) (lenOf pd0_1 rfl) rfl (by show 2 * 0 + _ ≤ _; exact Nat.le_of_eq rfl) (hb hby at_462) (fun _ _ => ⟨rfl, e20q, (by decide : 10 + 0 ≤ _), (by decide : 44 + 0 ≤ _)⟩)
      dsimp only [Pt.U, Pt.locs, Pt.cells, Pt.slots] at X21 l21 y21 z21 st21 hQ21
      subst l21 y21 z21
      obtain ⟨rfl, N21q, e21q⟩ := hQ21
      have N21 := Fr.app N20 N21q
      refine Ends.go (fun _ k => st21.trans k) ?_
      show Ends p e below s T21 (mkF m 465 #[.val (.int p0), .val (.int p1), .val (.int p2), .val (.int p3), .val (.int p4), .val (.int p5), .val (.int c0), .val (.int c1), .val (.int d0), .val (.int d1), .val (.int md), .val (.ref ta), .val (.ref tb), .val (.int tx), .val (.ref aa), .val (.ref ab), .val (.int kk), .val (.int fe), .val (.int ex), .val (.ref b1), .val (.ref b9), .val (.ref ta)] [(.int (0 : Int32))]) _ _ _
      refine Ends.go (fun _ k => XS.ifNo X21.here hx rfl (hb hby at_465) rfl ((if0 _ _).trans (teq (by decide : (0 : Int32) = (0 : Int32))).2) k) ?_
      show Ends p e below s T21 (mkF m 468 #[.val (.int p0), .val (.int p1), .val (.int p2), .val (.int p3), .val (.int p4), .val (.int p5), .val (.int c0), .val (.int c1), .val (.int d0), .val (.int d1), .val (.int md), .val (.ref ta), .val (.ref tb), .val (.int tx), .val (.ref aa), .val (.ref ab), .val (.int kk), .val (.int fe), .val (.int ex), .val (.ref b1), .val (.ref b9), .val (.ref ta)] []) _ _ _
      refine Ends.go (fun _ k => XS.iconst X21.here hx rfl (hb hby at_468) k) ?_
      show Ends p e below s T21 (mkF m 469 #[.val (.int p0), .val (.int p1), .val (.int p2), .val (.int p3), .val (.int p4), .val (.int p5), .val (.int c0), .val (.int c1), .val (.int d0), .val (.int d1), .val (.int md), .val (.ref ta), .val (.ref tb), .val (.int tx), .val (.ref aa), .val (.ref ab), .val (.int kk), .val (.int fe), .val (.int ex), .val (.ref b1), .val (.ref b9), .val (.ref ta)] [(.int (1 : Int32))]) _ _ _
      refine Ends.go (fun _ k => XS.goto X21.here hx rfl (pc0 := 469) (pc' := 473) rfl (hb hby at_469) (by decide) (by decide) k) ?_
      show Ends p e below s T21 (mkF m 473 #[.val (.int p0), .val (.int p1), .val (.int p2), .val (.int p3), .val (.int p4), .val (.int p5), .val (.int c0), .val (.int c1), .val (.int d0), .val (.int d1), .val (.int md), .val (.ref ta), .val (.ref tb), .val (.int tx), .val (.ref aa), .val (.ref ab), .val (.int kk), .val (.int fe), .val (.int ex), .val (.ref b1), .val (.ref b9), .val (.ref ta)] [(.int (1 : Int32))]) _ _ _
      refine Ends.retZ X21 hx Bd.notSynchronized (t := .boolean) Bd.returns (by simp) (hb hby at_473) (by decide) (by decide) ?_
      exact ⟨rfl, N21⟩
    obtain ⟨Ea, Va, Ca, Aa, -, -, -⟩ := id SA
    obtain ⟨Eb, Vb, Cb, Ab, -, -, -⟩ := id SB
    show Ends p e below s TT (mkF m 200 #[.val (.int p0), .val (.int p1), .val (.int p2), .val (.int p3), .val (.int p4), .val (.int p5), .val (.int c0), .val (.int c1), .val (.int d0), .val (.int d1), .val (.int md), .val (.ref ta), .val (.ref tb), .val (.int tx), .unset, .unset, .unset, .unset, .unset, .unset, .unset, .unset] []) _ _ _
    refine Ends.go (fun _ k => XS.bipush XX.here hx rfl (hb hby at_200) k) ?_
    show Ends p e below s TT (mkF m 202 #[.val (.int p0), .val (.int p1), .val (.int p2), .val (.int p3), .val (.int p4), .val (.int p5), .val (.int c0), .val (.int c1), .val (.int d0), .val (.int d1), .val (.int md), .val (.ref ta), .val (.ref tb), .val (.int tx), .unset, .unset, .unset, .unset, .unset, .unset, .unset, .unset] [(.int (6 : Int32))]) _ _ _
    obtain ⟨T22, h22, k22, X22, e22, E22, A22, st22⟩ := newP XX hx hZ (hw _ (List.mem_of_getElem? (i := 30) rfl)) eTT (g := (mkF m 202 #[.val (.int p0), .val (.int p1), .val (.int p2), .val (.int p3), .val (.int p4), .val (.int p5), .val (.int c0), .val (.int c1), .val (.int d0), .val (.int d1), .val (.int md), .val (.ref ta), .val (.ref tb), .val (.int tx), .unset, .unset, .unset, .unset, .unset, .unset, .unset, .unset] [(.int (6 : Int32))])) rfl (hb hby at_202) rfl (by decide) (cap := 6) (by decide) (by decide) (by decide) (by decide)
    obtain ⟨b22, g22⟩ : ∃ z, z = hh.size := ⟨_, rfl⟩
    rw [← g22] at A22 st22
    refine Ends.go st22 ?_
    have ne_ta_b22 : ta ≠ b22 := Nat.ne_of_lt (Nat.lt_of_lt_of_le Ea.lt (Nat.le_of_eq g22.symm))
    have ne_t1_b22 : t1 ≠ b22 := Nat.ne_of_lt (Nat.lt_of_lt_of_le Aa.lt (Nat.le_of_eq g22.symm))
    have ne_tb_b22 : tb ≠ b22 := Nat.ne_of_lt (Nat.lt_of_lt_of_le Eb.lt (Nat.le_of_eq g22.symm))
    have ne_t2_b22 : t2 ≠ b22 := Nat.ne_of_lt (Nat.lt_of_lt_of_le Ab.lt (Nat.le_of_eq g22.symm))
    have g_b22 : n0 ≤ b22 := Nat.le_trans (own_old_le OO) (Nat.le_of_eq g22.symm)
    have sz_b22 : h0.size ≤ b22 := Nat.le_trans KK.1 (Nat.le_of_eq g22.symm)
    have K22 := KK.ext E22
    have O22 := OO.ext E22
    have V_b22 : Arv Z h22 b22 k22 .int (6 : Int32) [(.int (0 : Int32)), (.int (0 : Int32)), (.int (0 : Int32)), (.int (0 : Int32)), (.int (0 : Int32)), (.int (0 : Int32))] (.int (0 : Int32)) := (Arv.new A22 (by decide)).pad (pad_rep [] (.int (0 : Int32)) 6)
    show Ends p e below s T22 (mkF m 204 #[.val (.int p0), .val (.int p1), .val (.int p2), .val (.int p3), .val (.int p4), .val (.int p5), .val (.int c0), .val (.int c1), .val (.int d0), .val (.int d1), .val (.int md), .val (.ref ta), .val (.ref tb), .val (.int tx), .unset, .unset, .unset, .unset, .unset, .unset, .unset, .unset] [(.ref b22)]) _ _ _
    refine Ends.go (fun _ k => XS.dup X22.here hx rfl (hb hby at_204) rfl rfl k) ?_
    show Ends p e below s T22 (mkF m 205 #[.val (.int p0), .val (.int p1), .val (.int p2), .val (.int p3), .val (.int p4), .val (.int p5), .val (.int c0), .val (.int c1), .val (.int d0), .val (.int d1), .val (.int md), .val (.ref ta), .val (.ref tb), .val (.int tx), .unset, .unset, .unset, .unset, .unset, .unset, .unset, .unset] [(.ref b22), (.ref b22)]) _ _ _
    refine Ends.go (fun _ k => XS.iconst X22.here hx rfl (hb hby at_205) k) ?_
    show Ends p e below s T22 (mkF m 206 #[.val (.int p0), .val (.int p1), .val (.int p2), .val (.int p3), .val (.int p4), .val (.int p5), .val (.int c0), .val (.int c1), .val (.int d0), .val (.int d1), .val (.int md), .val (.ref ta), .val (.ref tb), .val (.int tx), .unset, .unset, .unset, .unset, .unset, .unset, .unset, .unset] [(.int (0 : Int32)), (.ref b22), (.ref b22)]) _ _ _
    refine Ends.go (fun _ k => XS.iloadN X22.here hx rfl (hb hby at_206) rfl k) ?_
    show Ends p e below s T22 (mkF m 207 #[.val (.int p0), .val (.int p1), .val (.int p2), .val (.int p3), .val (.int p4), .val (.int p5), .val (.int c0), .val (.int c1), .val (.int d0), .val (.int d1), .val (.int md), .val (.ref ta), .val (.ref tb), .val (.int tx), .unset, .unset, .unset, .unset, .unset, .unset, .unset, .unset] [(.int p2), (.int (0 : Int32)), (.ref b22), (.ref b22)]) _ _ _
    obtain ⟨cl23, Ar23, q23, S23, M23, H23, G23⟩ := id V_b22
    have hin23 := inb_of (j := (0 : Int32)) S23 ⟨by decide, by decide⟩
    obtain ⟨T23, h23, X23, e23, W23, st23⟩ := stI X22 hx hZ e22 Ar23 (j := (0 : Int32)) hin23 (g := (mkF m 207 #[.val (.int p0), .val (.int p1), .val (.int p2), .val (.int p3), .val (.int p4), .val (.int p5), .val (.int c0), .val (.int c1), .val (.int d0), .val (.int d1), .val (.int md), .val (.ref ta), .val (.ref tb), .val (.int tx), .unset, .unset, .unset, .unset, .unset, .unset, .unset, .unset] [(.int p2), (.int (0 : Int32)), (.ref b22), (.ref b22)])) rfl rfl (hb hby at_207)
    refine Ends.go st23 ?_
    have V23 : Arv Z h23 b22 k22 .int (6 : Int32) [(.int p2), (.int (0 : Int32)), (.int (0 : Int32)), (.int (0 : Int32)), (.int (0 : Int32)), (.int (0 : Int32))] (.int (0 : Int32)) := Arv.set Ar23 q23 S23 M23 H23 G23 rfl W23 0 rfl (Nat.le_of_ble_eq_true rfl)
    have K23 := K22.wr W23 (Or.inr sz_b22)
    have O23 := O22.wr W23 g_b22
    have N23 := Fr.snoc X23 NN g_b22
    show Ends p e below s T23 (mkF m 208 #[.val (.int p0), .val (.int p1), .val (.int p2), .val (.int p3), .val (.int p4), .val (.int p5), .val (.int c0), .val (.int c1), .val (.int d0), .val (.int d1), .val (.int md), .val (.ref ta), .val (.ref tb), .val (.int tx), .unset, .unset, .unset, .unset, .unset, .unset, .unset, .unset] [(.ref b22)]) _ _ _
    refine Ends.go (fun _ k => XS.dup X23.here hx rfl (hb hby at_208) rfl rfl k) ?_
    show Ends p e below s T23 (mkF m 209 #[.val (.int p0), .val (.int p1), .val (.int p2), .val (.int p3), .val (.int p4), .val (.int p5), .val (.int c0), .val (.int c1), .val (.int d0), .val (.int d1), .val (.int md), .val (.ref ta), .val (.ref tb), .val (.int tx), .unset, .unset, .unset, .unset, .unset, .unset, .unset, .unset] [(.ref b22), (.ref b22)]) _ _ _
    refine Ends.go (fun _ k => XS.iconst X23.here hx rfl (hb hby at_209) k) ?_
    show Ends p e below s T23 (mkF m 210 #[.val (.int p0), .val (.int p1), .val (.int p2), .val (.int p3), .val (.int p4), .val (.int p5), .val (.int c0), .val (.int c1), .val (.int d0), .val (.int d1), .val (.int md), .val (.ref ta), .val (.ref tb), .val (.int tx), .unset, .unset, .unset, .unset, .unset, .unset, .unset, .unset] [(.int (1 : Int32)), (.ref b22), (.ref b22)]) _ _ _
    refine Ends.go (fun _ k => XS.iloadN X23.here hx rfl (hb hby at_210) rfl k) ?_
    show Ends p e below s T23 (mkF m 211 #[.val (.int p0), .val (.int p1), .val (.int p2), .val (.int p3), .val (.int p4), .val (.int p5), .val (.int c0), .val (.int c1), .val (.int d0), .val (.int d1), .val (.int md), .val (.ref ta), .val (.ref tb), .val (.int tx), .unset, .unset, .unset, .unset, .unset, .unset, .unset, .unset] [(.int p3), (.int (1 : Int32)), (.ref b22), (.ref b22)]) _ _ _
    obtain ⟨cl24, Ar24, q24, S24, M24, H24, G24⟩ := id V23
    have hin24 := inb_of (j := (1 : Int32)) S24 ⟨by decide, by decide⟩
    obtain ⟨T24, h24, X24, e24, W24, st24⟩ := stI X23 hx hZ e23 Ar24 (j := (1 : Int32)) hin24 (g := (mkF m 211 #[.val (.int p0), .val (.int p1), .val (.int p2), .val (.int p3), .val (.int p4), .val (.int p5), .val (.int c0), .val (.int c1), .val (.int d0), .val (.int d1), .val (.int md), .val (.ref ta), .val (.ref tb), .val (.int tx), .unset, .unset, .unset, .unset, .unset, .unset, .unset, .unset] [(.int p3), (.int (1 : Int32)), (.ref b22), (.ref b22)])) rfl rfl (hb hby at_211)
    refine Ends.go st24 ?_
    have V24 : Arv Z h24 b22 k22 .int (6 : Int32) [(.int p2), (.int p3), (.int (0 : Int32)), (.int (0 : Int32)), (.int (0 : Int32)), (.int (0 : Int32))] (.int (0 : Int32)) := Arv.set Ar24 q24 S24 M24 H24 G24 rfl W24 1 rfl (Nat.le_of_ble_eq_true rfl)
    have K24 := K23.wr W24 (Or.inr sz_b22)
    have O24 := O23.wr W24 g_b22
    have N24 := Fr.snoc X24 N23 g_b22
    show Ends p e below s T24 (mkF m 212 #[.val (.int p0), .val (.int p1), .val (.int p2), .val (.int p3), .val (.int p4), .val (.int p5), .val (.int c0), .val (.int c1), .val (.int d0), .val (.int d1), .val (.int md), .val (.ref ta), .val (.ref tb), .val (.int tx), .unset, .unset, .unset, .unset, .unset, .unset, .unset, .unset] [(.ref b22)]) _ _ _
    refine Ends.go (fun _ k => XS.dup X24.here hx rfl (hb hby at_212) rfl rfl k) ?_
    show Ends p e below s T24 (mkF m 213 #[.val (.int p0), .val (.int p1), .val (.int p2), .val (.int p3), .val (.int p4), .val (.int p5), .val (.int c0), .val (.int c1), .val (.int d0), .val (.int d1), .val (.int md), .val (.ref ta), .val (.ref tb), .val (.int tx), .unset, .unset, .unset, .unset, .unset, .unset, .unset, .unset] [(.ref b22), (.ref b22)]) _ _ _
    refine Ends.go (fun _ k => XS.iconst X24.here hx rfl (hb hby at_213) k) ?_
    show Ends p e below s T24 (mkF m 214 #[.val (.int p0), .val (.int p1), .val (.int p2), .val (.int p3), .val (.int p4), .val (.int p5), .val (.int c0), .val (.int c1), .val (.int d0), .val (.int d1), .val (.int md), .val (.ref ta), .val (.ref tb), .val (.int tx), .unset, .unset, .unset, .unset, .unset, .unset, .unset, .unset] [(.int (2 : Int32)), (.ref b22), (.ref b22)]) _ _ _
    refine Ends.go (fun _ k => XS.iloadN X24.here hx rfl (hb hby at_214) rfl k) ?_
    show Ends p e below s T24 (mkF m 215 #[.val (.int p0), .val (.int p1), .val (.int p2), .val (.int p3), .val (.int p4), .val (.int p5), .val (.int c0), .val (.int c1), .val (.int d0), .val (.int d1), .val (.int md), .val (.ref ta), .val (.ref tb), .val (.int tx), .unset, .unset, .unset, .unset, .unset, .unset, .unset, .unset] [(.int p2), (.int (2 : Int32)), (.ref b22), (.ref b22)]) _ _ _
    refine Ends.go (fun _ k => XS.iconst X24.here hx rfl (hb hby at_215) k) ?_
    show Ends p e below s T24 (mkF m 216 #[.val (.int p0), .val (.int p1), .val (.int p2), .val (.int p3), .val (.int p4), .val (.int p5), .val (.int c0), .val (.int c1), .val (.int d0), .val (.int d1), .val (.int md), .val (.ref ta), .val (.ref tb), .val (.int tx), .unset, .unset, .unset, .unset, .unset, .unset, .unset, .unset] [(.int (-1 : Int32)), (.int p2), (.int (2 : Int32)), (.ref b22), (.ref b22)]) _ _ _
    refine Ends.go (fun _ k => XS.ixor X24.here hx rfl (hb hby at_216) rfl k) ?_
    show Ends p e below s T24 (mkF m 217 #[.val (.int p0), .val (.int p1), .val (.int p2), .val (.int p3), .val (.int p4), .val (.int p5), .val (.int c0), .val (.int c1), .val (.int d0), .val (.int d1), .val (.int md), .val (.ref ta), .val (.ref tb), .val (.int tx), .unset, .unset, .unset, .unset, .unset, .unset, .unset, .unset] [(.int (p2 ^^^ (-1 : Int32))), (.int (2 : Int32)), (.ref b22), (.ref b22)]) _ _ _
    obtain ⟨cl25, Ar25, q25, S25, M25, H25, G25⟩ := id V24
    have hin25 := inb_of (j := (2 : Int32)) S25 ⟨by decide, by decide⟩
    obtain ⟨T25, h25, X25, e25, W25, st25⟩ := stI X24 hx hZ e24 Ar25 (j := (2 : Int32)) hin25 (g := (mkF m 217 #[.val (.int p0), .val (.int p1), .val (.int p2), .val (.int p3), .val (.int p4), .val (.int p5), .val (.int c0), .val (.int c1), .val (.int d0), .val (.int d1), .val (.int md), .val (.ref ta), .val (.ref tb), .val (.int tx), .unset, .unset, .unset, .unset, .unset, .unset, .unset, .unset] [(.int (p2 ^^^ (-1 : Int32))), (.int (2 : Int32)), (.ref b22), (.ref b22)])) rfl rfl (hb hby at_217)
    refine Ends.go st25 ?_
    have V25 : Arv Z h25 b22 k22 .int (6 : Int32) [(.int p2), (.int p3), (.int (p2 ^^^ (-1 : Int32))), (.int (0 : Int32)), (.int (0 : Int32)), (.int (0 : Int32))] (.int (0 : Int32)) := Arv.set Ar25 q25 S25 M25 H25 G25 rfl W25 2 rfl (Nat.le_of_ble_eq_true rfl)
    have K25 := K24.wr W25 (Or.inr sz_b22)
    have O25 := O24.wr W25 g_b22
    have N25 := Fr.snoc X25 N24 g_b22
    show Ends p e below s T25 (mkF m 218 #[.val (.int p0), .val (.int p1), .val (.int p2), .val (.int p3), .val (.int p4), .val (.int p5), .val (.int c0), .val (.int c1), .val (.int d0), .val (.int d1), .val (.int md), .val (.ref ta), .val (.ref tb), .val (.int tx), .unset, .unset, .unset, .unset, .unset, .unset, .unset, .unset] [(.ref b22)]) _ _ _
    refine Ends.go (fun _ k => XS.dup X25.here hx rfl (hb hby at_218) rfl rfl k) ?_
    show Ends p e below s T25 (mkF m 219 #[.val (.int p0), .val (.int p1), .val (.int p2), .val (.int p3), .val (.int p4), .val (.int p5), .val (.int c0), .val (.int c1), .val (.int d0), .val (.int d1), .val (.int md), .val (.ref ta), .val (.ref tb), .val (.int tx), .unset, .unset, .unset, .unset, .unset, .unset, .unset, .unset] [(.ref b22), (.ref b22)]) _ _ _
    refine Ends.go (fun _ k => XS.iconst X25.here hx rfl (hb hby at_219) k) ?_
    show Ends p e below s T25 (mkF m 220 #[.val (.int p0), .val (.int p1), .val (.int p2), .val (.int p3), .val (.int p4), .val (.int p5), .val (.int c0), .val (.int c1), .val (.int d0), .val (.int d1), .val (.int md), .val (.ref ta), .val (.ref tb), .val (.int tx), .unset, .unset, .unset, .unset, .unset, .unset, .unset, .unset] [(.int (3 : Int32)), (.ref b22), (.ref b22)]) _ _ _
    refine Ends.go (fun _ k => XS.iloadN X25.here hx rfl (hb hby at_220) rfl k) ?_
    show Ends p e below s T25 (mkF m 221 #[.val (.int p0), .val (.int p1), .val (.int p2), .val (.int p3), .val (.int p4), .val (.int p5), .val (.int c0), .val (.int c1), .val (.int d0), .val (.int d1), .val (.int md), .val (.ref ta), .val (.ref tb), .val (.int tx), .unset, .unset, .unset, .unset, .unset, .unset, .unset, .unset] [(.int p3), (.int (3 : Int32)), (.ref b22), (.ref b22)]) _ _ _
    refine Ends.go (fun _ k => XS.iconst X25.here hx rfl (hb hby at_221) k) ?_
    show Ends p e below s T25 (mkF m 222 #[.val (.int p0), .val (.int p1), .val (.int p2), .val (.int p3), .val (.int p4), .val (.int p5), .val (.int c0), .val (.int c1), .val (.int d0), .val (.int d1), .val (.int md), .val (.ref ta), .val (.ref tb), .val (.int tx), .unset, .unset, .unset, .unset, .unset, .unset, .unset, .unset] [(.int (-1 : Int32)), (.int p3), (.int (3 : Int32)), (.ref b22), (.ref b22)]) _ _ _
    refine Ends.go (fun _ k => XS.ixor X25.here hx rfl (hb hby at_222) rfl k) ?_
    show Ends p e below s T25 (mkF m 223 #[.val (.int p0), .val (.int p1), .val (.int p2), .val (.int p3), .val (.int p4), .val (.int p5), .val (.int c0), .val (.int c1), .val (.int d0), .val (.int d1), .val (.int md), .val (.ref ta), .val (.ref tb), .val (.int tx), .unset, .unset, .unset, .unset, .unset, .unset, .unset, .unset] [(.int (p3 ^^^ (-1 : Int32))), (.int (3 : Int32)), (.ref b22), (.ref b22)]) _ _ _
    obtain ⟨cl26, Ar26, q26, S26, M26, H26, G26⟩ := id V25
    have hin26 := inb_of (j := (3 : Int32)) S26 ⟨by decide, by decide⟩
    obtain ⟨T26, h26, X26, e26, W26, st26⟩ := stI X25 hx hZ e25 Ar26 (j := (3 : Int32)) hin26 (g := (mkF m 223 #[.val (.int p0), .val (.int p1), .val (.int p2), .val (.int p3), .val (.int p4), .val (.int p5), .val (.int c0), .val (.int c1), .val (.int d0), .val (.int d1), .val (.int md), .val (.ref ta), .val (.ref tb), .val (.int tx), .unset, .unset, .unset, .unset, .unset, .unset, .unset, .unset] [(.int (p3 ^^^ (-1 : Int32))), (.int (3 : Int32)), (.ref b22), (.ref b22)])) rfl rfl (hb hby at_223)
    refine Ends.go st26 ?_
    have V26 : Arv Z h26 b22 k22 .int (6 : Int32) [(.int p2), (.int p3), (.int (p2 ^^^ (-1 : Int32))), (.int (p3 ^^^ (-1 : Int32))), (.int (0 : Int32)), (.int (0 : Int32))] (.int (0 : Int32)) := Arv.set Ar26 q26 S26 M26 H26 G26 rfl W26 3 rfl (Nat.le_of_ble_eq_true rfl)
    have K26 := K25.wr W26 (Or.inr sz_b22)
    have O26 := O25.wr W26 g_b22
    have N26 := Fr.snoc X26 N25 g_b22
    show Ends p e below s T26 (mkF m 224 #[.val (.int p0), .val (.int p1), .val (.int p2), .val (.int p3), .val (.int p4), .val (.int p5), .val (.int c0), .val (.int c1), .val (.int d0), .val (.int d1), .val (.int md), .val (.ref ta), .val (.ref tb), .val (.int tx), .unset, .unset, .unset, .unset, .unset, .unset, .unset, .unset] [(.ref b22)]) _ _ _
    refine Ends.go (fun _ k => XS.dup X26.here hx rfl (hb hby at_224) rfl rfl k) ?_
    show Ends p e below s T26 (mkF m 225 #[.val (.int p0), .val (.int p1), .val (.int p2), .val (.int p3), .val (.int p4), .val (.int p5), .val (.int c0), .val (.int c1), .val (.int d0), .val (.int d1), .val (.int md), .val (.ref ta), .val (.ref tb), .val (.int tx), .unset, .unset, .unset, .unset, .unset, .unset, .unset, .unset] [(.ref b22), (.ref b22)]) _ _ _
    refine Ends.go (fun _ k => XS.iconst X26.here hx rfl (hb hby at_225) k) ?_
    show Ends p e below s T26 (mkF m 226 #[.val (.int p0), .val (.int p1), .val (.int p2), .val (.int p3), .val (.int p4), .val (.int p5), .val (.int c0), .val (.int c1), .val (.int d0), .val (.int d1), .val (.int md), .val (.ref ta), .val (.ref tb), .val (.int tx), .unset, .unset, .unset, .unset, .unset, .unset, .unset, .unset] [(.int (4 : Int32)), (.ref b22), (.ref b22)]) _ _ _
    refine Ends.go (fun _ k => XS.iloadN X26.here hx rfl (hb hby at_226) rfl k) ?_
    show Ends p e below s T26 (mkF m 227 #[.val (.int p0), .val (.int p1), .val (.int p2), .val (.int p3), .val (.int p4), .val (.int p5), .val (.int c0), .val (.int c1), .val (.int d0), .val (.int d1), .val (.int md), .val (.ref ta), .val (.ref tb), .val (.int tx), .unset, .unset, .unset, .unset, .unset, .unset, .unset, .unset] [(.int p2), (.int (4 : Int32)), (.ref b22), (.ref b22)]) _ _ _
    refine Ends.go (fun _ k => XS.iloadN X26.here hx rfl (hb hby at_227) rfl k) ?_
    show Ends p e below s T26 (mkF m 228 #[.val (.int p0), .val (.int p1), .val (.int p2), .val (.int p3), .val (.int p4), .val (.int p5), .val (.int c0), .val (.int c1), .val (.int d0), .val (.int d1), .val (.int md), .val (.ref ta), .val (.ref tb), .val (.int tx), .unset, .unset, .unset, .unset, .unset, .unset, .unset, .unset] [(.int p3), (.int p2), (.int (4 : Int32)), (.ref b22), (.ref b22)]) _ _ _
    refine Ends.go (fun _ k => XS.ixor X26.here hx rfl (hb hby at_228) rfl k) ?_
    show Ends p e below s T26 (mkF m 229 #[.val (.int p0), .val (.int p1), .val (.int p2), .val (.int p3), .val (.int p4), .val (.int p5), .val (.int c0), .val (.int c1), .val (.int d0), .val (.int d1), .val (.int md), .val (.ref ta), .val (.ref tb), .val (.int tx), .unset, .unset, .unset, .unset, .unset, .unset, .unset, .unset] [(.int (p2 ^^^ p3)), (.int (4 : Int32)), (.ref b22), (.ref b22)]) _ _ _
    obtain ⟨cl27, Ar27, q27, S27, M27, H27, G27⟩ := id V26
    have hin27 := inb_of (j := (4 : Int32)) S27 ⟨by decide, by decide⟩
    obtain ⟨T27, h27, X27, e27, W27, st27⟩ := stI X26 hx hZ e26 Ar27 (j := (4 : Int32)) hin27 (g := (mkF m 229 #[.val (.int p0), .val (.int p1), .val (.int p2), .val (.int p3), .val (.int p4), .val (.int p5), .val (.int c0), .val (.int c1), .val (.int d0), .val (.int d1), .val (.int md), .val (.ref ta), .val (.ref tb), .val (.int tx), .unset, .unset, .unset, .unset, .unset, .unset, .unset, .unset] [(.int (p2 ^^^ p3)), (.int (4 : Int32)), (.ref b22), (.ref b22)])) rfl rfl (hb hby at_229)
    refine Ends.go st27 ?_
    have V27 : Arv Z h27 b22 k22 .int (6 : Int32) [(.int p2), (.int p3), (.int (p2 ^^^ (-1 : Int32))), (.int (p3 ^^^ (-1 : Int32))), (.int (p2 ^^^ p3)), (.int (0 : Int32))] (.int (0 : Int32)) := Arv.set Ar27 q27 S27 M27 H27 G27 rfl W27 4 rfl (Nat.le_of_ble_eq_true rfl)
    have K27 := K26.wr W27 (Or.inr sz_b22)
    have O27 := O26.wr W27 g_b22
    have N27 := Fr.snoc X27 N26 g_b22
    show Ends p e below s T27 (mkF m 230 #[.val (.int p0), .val (.int p1), .val (.int p2), .val (.int p3), .val (.int p4), .val (.int p5), .val (.int c0), .val (.int c1), .val (.int d0), .val (.int d1), .val (.int md), .val (.ref ta), .val (.ref tb), .val (.int tx), .unset, .unset, .unset, .unset, .unset, .unset, .unset, .unset] [(.ref b22)]) _ _ _
    refine Ends.go (fun _ k => XS.dup X27.here hx rfl (hb hby at_230) rfl rfl k) ?_
    show Ends p e below s T27 (mkF m 231 #[.val (.int p0), .val (.int p1), .val (.int p2), .val (.int p3), .val (.int p4), .val (.int p5), .val (.int c0), .val (.int c1), .val (.int d0), .val (.int d1), .val (.int md), .val (.ref ta), .val (.ref tb), .val (.int tx), .unset, .unset, .unset, .unset, .unset, .unset, .unset, .unset] [(.ref b22), (.ref b22)]) _ _ _
    refine Ends.go (fun _ k => XS.iconst X27.here hx rfl (hb hby at_231) k) ?_
    show Ends p e below s T27 (mkF m 232 #[.val (.int p0), .val (.int p1), .val (.int p2), .val (.int p3), .val (.int p4), .val (.int p5), .val (.int c0), .val (.int c1), .val (.int d0), .val (.int d1), .val (.int md), .val (.ref ta), .val (.ref tb), .val (.int tx), .unset, .unset, .unset, .unset, .unset, .unset, .unset, .unset] [(.int (5 : Int32)), (.ref b22), (.ref b22)]) _ _ _
    refine Ends.go (fun _ k => XS.iloadN X27.here hx rfl (hb hby at_232) rfl k) ?_
    show Ends p e below s T27 (mkF m 233 #[.val (.int p0), .val (.int p1), .val (.int p2), .val (.int p3), .val (.int p4), .val (.int p5), .val (.int c0), .val (.int c1), .val (.int d0), .val (.int d1), .val (.int md), .val (.ref ta), .val (.ref tb), .val (.int tx), .unset, .unset, .unset, .unset, .unset, .unset, .unset, .unset] [(.int p2), (.int (5 : Int32)), (.ref b22), (.ref b22)]) _ _ _
    refine Ends.go (fun _ k => XS.iloadN X27.here hx rfl (hb hby at_233) rfl k) ?_
    show Ends p e below s T27 (mkF m 234 #[.val (.int p0), .val (.int p1), .val (.int p2), .val (.int p3), .val (.int p4), .val (.int p5), .val (.int c0), .val (.int c1), .val (.int d0), .val (.int d1), .val (.int md), .val (.ref ta), .val (.ref tb), .val (.int tx), .unset, .unset, .unset, .unset, .unset, .unset, .unset, .unset] [(.int p3), (.int p2), (.int (5 : Int32)), (.ref b22), (.ref b22)]) _ _ _
    refine Ends.go (fun _ k => XS.isub X27.here hx rfl (hb hby at_234) rfl k) ?_
    show Ends p e below s T27 (mkF m 235 #[.val (.int p0), .val (.int p1), .val (.int p2), .val (.int p3), .val (.int p4), .val (.int p5), .val (.int c0), .val (.int c1), .val (.int d0), .val (.int d1), .val (.int md), .val (.ref ta), .val (.ref tb), .val (.int tx), .unset, .unset, .unset, .unset, .unset, .unset, .unset, .unset] [(.int (p2 - p3)), (.int (5 : Int32)), (.ref b22), (.ref b22)]) _ _ _
    obtain ⟨cl28, Ar28, q28, S28, M28, H28, G28⟩ := id V27
    have hin28 := inb_of (j := (5 : Int32)) S28 ⟨by decide, by decide⟩
    obtain ⟨T28, h28, X28, e28, W28, st28⟩ := stI X27 hx hZ e27 Ar28 (j := (5 : Int32)) hin28 (g := (mkF m 235 #[.val (.int p0), .val (.int p1), .val (.int p2), .val (.int p3), .val (.int p4), .val (.int p5), .val (.int c0), .val (.int c1), .val (.int d0), .val (.int d1), .val (.int md), .val (.ref ta), .val (.ref tb), .val (.int tx), .unset, .unset, .unset, .unset, .unset, .unset, .unset, .unset] [(.int (p2 - p3)), (.int (5 : Int32)), (.ref b22), (.ref b22)])) rfl rfl (hb hby at_235)
    refine Ends.go st28 ?_
    have V28 : Arv Z h28 b22 k22 .int (6 : Int32) [(.int p2), (.int p3), (.int (p2 ^^^ (-1 : Int32))), (.int (p3 ^^^ (-1 : Int32))), (.int (p2 ^^^ p3)), (.int (p2 - p3))] (.int (0 : Int32)) := Arv.set Ar28 q28 S28 M28 H28 G28 rfl W28 5 rfl (Nat.le_of_ble_eq_true rfl)
    have K28 := K27.wr W28 (Or.inr sz_b22)
    have O28 := O27.wr W28 g_b22
    have N28 := Fr.snoc X28 N27 g_b22
    show Ends p e below s T28 (mkF m 236 #[.val (.int p0), .val (.int p1), .val (.int p2), .val (.int p3), .val (.int p4), .val (.int p5), .val (.int c0), .val (.int c1), .val (.int d0), .val (.int d1), .val (.int md), .val (.ref ta), .val (.ref tb), .val (.int tx), .unset, .unset, .unset, .unset, .unset, .unset, .unset, .unset] [(.ref b22)]) _ _ _
    refine Ends.go (fun _ k => XS.astore X28.here hx rfl (hb hby at_236) rfl rfl (l' := #[.val (.int p0), .val (.int p1), .val (.int p2), .val (.int p3), .val (.int p4), .val (.int p5), .val (.int c0), .val (.int c1), .val (.int d0), .val (.int d1), .val (.int md), .val (.ref ta), .val (.ref tb), .val (.int tx), .val (.ref b22), .unset, .unset, .unset, .unset, .unset, .unset, .unset]) rfl k) ?_
    show Ends p e below s T28 (mkF m 238 #[.val (.int p0), .val (.int p1), .val (.int p2), .val (.int p3), .val (.int p4), .val (.int p5), .val (.int c0), .val (.int c1), .val (.int d0), .val (.int d1), .val (.int md), .val (.ref ta), .val (.ref tb), .val (.int tx), .val (.ref b22), .unset, .unset, .unset, .unset, .unset, .unset, .unset] []) _ _ _
    refine Ends.go (fun _ k => XS.bipush X28.here hx rfl (hb hby at_238) k) ?_
    show Ends p e below s T28 (mkF m 240 #[.val (.int p0), .val (.int p1), .val (.int p2), .val (.int p3), .val (.int p4), .val (.int p5), .val (.int c0), .val (.int c1), .val (.int d0), .val (.int d1), .val (.int md), .val (.ref ta), .val (.ref tb), .val (.int tx), .val (.ref b22), .unset, .unset, .unset, .unset, .unset, .unset, .unset] [(.int (6 : Int32))]) _ _ _
    obtain ⟨T29, h29, k29, X29, e29, E29, A29, st29⟩ := newP X28 hx hZ (hw _ (List.mem_of_getElem? (i := 30) rfl)) e28 (g := (mkF m 240 #[.val (.int p0), .val (.int p1), .val (.int p2), .val (.int p3), .val (.int p4), .val (.int p5), .val (.int c0), .val (.int c1), .val (.int d0), .val (.int d1), .val (.int md), .val (.ref ta), .val (.ref tb), .val (.int tx), .val (.ref b22), .unset, .unset, .unset, .unset, .unset, .unset, .unset] [(.int (6 : Int32))])) rfl (hb hby at_240) rfl (by decide) (cap := 6) (by decide) (by decide) (by decide) (by decide)
    obtain ⟨b29, g29⟩ : ∃ z, z = h28.size := ⟨_, rfl⟩
    rw [← g29] at A29 st29
    refine Ends.go st29 ?_
    have ne_ta_b29 : ta ≠ b29 := Nat.ne_of_lt (Nat.lt_of_lt_of_le (((((((Ea.ext E22).wr W23).wr W24).wr W25).wr W26).wr W27).wr W28).lt (Nat.le_of_eq g29.symm))
    have ne_t1_b29 : t1 ≠ b29 := Nat.ne_of_lt (Nat.lt_of_lt_of_le (((((((Aa.ext E22).other W23 ne_t1_b22).other W24 ne_t1_b22).other W25 ne_t1_b22).other W26 ne_t1_b22).other W27 ne_t1_b22).other W28 ne_t1_b22).lt (Nat.le_of_eq g29.symm))
    have ne_tb_b29 : tb ≠ b29 := Nat.ne_of_lt (Nat.lt_of_lt_of_le (((((((Eb.ext E22).wr W23).wr W24).wr W25).wr W26).wr W27).wr W28).lt (Nat.le_of_eq g29.symm))
    have ne_t2_b29 : t2 ≠ b29 := Nat.ne_of_lt (Nat.lt_of_lt_of_le (((((((Ab.ext E22).other W23 ne_t2_b22).other W24 ne_t2_b22).other W25 ne_t2_b22).other W26 ne_t2_b22).other W27 ne_t2_b22).other W28 ne_t2_b22).lt (Nat.le_of_eq g29.symm))
    have ne_b22_b29 : b22 ≠ b29 := Nat.ne_of_lt (Nat.lt_of_lt_of_le V28.lt (Nat.le_of_eq g29.symm))
    have g_b29 : n0 ≤ b29 := Nat.le_trans (own_old_le O28) (Nat.le_of_eq g29.symm)
    have sz_b29 : h0.size ≤ b29 := Nat.le_trans K28.1 (Nat.le_of_eq g29.symm)
    have K29 := K28.ext E29
    have O29 := O28.ext E29
    have V_b29 : Arv Z h29 b29 k29 .int (6 : Int32) [(.int (0 : Int32)), (.int (0 : Int32)), (.int (0 : Int32)), (.int (0 : Int32)), (.int (0 : Int32)), (.int (0 : Int32))] (.int (0 : Int32)) := (Arv.new A29 (by decide)).pad (pad_rep [] (.int (0 : Int32)) 6)
    show Ends p e below s T29 (mkF m 242 #[.val (.int p0), .val (.int p1), .val (.int p2), .val (.int p3), .val (.int p4), .val (.int p5), .val (.int c0), .val (.int c1), .val (.int d0), .val (.int d1), .val (.int md), .val (.ref ta), .val (.ref tb), .val (.int tx), .val (.ref b22), .unset, .unset, .unset, .unset, .unset, .unset, .unset] [(.ref b29)]) _ _ _
    refine Ends.go (fun _ k => XS.dup X29.here hx rfl (hb hby at_242) rfl rfl k) ?_
    show Ends p e below s T29 (mkF m 243 #[.val (.int p0), .val (.int p1), .val (.int p2), .val (.int p3), .val (.int p4), .val (.int p5), .val (.int c0), .val (.int c1), .val (.int d0), .val (.int d1), .val (.int md), .val (.ref ta), .val (.ref tb), .val (.int tx), .val (.ref b22), .unset, .unset, .unset, .unset, .unset, .unset, .unset] [(.ref b29), (.ref b29)]) _ _ _
    refine Ends.go (fun _ k => XS.iconst X29.here hx rfl (hb hby at_243) k) ?_
    show Ends p e below s T29 (mkF m 244 #[.val (.int p0), .val (.int p1), .val (.int p2), .val (.int p3), .val (.int p4), .val (.int p5), .val (.int c0), .val (.int c1), .val (.int d0), .val (.int d1), .val (.int md), .val (.ref ta), .val (.ref tb), .val (.int tx), .val (.ref b22), .unset, .unset, .unset, .unset, .unset, .unset, .unset] [(.int (0 : Int32)), (.ref b29), (.ref b29)]) _ _ _
    refine Ends.go (fun _ k => XS.iloadN X29.here hx rfl (hb hby at_244) rfl k) ?_
    show Ends p e below s T29 (mkF m 245 #[.val (.int p0), .val (.int p1), .val (.int p2), .val (.int p3), .val (.int p4), .val (.int p5), .val (.int c0), .val (.int c1), .val (.int d0), .val (.int d1), .val (.int md), .val (.ref ta), .val (.ref tb), .val (.int tx), .val (.ref b22), .unset, .unset, .unset, .unset, .unset, .unset, .unset] [(.int p2), (.int (0 : Int32)), (.ref b29), (.ref b29)]) _ _ _
    obtain ⟨cl30, Ar30, q30, S30, M30, H30, G30⟩ := id V_b29
    have hin30 := inb_of (j := (0 : Int32)) S30 ⟨by decide, by decide⟩
    obtain ⟨T30, h30, X30, e30, W30, st30⟩ := stI X29 hx hZ e29 Ar30 (j := (0 : Int32)) hin30 (g := (mkF m 245 #[.val (.int p0), .val (.int p1), .val (.int p2), .val (.int p3), .val (.int p4), .val (.int p5), .val (.int c0), .val (.int c1), .val (.int d0), .val (.int d1), .val (.int md), .val (.ref ta), .val (.ref tb), .val (.int tx), .val (.ref b22), .unset, .unset, .unset, .unset, .unset, .unset, .unset] [(.int p2), (.int (0 : Int32)), (.ref b29), (.ref b29)])) rfl rfl (hb hby at_245)
    refine Ends.go st30 ?_
    have V30 : Arv Z h30 b29 k29 .int (6 : Int32) [(.int p2), (.int (0 : Int32)), (.int (0 : Int32)), (.int (0 : Int32)), (.int (0 : Int32)), (.int (0 : Int32))] (.int (0 : Int32)) := Arv.set Ar30 q30 S30 M30 H30 G30 rfl W30 0 rfl (Nat.le_of_ble_eq_true rfl)
    have K30 := K29.wr W30 (Or.inr sz_b29)
    have O30 := O29.wr W30 g_b29
    have N30 := Fr.snoc X30 N28 g_b29
    show Ends p e below s T30 (mkF m 246 #[.val (.int p0), .val (.int p1), .val (.int p2), .val (.int p3), .val (.int p4), .val (.int p5), .val (.int c0), .val (.int c1), .val (.int d0), .val (.int d1), .val (.int md), .val (.ref ta), .val (.ref tb), .val (.int tx), .val (.ref b22), .unset, .unset, .unset, .unset, .unset, .unset, .unset] [(.ref b29)]) _ _ _
    refine Ends.go (fun _ k => XS.dup X30.here hx rfl (hb hby at_246) rfl rfl k) ?_
    show Ends p e below s T30 (mkF m 247 #[.val (.int p0), .val (.int p1), .val (.int p2), .val (.int p3), .val (.int p4), .val (.int p5), .val (.int c0), .val (.int c1), .val (.int d0), .val (.int d1), .val (.int md), .val (.ref ta), .val (.ref tb), .val (.int tx), .val (.ref b22), .unset, .unset, .unset, .unset, .unset, .unset, .unset] [(.ref b29), (.ref b29)]) _ _ _
    refine Ends.go (fun _ k => XS.iconst X30.here hx rfl (hb hby at_247) k) ?_
    show Ends p e below s T30 (mkF m 248 #[.val (.int p0), .val (.int p1), .val (.int p2), .val (.int p3), .val (.int p4), .val (.int p5), .val (.int c0), .val (.int c1), .val (.int d0), .val (.int d1), .val (.int md), .val (.ref ta), .val (.ref tb), .val (.int tx), .val (.ref b22), .unset, .unset, .unset, .unset, .unset, .unset, .unset] [(.int (1 : Int32)), (.ref b29), (.ref b29)]) _ _ _
    refine Ends.go (fun _ k => XS.iloadN X30.here hx rfl (hb hby at_248) rfl k) ?_
    show Ends p e below s T30 (mkF m 249 #[.val (.int p0), .val (.int p1), .val (.int p2), .val (.int p3), .val (.int p4), .val (.int p5), .val (.int c0), .val (.int c1), .val (.int d0), .val (.int d1), .val (.int md), .val (.ref ta), .val (.ref tb), .val (.int tx), .val (.ref b22), .unset, .unset, .unset, .unset, .unset, .unset, .unset] [(.int p3), (.int (1 : Int32)), (.ref b29), (.ref b29)]) _ _ _
    obtain ⟨cl31, Ar31, q31, S31, M31, H31, G31⟩ := id V30
    have hin31 := inb_of (j := (1 : Int32)) S31 ⟨by decide, by decide⟩
    obtain ⟨T31, h31, X31, e31, W31, st31⟩ := stI X30 hx hZ e30 Ar31 (j := (1 : Int32)) hin31 (g := (mkF m 249 #[.val (.int p0), .val (.int p1), .val (.int p2), .val (.int p3), .val (.int p4), .val (.int p5), .val (.int c0), .val (.int c1), .val (.int d0), .val (.int d1), .val (.int md), .val (.ref ta), .val (.ref tb), .val (.int tx), .val (.ref b22), .unset, .unset, .unset, .unset, .unset, .unset, .unset] [(.int p3), (.int (1 : Int32)), (.ref b29), (.ref b29)])) rfl rfl (hb hby at_249)
    refine Ends.go st31 ?_
    have V31 : Arv Z h31 b29 k29 .int (6 : Int32) [(.int p2), (.int p3), (.int (0 : Int32)), (.int (0 : Int32)), (.int (0 : Int32)), (.int (0 : Int32))] (.int (0 : Int32)) := Arv.set Ar31 q31 S31 M31 H31 G31 rfl W31 1 rfl (Nat.le_of_ble_eq_true rfl)
    have K31 := K30.wr W31 (Or.inr sz_b29)
    have O31 := O30.wr W31 g_b29
    have N31 := Fr.snoc X31 N30 g_b29
    show Ends p e below s T31 (mkF m 250 #[.val (.int p0), .val (.int p1), .val (.int p2), .val (.int p3), .val (.int p4), .val (.int p5), .val (.int c0), .val (.int c1), .val (.int d0), .val (.int d1), .val (.int md), .val (.ref ta), .val (.ref tb), .val (.int tx), .val (.ref b22), .unset, .unset, .unset, .unset, .unset, .unset, .unset] [(.ref b29)]) _ _ _
    refine Ends.go (fun _ k => XS.dup X31.here hx rfl (hb hby at_250) rfl rfl k) ?_
    show Ends p e below s T31 (mkF m 251 #[.val (.int p0), .val (.int p1), .val (.int p2), .val (.int p3), .val (.int p4), .val (.int p5), .val (.int c0), .val (.int c1), .val (.int d0), .val (.int d1), .val (.int md), .val (.ref ta), .val (.ref tb), .val (.int tx), .val (.ref b22), .unset, .unset, .unset, .unset, .unset, .unset, .unset] [(.ref b29), (.ref b29)]) _ _ _
    refine Ends.go (fun _ k => XS.iconst X31.here hx rfl (hb hby at_251) k) ?_
    show Ends p e below s T31 (mkF m 252 #[.val (.int p0), .val (.int p1), .val (.int p2), .val (.int p3), .val (.int p4), .val (.int p5), .val (.int c0), .val (.int c1), .val (.int d0), .val (.int d1), .val (.int md), .val (.ref ta), .val (.ref tb), .val (.int tx), .val (.ref b22), .unset, .unset, .unset, .unset, .unset, .unset, .unset] [(.int (2 : Int32)), (.ref b29), (.ref b29)]) _ _ _
    refine Ends.go (fun _ k => XS.iloadN X31.here hx rfl (hb hby at_252) rfl k) ?_
    show Ends p e below s T31 (mkF m 253 #[.val (.int p0), .val (.int p1), .val (.int p2), .val (.int p3), .val (.int p4), .val (.int p5), .val (.int c0), .val (.int c1), .val (.int d0), .val (.int d1), .val (.int md), .val (.ref ta), .val (.ref tb), .val (.int tx), .val (.ref b22), .unset, .unset, .unset, .unset, .unset, .unset, .unset] [(.int p2), (.int (2 : Int32)), (.ref b29), (.ref b29)]) _ _ _
    refine Ends.go (fun _ k => XS.iconst X31.here hx rfl (hb hby at_253) k) ?_
    show Ends p e below s T31 (mkF m 254 #[.val (.int p0), .val (.int p1), .val (.int p2), .val (.int p3), .val (.int p4), .val (.int p5), .val (.int c0), .val (.int c1), .val (.int d0), .val (.int d1), .val (.int md), .val (.ref ta), .val (.ref tb), .val (.int tx), .val (.ref b22), .unset, .unset, .unset, .unset, .unset, .unset, .unset] [(.int (-1 : Int32)), (.int p2), (.int (2 : Int32)), (.ref b29), (.ref b29)]) _ _ _
    refine Ends.go (fun _ k => XS.ixor X31.here hx rfl (hb hby at_254) rfl k) ?_
    show Ends p e below s T31 (mkF m 255 #[.val (.int p0), .val (.int p1), .val (.int p2), .val (.int p3), .val (.int p4), .val (.int p5), .val (.int c0), .val (.int c1), .val (.int d0), .val (.int d1), .val (.int md), .val (.ref ta), .val (.ref tb), .val (.int tx), .val (.ref b22), .unset, .unset, .unset, .unset, .unset, .unset, .unset] [(.int (p2 ^^^ (-1 : Int32))), (.int (2 : Int32)), (.ref b29), (.ref b29)]) _ _ _
    obtain ⟨cl32, Ar32, q32, S32, M32, H32, G32⟩ := id V31
    have hin32 := inb_of (j := (2 : Int32)) S32 ⟨by decide, by decide⟩
    obtain ⟨T32, h32, X32, e32, W32, st32⟩ := stI X31 hx hZ e31 Ar32 (j := (2 : Int32)) hin32 (g := (mkF m 255 #[.val (.int p0), .val (.int p1), .val (.int p2), .val (.int p3), .val (.int p4), .val (.int p5), .val (.int c0), .val (.int c1), .val (.int d0), .val (.int d1), .val (.int md), .val (.ref ta), .val (.ref tb), .val (.int tx), .val (.ref b22), .unset, .unset, .unset, .unset, .unset, .unset, .unset] [(.int (p2 ^^^ (-1 : Int32))), (.int (2 : Int32)), (.ref b29), (.ref b29)])) rfl rfl (hb hby at_255)
    refine Ends.go st32 ?_
    have V32 : Arv Z h32 b29 k29 .int (6 : Int32) [(.int p2), (.int p3), (.int (p2 ^^^ (-1 : Int32))), (.int (0 : Int32)), (.int (0 : Int32)), (.int (0 : Int32))] (.int (0 : Int32)) := Arv.set Ar32 q32 S32 M32 H32 G32 rfl W32 2 rfl (Nat.le_of_ble_eq_true rfl)
    have K32 := K31.wr W32 (Or.inr sz_b29)
    have O32 := O31.wr W32 g_b29
    have N32 := Fr.snoc X32 N31 g_b29
    show Ends p e below s T32 (mkF m 256 #[.val (.int p0), .val (.int p1), .val (.int p2), .val (.int p3), .val (.int p4), .val (.int p5), .val (.int c0), .val (.int c1), .val (.int d0), .val (.int d1), .val (.int md), .val (.ref ta), .val (.ref tb), .val (.int tx), .val (.ref b22), .unset, .unset, .unset, .unset, .unset, .unset, .unset] [(.ref b29)]) _ _ _
    refine Ends.go (fun _ k => XS.dup X32.here hx rfl (hb hby at_256) rfl rfl k) ?_
    show Ends p e below s T32 (mkF m 257 #[.val (.int p0), .val (.int p1), .val (.int p2), .val (.int p3), .val (.int p4), .val (.int p5), .val (.int c0), .val (.int c1), .val (.int d0), .val (.int d1), .val (.int md), .val (.ref ta), .val (.ref tb), .val (.int tx), .val (.ref b22), .unset, .unset, .unset, .unset, .unset, .unset, .unset] [(.ref b29), (.ref b29)]) _ _ _
    refine Ends.go (fun _ k => XS.iconst X32.here hx rfl (hb hby at_257) k) ?_
    show Ends p e below s T32 (mkF m 258 #[.val (.int p0), .val (.int p1), .val (.int p2), .val (.int p3), .val (.int p4), .val (.int p5), .val (.int c0), .val (.int c1), .val (.int d0), .val (.int d1), .val (.int md), .val (.ref ta), .val (.ref tb), .val (.int tx), .val (.ref b22), .unset, .unset, .unset, .unset, .unset, .unset, .unset] [(.int (3 : Int32)), (.ref b29), (.ref b29)]) _ _ _
    refine Ends.go (fun _ k => XS.iloadN X32.here hx rfl (hb hby at_258) rfl k) ?_
    show Ends p e below s T32 (mkF m 259 #[.val (.int p0), .val (.int p1), .val (.int p2), .val (.int p3), .val (.int p4), .val (.int p5), .val (.int c0), .val (.int c1), .val (.int d0), .val (.int d1), .val (.int md), .val (.ref ta), .val (.ref tb), .val (.int tx), .val (.ref b22), .unset, .unset, .unset, .unset, .unset, .unset, .unset] [(.int p3), (.int (3 : Int32)), (.ref b29), (.ref b29)]) _ _ _
    refine Ends.go (fun _ k => XS.iconst X32.here hx rfl (hb hby at_259) k) ?_
    show Ends p e below s T32 (mkF m 260 #[.val (.int p0), .val (.int p1), .val (.int p2), .val (.int p3), .val (.int p4), .val (.int p5), .val (.int c0), .val (.int c1), .val (.int d0), .val (.int d1), .val (.int md), .val (.ref ta), .val (.ref tb), .val (.int tx), .val (.ref b22), .unset, .unset, .unset, .unset, .unset, .unset, .unset] [(.int (-1 : Int32)), (.int p3), (.int (3 : Int32)), (.ref b29), (.ref b29)]) _ _ _
    refine Ends.go (fun _ k => XS.ixor X32.here hx rfl (hb hby at_260) rfl k) ?_
    show Ends p e below s T32 (mkF m 261 #[.val (.int p0), .val (.int p1), .val (.int p2), .val (.int p3), .val (.int p4), .val (.int p5), .val (.int c0), .val (.int c1), .val (.int d0), .val (.int d1), .val (.int md), .val (.ref ta), .val (.ref tb), .val (.int tx), .val (.ref b22), .unset, .unset, .unset, .unset, .unset, .unset, .unset] [(.int (p3 ^^^ (-1 : Int32))), (.int (3 : Int32)), (.ref b29), (.ref b29)]) _ _ _
    obtain ⟨cl33, Ar33, q33, S33, M33, H33, G33⟩ := id V32
    have hin33 := inb_of (j := (3 : Int32)) S33 ⟨by decide, by decide⟩
    obtain ⟨T33, h33, X33, e33, W33, st33⟩ := stI X32 hx hZ e32 Ar33 (j := (3 : Int32)) hin33 (g := (mkF m 261 #[.val (.int p0), .val (.int p1), .val (.int p2), .val (.int p3), .val (.int p4), .val (.int p5), .val (.int c0), .val (.int c1), .val (.int d0), .val (.int d1), .val (.int md), .val (.ref ta), .val (.ref tb), .val (.int tx), .val (.ref b22), .unset, .unset, .unset, .unset, .unset, .unset, .unset] [(.int (p3 ^^^ (-1 : Int32))), (.int (3 : Int32)), (.ref b29), (.ref b29)])) rfl rfl (hb hby at_261)
    refine Ends.go st33 ?_
    have V33 : Arv Z h33 b29 k29 .int (6 : Int32) [(.int p2), (.int p3), (.int (p2 ^^^ (-1 : Int32))), (.int (p3 ^^^ (-1 : Int32))), (.int (0 : Int32)), (.int (0 : Int32))] (.int (0 : Int32)) := Arv.set Ar33 q33 S33 M33 H33 G33 rfl W33 3 rfl (Nat.le_of_ble_eq_true rfl)
    have K33 := K32.wr W33 (Or.inr sz_b29)
    have O33 := O32.wr W33 g_b29
    have N33 := Fr.snoc X33 N32 g_b29
    show Ends p e below s T33 (mkF m 262 #[.val (.int p0), .val (.int p1), .val (.int p2), .val (.int p3), .val (.int p4), .val (.int p5), .val (.int c0), .val (.int c1), .val (.int d0), .val (.int d1), .val (.int md), .val (.ref ta), .val (.ref tb), .val (.int tx), .val (.ref b22), .unset, .unset, .unset, .unset, .unset, .unset, .unset] [(.ref b29)]) _ _ _
    refine Ends.go (fun _ k => XS.dup X33.here hx rfl (hb hby at_262) rfl rfl k) ?_
    show Ends p e below s T33 (mkF m 263 #[.val (.int p0), .val (.int p1), .val (.int p2), .val (.int p3), .val (.int p4), .val (.int p5), .val (.int c0), .val (.int c1), .val (.int d0), .val (.int d1), .val (.int md), .val (.ref ta), .val (.ref tb), .val (.int tx), .val (.ref b22), .unset, .unset, .unset, .unset, .unset, .unset, .unset] [(.ref b29), (.ref b29)]) _ _ _
    refine Ends.go (fun _ k => XS.iconst X33.here hx rfl (hb hby at_263) k) ?_
    show Ends p e below s T33 (mkF m 264 #[.val (.int p0), .val (.int p1), .val (.int p2), .val (.int p3), .val (.int p4), .val (.int p5), .val (.int c0), .val (.int c1), .val (.int d0), .val (.int d1), .val (.int md), .val (.ref ta), .val (.ref tb), .val (.int tx), .val (.ref b22), .unset, .unset, .unset, .unset, .unset, .unset, .unset] [(.int (4 : Int32)), (.ref b29), (.ref b29)]) _ _ _
    refine Ends.go (fun _ k => XS.iloadN X33.here hx rfl (hb hby at_264) rfl k) ?_
    show Ends p e below s T33 (mkF m 265 #[.val (.int p0), .val (.int p1), .val (.int p2), .val (.int p3), .val (.int p4), .val (.int p5), .val (.int c0), .val (.int c1), .val (.int d0), .val (.int d1), .val (.int md), .val (.ref ta), .val (.ref tb), .val (.int tx), .val (.ref b22), .unset, .unset, .unset, .unset, .unset, .unset, .unset] [(.int p2), (.int (4 : Int32)), (.ref b29), (.ref b29)]) _ _ _
    refine Ends.go (fun _ k => XS.iloadN X33.here hx rfl (hb hby at_265) rfl k) ?_
    show Ends p e below s T33 (mkF m 266 #[.val (.int p0), .val (.int p1), .val (.int p2), .val (.int p3), .val (.int p4), .val (.int p5), .val (.int c0), .val (.int c1), .val (.int d0), .val (.int d1), .val (.int md), .val (.ref ta), .val (.ref tb), .val (.int tx), .val (.ref b22), .unset, .unset, .unset, .unset, .unset, .unset, .unset] [(.int p3), (.int p2), (.int (4 : Int32)), (.ref b29), (.ref b29)]) _ _ _
    refine Ends.go (fun _ k => XS.ixor X33.here hx rfl (hb hby at_266) rfl k) ?_
    show Ends p e below s T33 (mkF m 267 #[.val (.int p0), .val (.int p1), .val (.int p2), .val (.int p3), .val (.int p4), .val (.int p5), .val (.int c0), .val (.int c1), .val (.int d0), .val (.int d1), .val (.int md), .val (.ref ta), .val (.ref tb), .val (.int tx), .val (.ref b22), .unset, .unset, .unset, .unset, .unset, .unset, .unset] [(.int (p2 ^^^ p3)), (.int (4 : Int32)), (.ref b29), (.ref b29)]) _ _ _
    obtain ⟨cl34, Ar34, q34, S34, M34, H34, G34⟩ := id V33
    have hin34 := inb_of (j := (4 : Int32)) S34 ⟨by decide, by decide⟩
    obtain ⟨T34, h34, X34, e34, W34, st34⟩ := stI X33 hx hZ e33 Ar34 (j := (4 : Int32)) hin34 (g := (mkF m 267 #[.val (.int p0), .val (.int p1), .val (.int p2), .val (.int p3), .val (.int p4), .val (.int p5), .val (.int c0), .val (.int c1), .val (.int d0), .val (.int d1), .val (.int md), .val (.ref ta), .val (.ref tb), .val (.int tx), .val (.ref b22), .unset, .unset, .unset, .unset, .unset, .unset, .unset] [(.int (p2 ^^^ p3)), (.int (4 : Int32)), (.ref b29), (.ref b29)])) rfl rfl (hb hby at_267)
    refine Ends.go st34 ?_
    have V34 : Arv Z h34 b29 k29 .int (6 : Int32) [(.int p2), (.int p3), (.int (p2 ^^^ (-1 : Int32))), (.int (p3 ^^^ (-1 : Int32))), (.int (p2 ^^^ p3)), (.int (0 : Int32))] (.int (0 : Int32)) := Arv.set Ar34 q34 S34 M34 H34 G34 rfl W34 4 rfl (Nat.le_of_ble_eq_true rfl)
    have K34 := K33.wr W34 (Or.inr sz_b29)
    have O34 := O33.wr W34 g_b29
    have N34 := Fr.snoc X34 N33 g_b29
    show Ends p e below s T34 (mkF m 268 #[.val (.int p0), .val (.int p1), .val (.int p2), .val (.int p3), .val (.int p4), .val (.int p5), .val (.int c0), .val (.int c1), .val (.int d0), .val (.int d1), .val (.int md), .val (.ref ta), .val (.ref tb), .val (.int tx), .val (.ref b22), .unset, .unset, .unset, .unset, .unset, .unset, .unset] [(.ref b29)]) _ _ _
    refine Ends.go (fun _ k => XS.dup X34.here hx rfl (hb hby at_268) rfl rfl k) ?_
    show Ends p e below s T34 (mkF m 269 #[.val (.int p0), .val (.int p1), .val (.int p2), .val (.int p3), .val (.int p4), .val (.int p5), .val (.int c0), .val (.int c1), .val (.int d0), .val (.int d1), .val (.int md), .val (.ref ta), .val (.ref tb), .val (.int tx), .val (.ref b22), .unset, .unset, .unset, .unset, .unset, .unset, .unset] [(.ref b29), (.ref b29)]) _ _ _
    refine Ends.go (fun _ k => XS.iconst X34.here hx rfl (hb hby at_269) k) ?_
    show Ends p e below s T34 (mkF m 270 #[.val (.int p0), .val (.int p1), .val (.int p2), .val (.int p3), .val (.int p4), .val (.int p5), .val (.int c0), .val (.int c1), .val (.int d0), .val (.int d1), .val (.int md), .val (.ref ta), .val (.ref tb), .val (.int tx), .val (.ref b22), .unset, .unset, .unset, .unset, .unset, .unset, .unset] [(.int (5 : Int32)), (.ref b29), (.ref b29)]) _ _ _
    refine Ends.go (fun _ k => XS.iloadN X34.here hx rfl (hb hby at_270) rfl k) ?_
    show Ends p e below s T34 (mkF m 271 #[.val (.int p0), .val (.int p1), .val (.int p2), .val (.int p3), .val (.int p4), .val (.int p5), .val (.int c0), .val (.int c1), .val (.int d0), .val (.int d1), .val (.int md), .val (.ref ta), .val (.ref tb), .val (.int tx), .val (.ref b22), .unset, .unset, .unset, .unset, .unset, .unset, .unset] [(.int p2), (.int (5 : Int32)), (.ref b29), (.ref b29)]) _ _ _
    refine Ends.go (fun _ k => XS.iloadN X34.here hx rfl (hb hby at_271) rfl k) ?_
    show Ends p e below s T34 (mkF m 272 #[.val (.int p0), .val (.int p1), .val (.int p2), .val (.int p3), .val (.int p4), .val (.int p5), .val (.int c0), .val (.int c1), .val (.int d0), .val (.int d1), .val (.int md), .val (.ref ta), .val (.ref tb), .val (.int tx), .val (.ref b22), .unset, .unset, .unset, .unset, .unset, .unset, .unset] [(.int p3), (.int p2), (.int (5 : Int32)), (.ref b29), (.ref b29)]) _ _ _
    refine Ends.go (fun _ k => XS.isub X34.here hx rfl (hb hby at_272) rfl k) ?_
    show Ends p e below s T34 (mkF m 273 #[.val (.int p0), .val (.int p1), .val (.int p2), .val (.int p3), .val (.int p4), .val (.int p5), .val (.int c0), .val (.int c1), .val (.int d0), .val (.int d1), .val (.int md), .val (.ref ta), .val (.ref tb), .val (.int tx), .val (.ref b22), .unset, .unset, .unset, .unset, .unset, .unset, .unset] [(.int (p2 - p3)), (.int (5 : Int32)), (.ref b29), (.ref b29)]) _ _ _
    obtain ⟨cl35, Ar35, q35, S35, M35, H35, G35⟩ := id V34
    have hin35 := inb_of (j := (5 : Int32)) S35 ⟨by decide, by decide⟩
    obtain ⟨T35, h35, X35, e35, W35, st35⟩ := stI X34 hx hZ e34 Ar35 (j := (5 : Int32)) hin35 (g := (mkF m 273 #[.val (.int p0), .val (.int p1), .val (.int p2), .val (.int p3), .val (.int p4), .val (.int p5), .val (.int c0), .val (.int c1), .val (.int d0), .val (.int d1), .val (.int md), .val (.ref ta), .val (.ref tb), .val (.int tx), .val (.ref b22), .unset, .unset, .unset, .unset, .unset, .unset, .unset] [(.int (p2 - p3)), (.int (5 : Int32)), (.ref b29), (.ref b29)])) rfl rfl (hb hby at_273)
    refine Ends.go st35 ?_
    have V35 : Arv Z h35 b29 k29 .int (6 : Int32) [(.int p2), (.int p3), (.int (p2 ^^^ (-1 : Int32))), (.int (p3 ^^^ (-1 : Int32))), (.int (p2 ^^^ p3)), (.int (p2 - p3))] (.int (0 : Int32)) := Arv.set Ar35 q35 S35 M35 H35 G35 rfl W35 5 rfl (Nat.le_of_ble_eq_true rfl)
    have K35 := K34.wr W35 (Or.inr sz_b29)
    have O35 := O34.wr W35 g_b29
    have N35 := Fr.snoc X35 N34 g_b29
    show Ends p e below s T35 (mkF m 274 #[.val (.int p0), .val (.int p1), .val (.int p2), .val (.int p3), .val (.int p4), .val (.int p5), .val (.int c0), .val (.int c1), .val (.int d0), .val (.int d1), .val (.int md), .val (.ref ta), .val (.ref tb), .val (.int tx), .val (.ref b22), .unset, .unset, .unset, .unset, .unset, .unset, .unset] [(.ref b29)]) _ _ _
    refine Ends.go (fun _ k => XS.astore X35.here hx rfl (hb hby at_274) rfl rfl (l' := #[.val (.int p0), .val (.int p1), .val (.int p2), .val (.int p3), .val (.int p4), .val (.int p5), .val (.int c0), .val (.int c1), .val (.int d0), .val (.int d1), .val (.int md), .val (.ref ta), .val (.ref tb), .val (.int tx), .val (.ref b22), .val (.ref b29), .unset, .unset, .unset, .unset, .unset, .unset]) rfl k) ?_
    show Ends p e below s T35 (mkF m 276 #[.val (.int p0), .val (.int p1), .val (.int p2), .val (.int p3), .val (.int p4), .val (.int p5), .val (.int c0), .val (.int c1), .val (.int d0), .val (.int d1), .val (.int md), .val (.ref ta), .val (.ref tb), .val (.int tx), .val (.ref b22), .val (.ref b29), .unset, .unset, .unset, .unset, .unset, .unset] []) _ _ _
    refine Ends.go (fun _ k => XS.iload X35.here hx rfl (hb hby at_276) rfl k) ?_
    show Ends p e below s T35 (mkF m 278 #[.val (.int p0), .val (.int p1), .val (.int p2), .val (.int p3), .val (.int p4), .val (.int p5), .val (.int c0), .val (.int c1), .val (.int d0), .val (.int d1), .val (.int md), .val (.ref ta), .val (.ref tb), .val (.int tx), .val (.ref b22), .val (.ref b29), .unset, .unset, .unset, .unset, .unset, .unset] [(.int p4)]) _ _ _
    refine Ends.go (fun _ k => XS.iconst X35.here hx rfl (hb hby at_278) k) ?_
    show Ends p e below s T35 (mkF m 279 #[.val (.int p0), .val (.int p1), .val (.int p2), .val (.int p3), .val (.int p4), .val (.int p5), .val (.int c0), .val (.int c1), .val (.int d0), .val (.int d1), .val (.int md), .val (.ref ta), .val (.ref tb), .val (.int tx), .val (.ref b22), .val (.ref b29), .unset, .unset, .unset, .unset, .unset, .unset] [(.int (2 : Int32)), (.int p4)]) _ _ _
    refine Ends.go (fun _ k => XS.iushr X35.here hx rfl (hb hby at_279) rfl k) ?_
    show Ends p e below s T35 (mkF m 280 #[.val (.int p0), .val (.int p1), .val (.int p2), .val (.int p3), .val (.int p4), .val (.int p5), .val (.int c0), .val (.int c1), .val (.int d0), .val (.int d1), .val (.int md), .val (.ref ta), .val (.ref tb), .val (.int tx), .val (.ref b22), .val (.ref b29), .unset, .unset, .unset, .unset, .unset, .unset] [(.int ((p4.toUInt32 >>> ((2 : Int32) &&& 31).toUInt32).toInt32))]) _ _ _
    refine Ends.go (fun _ k => XS.bipush X35.here hx rfl (hb hby at_280) k) ?_
    show Ends p e below s T35 (mkF m 282 #[.val (.int p0), .val (.int p1), .val (.int p2), .val (.int p3), .val (.int p4), .val (.int p5), .val (.int c0), .val (.int c1), .val (.int d0), .val (.int d1), .val (.int md), .val (.ref ta), .val (.ref tb), .val (.int tx), .val (.ref b22), .val (.ref b29), .unset, .unset, .unset, .unset, .unset, .unset] [(.int (7 : Int32)), (.int ((p4.toUInt32 >>> ((2 : Int32) &&& 31).toUInt32).toInt32))]) _ _ _
    refine Ends.go (fun _ k => XS.iand X35.here hx rfl (hb hby at_282) rfl k) ?_
    show Ends p e below s T35 (mkF m 283 #[.val (.int p0), .val (.int p1), .val (.int p2), .val (.int p3), .val (.int p4), .val (.int p5), .val (.int c0), .val (.int c1), .val (.int d0), .val (.int d1), .val (.int md), .val (.ref ta), .val (.ref tb), .val (.int tx), .val (.ref b22), .val (.ref b29), .unset, .unset, .unset, .unset, .unset, .unset] [(.int (((p4.toUInt32 >>> ((2 : Int32) &&& 31).toUInt32).toInt32) &&& (7 : Int32)))]) _ _ _
    generalize hi36 : (((p4.toUInt32 >>> ((2 : Int32) &&& 31).toUInt32).toInt32) &&& (7 : Int32)) = i36
    rcases own_k p4 i36 hi36 with rfl | rfl | rfl | rfl | rfl | rfl | rfl | rfl
    · show Ends p e below s T35 (mkF m 283 #[.val (.int p0), .val (.int p1), .val (.int p2), .val (.int p3), .val (.int p4), .val (.int p5), .val (.int c0), .val (.int c1), .val (.int d0), .val (.int d1), .val (.int md), .val (.ref ta), .val (.ref tb), .val (.int tx), .val (.ref b22), .val (.ref b29), .unset, .unset, .unset, .unset, .unset, .unset] [(.int (0 : Int32))]) _ _ _
      refine Ends.go (fun _ k => XS.istore X35.here hx rfl (hb hby at_283) rfl (l' := #[.val (.int p0), .val (.int p1), .val (.int p2), .val (.int p3), .val (.int p4), .val (.int p5), .val (.int c0), .val (.int c1), .val (.int d0), .val (.int d1), .val (.int md), .val (.ref ta), .val (.ref tb), .val (.int tx), .val (.ref b22), .val (.ref b29), .val (.int (0 : Int32)), .unset, .unset, .unset, .unset, .unset]) rfl k) ?_
      show Ends p e below s T35 (mkF m 285 #[.val (.int p0), .val (.int p1), .val (.int p2), .val (.int p3), .val (.int p4), .val (.int p5), .val (.int c0), .val (.int c1), .val (.int d0), .val (.int d1), .val (.int md), .val (.ref ta), .val (.ref tb), .val (.int tx), .val (.ref b22), .val (.ref b29), .val (.int (0 : Int32)), .unset, .unset, .unset, .unset, .unset] []) _ _ _
      refine Ends.go (fun _ k => XS.iload X35.here hx rfl (hb hby at_285) rfl k) ?_
      show Ends p e below s T35 (mkF m 287 #[.val (.int p0), .val (.int p1), .val (.int p2), .val (.int p3), .val (.int p4), .val (.int p5), .val (.int c0), .val (.int c1), .val (.int d0), .val (.int d1), .val (.int md), .val (.ref ta), .val (.ref tb), .val (.int tx), .val (.ref b22), .val (.ref b29), .val (.int (0 : Int32)), .unset, .unset, .unset, .unset, .unset] [(.int (0 : Int32))]) _ _ _
      refine Ends.go (fun _ k => XS.bipush X35.here hx rfl (hb hby at_287) k) ?_
      show Ends p e below s T35 (mkF m 289 #[.val (.int p0), .val (.int p1), .val (.int p2), .val (.int p3), .val (.int p4), .val (.int p5), .val (.int c0), .val (.int c1), .val (.int d0), .val (.int d1), .val (.int md), .val (.ref ta), .val (.ref tb), .val (.int tx), .val (.ref b22), .val (.ref b29), .val (.int (0 : Int32)), .unset, .unset, .unset, .unset, .unset] [(.int (6 : Int32)), (.int (0 : Int32))]) _ _ _
      refine Ends.go (fun _ k => XS.icmpNo X35.here hx rfl (hb hby at_289) rfl (tlt (by decide : (0 : Int32) < (6 : Int32))).2.1 k) ?_
      show Ends p e below s T35 (mkF m 292 #[.val (.int p0), .val (.int p1), .val (.int p2), .val (.int p3), .val (.int p4), .val (.int p5), .val (.int c0), .val (.int c1), .val (.int d0), .val (.int d1), .val (.int md), .val (.ref ta), .val (.ref tb), .val (.int tx), .val (.ref b22), .val (.ref b29), .val (.int (0 : Int32)), .unset, .unset, .unset, .unset, .unset] []) _ _ _
      refine Ends.go (fun _ k => XS.aload X35.here hx rfl (hb hby at_292) rfl rfl k) ?_
      show Ends p e below s T35 (mkF m 294 #[.val (.int p0), .val (.int p1), .val (.int p2), .val (.int p3), .val (.int p4), .val (.int p5), .val (.int c0), .val (.int c1), .val (.int d0), .val (.int d1), .val (.int md), .val (.ref ta), .val (.ref tb), .val (.int tx), .val (.ref b22), .val (.ref b29), .val (.int (0 : Int32)), .unset, .unset, .unset, .unset, .unset] [(.ref b29)]) _ _ _
      refine Ends.go (fun _ k => XS.iload X35.here hx rfl (hb hby at_294) rfl k) ?_
      show Ends p e below s T35 (mkF m 296 #[.val (.int p0), .val (.int p1), .val (.int p2), .val (.int p3), .val (.int p4), .val (.int p5), .val (.int c0), .val (.int c1), .val (.int d0), .val (.int d1), .val (.int md), .val (.ref ta), .val (.ref tb), .val (.int tx), .val (.ref b22), .val (.ref b29), .val (.int (0 : Int32)), .unset, .unset, .unset, .unset, .unset] [(.int (0 : Int32)), (.ref b29)]) _ _ _
      refine Ends.go (fun _ k => XS.aload X35.here hx rfl (hb hby at_296) rfl rfl k) ?_
      show Ends p e below s T35 (mkF m 298 #[.val (.int p0), .val (.int p1), .val (.int p2), .val (.int p3), .val (.int p4), .val (.int p5), .val (.int c0), .val (.int c1), .val (.int d0), .val (.int d1), .val (.int md), .val (.ref ta), .val (.ref tb), .val (.int tx), .val (.ref b22), .val (.ref b29), .val (.int (0 : Int32)), .unset, .unset, .unset, .unset, .unset] [(.ref b29), (.int (0 : Int32)), (.ref b29)]) _ _ _
      refine Ends.go (fun _ k => XS.iload X35.here hx rfl (hb hby at_298) rfl k) ?_
      show Ends p e below s T35 (mkF m 300 #[.val (.int p0), .val (.int p1), .val (.int p2), .val (.int p3), .val (.int p4), .val (.int p5), .val (.int c0), .val (.int c1), .val (.int d0), .val (.int d1), .val (.int md), .val (.ref ta), .val (.ref tb), .val (.int tx), .val (.ref b22), .val (.ref b29), .val (.int (0 : Int32)), .unset, .unset, .unset, .unset, .unset] [(.int (0 : Int32)), (.ref b29), (.int (0 : Int32)), (.ref b29)]) _ _ _
      obtain ⟨cl37, Ar37, q37, S37, M37, H37, G37⟩ := id V35
      have hin37 := inb_of (j := (0 : Int32)) S37 ⟨by decide, by decide⟩
      refine Ends.go (X35.iaload hx (j := (0 : Int32)) (v := (.int p2)) (by rw [e35]; exact Ar37.1) (State.isArrayOf_alike hZ.alike Ar37.2.1) Ar37.2.2 hin37 (H37.at hin37 rfl) (g := (mkF m 300 #[.val (.int p0), .val (.int p1), .val (.int p2), .val (.int p3), .val (.int p4), .val (.int p5), .val (.int c0), .val (.int c1), .val (.int d0), .val (.int d1), .val (.int md), .val (.ref ta), .val (.ref tb), .val (.int tx), .val (.ref b22), .val (.ref b29), .val (.int (0 : Int32)), .unset, .unset, .unset, .unset, .unset] [(.int (0 : Int32)), (.ref b29), (.int (0 : Int32)), (.ref b29)])) rfl rfl (hb hby at_300)) ?_
      show Ends p e below s T35 (mkF m 301 #[.val (.int p0), .val (.int p1), .val (.int p2), .val (.int p3), .val (.int p4), .val (.int p5), .val (.int c0), .val (.int c1), .val (.int d0), .val (.int d1), .val (.int md), .val (.ref ta), .val (.ref tb), .val (.int tx), .val (.ref b22), .val (.ref b29), .val (.int (0 : Int32)), .unset, .unset, .unset, .unset, .unset] [(.int p2), (.int (0 : Int32)), (.ref b29)]) _ _ _
      refine Ends.go (fun _ k => XS.iload X35.here hx rfl (hb hby at_301) rfl k) ?_
      show Ends p e below s T35 (mkF m 303 #[.val (.int p0), .val (.int p1), .val (.int p2), .val (.int p3), .val (.int p4), .val (.int p5), .val (.int c0), .val (.int c1), .val (.int d0), .val (.int d1), .val (.int md), .val (.ref ta), .val (.ref tb), .val (.int tx), .val (.ref b22), .val (.ref b29), .val (.int (0 : Int32)), .unset, .unset, .unset, .unset, .unset] [(.int p5), (.int p2), (.int (0 : Int32)), (.ref b29)]) _ _ _
      refine Ends.go (fun _ k => XS.iadd X35.here hx rfl (hb hby at_303) rfl k) ?_
      show Ends p e below s T35 (mkF m 304 #[.val (.int p0), .val (.int p1), .val (.int p2), .val (.int p3), .val (.int p4), .val (.int p5), .val (.int c0), .val (.int c1), .val (.int d0), .val (.int d1), .val (.int md), .val (.ref ta), .val (.ref tb), .val (.int tx), .val (.ref b22), .val (.ref b29), .val (.int (0 : Int32)), .unset, .unset, .unset, .unset, .unset] [(.int (p2 + p5)), (.int (0 : Int32)), (.ref b29)]) _ _ _
      obtain ⟨cl38, Ar38, q38, S38, M38, H38, G38⟩ := id V35
      have hin38 := inb_of (j := (0 : Int32)) S38 ⟨by decide, by decide⟩
      obtain ⟨T38, h38, X38, e38, W38, st38⟩ := stI X35 hx hZ e35 Ar38 (j := (0 : Int32)) hin38 (g := (mkF m 304 #[.val (.int p0), .val (.int p1), .val (.int p2), .val (.int p3), .val (.int p4), .val (.int p5), .val (.int c0), .val (.int c1), .val (.int d0), .val (.int d1), .val (.int md), .val (.ref ta), .val (.ref tb), .val (.int tx), .val (.ref b22), .val (.ref b29), .val (.int (0 : Int32)), .unset, .unset, .unset, .unset, .unset] [(.int (p2 + p5)), (.int (0 : Int32)), (.ref b29)])) rfl rfl (hb hby at_304)
      refine Ends.go st38 ?_
      have V38 : Arv Z h38 b29 k29 .int (6 : Int32) [(.int (p2 + p5)), (.int p3), (.int (p2 ^^^ (-1 : Int32))), (.int (p3 ^^^ (-1 : Int32))), (.int (p2 ^^^ p3)), (.int (p2 - p3))] (.int (0 : Int32)) := Arv.set Ar38 q38 S38 M38 H38 G38 rfl W38 0 rfl (Nat.le_of_ble_eq_true rfl)
      have K38 := K35.wr W38 (Or.inr sz_b29)
      have O38 := O35.wr W38 g_b29
      have N38 := Fr.snoc X38 N35 g_b29
      show Ends p e below s T38 (mkF m 305 #[.val (.int p0), .val (.int p1), .val (.int p2), .val (.int p3), .val (.int p4), .val (.int p5), .val (.int c0), .val (.int c1), .val (.int d0), .val (.int d1), .val (.int md), .val (.ref ta), .val (.ref tb), .val (.int tx), .val (.ref b22), .val (.ref b29), .val (.int (0 : Int32)), .unset, .unset, .unset, .unset, .unset] []) _ _ _
      refine Ends.go (fun _ k => XS.iload X38.here hx rfl (hb hby at_305) rfl k) ?_
      show Ends p e below s T38 (mkF m 307 #[.val (.int p0), .val (.int p1), .val (.int p2), .val (.int p3), .val (.int p4), .val (.int p5), .val (.int c0), .val (.int c1), .val (.int d0), .val (.int d1), .val (.int md), .val (.ref ta), .val (.ref tb), .val (.int tx), .val (.ref b22), .val (.ref b29), .val (.int (0 : Int32)), .unset, .unset, .unset, .unset, .unset] [(.int (0 : Int32))]) _ _ _
      refine Ends.go (fun _ k => XS.bipush X38.here hx rfl (hb hby at_307) k) ?_
      show Ends p e below s T38 (mkF m 309 #[.val (.int p0), .val (.int p1), .val (.int p2), .val (.int p3), .val (.int p4), .val (.int p5), .val (.int c0), .val (.int c1), .val (.int d0), .val (.int d1), .val (.int md), .val (.ref ta), .val (.ref tb), .val (.int tx), .val (.ref b22), .val (.ref b29), .val (.int (0 : Int32)), .unset, .unset, .unset, .unset, .unset] [(.int (6 : Int32)), (.int (0 : Int32))]) _ _ _
      refine Ends.go (fun _ k => XS.icmpNo X38.here hx rfl (hb hby at_309) rfl (tlt (by decide : (0 : Int32) < (6 : Int32))).2.1 k) ?_
      show Ends p e below s T38 (mkF m 312 #[.val (.int p0), .val (.int p1), .val (.int p2), .val (.int p3), .val (.int p4), .val (.int p5), .val (.int c0), .val (.int c1), .val (.int d0), .val (.int d1), .val (.int md), .val (.ref ta), .val (.ref tb), .val (.int tx), .val (.ref b22), .val (.ref b29), .val (.int (0 : Int32)), .unset, .unset, .unset, .unset, .unset] []) _ _ _
      refine Ends.go (fun _ k => XS.iload X38.here hx rfl (hb hby at_312) rfl k) ?_
      show Ends p e below s T38 (mkF m 314 #[.val (.int p0), .val (.int p1), .val (.int p2), .val (.int p3), .val (.int p4), .val (.int p5), .val (.int c0), .val (.int c1), .val (.int d0), .val (.int d1), .val (.int md), .val (.ref ta), .val (.ref tb), .val (.int tx), .val (.ref b22), .val (.ref b29), .val (.int (0 : Int32)), .unset, .unset, .unset, .unset, .unset] [(.int p5)]) _ _ _
      by_cases hc314_39 : p5 = (0 : Int32)
      · refine Ends.go (fun _ k => XS.ifNo X38.here hx rfl (hb hby at_314) rfl ((if0 _ _).trans (teq hc314_39).2) k) ?_
        show Ends p e below s T38 (mkF m 317 #[.val (.int p0), .val (.int p1), .val (.int p2), .val (.int p3), .val (.int p4), .val (.int p5), .val (.int c0), .val (.int c1), .val (.int d0), .val (.int d1), .val (.int md), .val (.ref ta), .val (.ref tb), .val (.int tx), .val (.ref b22), .val (.ref b29), .val (.int (0 : Int32)), .unset, .unset, .unset, .unset, .unset] []) _ _ _
        refine Ends.go (fun _ k => XS.iconst X38.here hx rfl (hb hby at_317) k) ?_
        show Ends p e below s T38 (mkF m 318 #[.val (.int p0), .val (.int p1), .val (.int p2), .val (.int p3), .val (.int p4), .val (.int p5), .val (.int c0), .val (.int c1), .val (.int d0), .val (.int d1), .val (.int md), .val (.ref ta), .val (.ref tb), .val (.int tx), .val (.ref b22), .val (.ref b29), .val (.int (0 : Int32)), .unset, .unset, .unset, .unset, .unset] [(.int (1 : Int32))]) _ _ _
        refine Ends.go (fun _ k => XS.goto X38.here hx rfl (pc0 := 318) (pc' := 322) rfl (hb hby at_318) (by decide) (by decide) k) ?_
        show Ends p e below s T38 (mkF m 322 #[.val (.int p0), .val (.int p1), .val (.int p2), .val (.int p3), .val (.int p4), .val (.int p5), .val (.int c0), .val (.int c1), .val (.int d0), .val (.int d1), .val (.int md), .val (.ref ta), .val (.ref tb), .val (.int tx), .val (.ref b22), .val (.ref b29), .val (.int (0 : Int32)), .unset, .unset, .unset, .unset, .unset] [(.int (1 : Int32))]) _ _ _
        refine Ends.go (fun _ k => XS.istore X38.here hx rfl (hb hby at_322) rfl (l' := #[.val (.int p0), .val (.int p1), .val (.int p2), .val (.int p3), .val (.int p4), .val (.int p5), .val (.int c0), .val (.int c1), .val (.int d0), .val (.int d1), .val (.int md), .val (.ref ta), .val (.ref tb), .val (.int tx), .val (.ref b22), .val (.ref b29), .val (.int (0 : Int32)), .val (.int (1 : Int32)), .unset, .unset, .unset, .unset]) rfl k) ?_
        show Ends p e below s T38 (mkF m 324 #[.val (.int p0), .val (.int p1), .val (.int p2), .val (.int p3), .val (.int p4), .val (.int p5), .val (.int c0), .val (.int c1), .val (.int d0), .val (.int d1), .val (.int md), .val (.ref ta), .val (.ref tb), .val (.int tx), .val (.ref b22), .val (.ref b29), .val (.int (0 : Int32)), .val (.int (1 : Int32)), .unset, .unset, .unset, .unset] []) _ _ _
        refine Ends.go (fun _ k => XS.iload X38.here hx rfl (hb hby at_324) rfl k) ?_
        show Ends p e below s T38 (mkF m 326 #[.val (.int p0), .val (.int p1), .val (.int p2), .val (.int p3), .val (.int p4), .val (.int p5), .val (.int c0), .val (.int c1), .val (.int d0), .val (.int d1), .val (.int md), .val (.ref ta), .val (.ref tb), .val (.int tx), .val (.ref b22), .val (.ref b29), .val (.int (0 : Int32)), .val (.int (1 : Int32)), .unset, .unset, .unset, .unset] [(.int tx)]) _ _ _
        by_cases hc326_40 : tx = (0 : Int32)
        · refine Ends.go (fun _ k => XS.ifYes X38.here hx rfl (pc0 := 326) (pc' := 338) rfl (hb hby at_326) rfl ((if0 _ _).trans (teq hc326_40).1) (by decide) (by decide) k) ?_
          show Ends p e below s T38 (mkF m 338 #[.val (.int p0), .val (.int p1), .val (.int p2), .val (.int p3), .val (.int p4), .val (.int p5), .val (.int c0), .val (.int c1), .val (.int d0), .val (.int d1), .val (.int md), .val (.ref ta), .val (.ref tb), .val (.int tx), .val (.ref b22), .val (.ref b29), .val (.int (0 : Int32)), .val (.int (1 : Int32)), .unset, .unset, .unset, .unset] []) _ _ _
          refine Ends.go (fun _ k => XS.iconst X38.here hx rfl (hb hby at_338) k) ?_
          show Ends p e below s T38 (mkF m 339 #[.val (.int p0), .val (.int p1), .val (.int p2), .val (.int p3), .val (.int p4), .val (.int p5), .val (.int c0), .val (.int c1), .val (.int d0), .val (.int d1), .val (.int md), .val (.ref ta), .val (.ref tb), .val (.int tx), .val (.ref b22), .val (.ref b29), .val (.int (0 : Int32)), .val (.int (1 : Int32)), .unset, .unset, .unset, .unset] [(.int (0 : Int32))]) _ _ _
          refine Ends.go (fun _ k => XS.istore X38.here hx rfl (hb hby at_339) rfl (l' := #[.val (.int p0), .val (.int p1), .val (.int p2), .val (.int p3), .val (.int p4), .val (.int p5), .val (.int c0), .val (.int c1), .val (.int d0), .val (.int d1), .val (.int md), .val (.ref ta), .val (.ref tb), .val (.int tx), .val (.ref b22), .val (.ref b29), .val (.int (0 : Int32)), .val (.int (1 : Int32)), .val (.int (0 : Int32)), .unset, .unset, .unset]) rfl k) ?_
          show Ends p e below s T38 (mkF m 341 #[.val (.int p0), .val (.int p1), .val (.int p2), .val (.int p3), .val (.int p4), .val (.int p5), .val (.int c0), .val (.int c1), .val (.int d0), .val (.int d1), .val (.int md), .val (.ref ta), .val (.ref tb), .val (.int tx), .val (.ref b22), .val (.ref b29), .val (.int (0 : Int32)), .val (.int (1 : Int32)), .val (.int (0 : Int32)), .unset, .unset, .unset] []) _ _ _
          exact J341 _ _ _ _ _ _ _ _ _ _ (p2 + p5) p3 (p2 ^^^ (-1 : Int32)) (p3 ^^^ (-1 : Int32)) (p2 ^^^ p3) (p2 - p3) X38 e38 O38 N38 K38 ⟨(((((((((((((((Ea.ext E22).wr W23).wr W24).wr W25).wr W26).wr W27).wr W28).ext E29).wr W30).wr W31).wr W32).wr W33).wr W34).wr W35).wr W38), (((((((((((((((Va.ext E22).other W23 (Or.inl ne_ta_b22)).other W24 (Or.inl ne_ta_b22)).other W25 (Or.inl ne_ta_b22)).other W26 (Or.inl ne_ta_b22)).other W27 (Or.inl ne_ta_b22)).other W28 (Or.inl ne_ta_b22)).ext E29).other W30 (Or.inl ne_ta_b29)).other W31 (Or.inl ne_ta_b29)).other W32 (Or.inl ne_ta_b29)).other W33 (Or.inl ne_ta_b29)).other W34 (Or.inl ne_ta_b29)).other W35 (Or.inl ne_ta_b29)).other W38 (Or.inl ne_ta_b29)), (((((((((((((((Ca.ext E22).other W23 (Or.inl ne_ta_b22)).other W24 (Or.inl ne_ta_b22)).other W25 (Or.inl ne_ta_b22)).other W26 (Or.inl ne_ta_b22)).other W27 (Or.inl ne_ta_b22)).other W28 (Or.inl ne_ta_b22)).ext E29).other W30 (Or.inl ne_ta_b29)).other W31 (Or.inl ne_ta_b29)).other W32 (Or.inl ne_ta_b29)).other W33 (Or.inl ne_ta_b29)).other W34 (Or.inl ne_ta_b29)).other W35 (Or.inl ne_ta_b29)).other W38 (Or.inl ne_ta_b29)), (((((((((((((((Aa.ext E22).other W23 ne_t1_b22).other W24 ne_t1_b22).other W25 ne_t1_b22).other W26 ne_t1_b22).other W27 ne_t1_b22).other W28 ne_t1_b22).ext E29).other W30 ne_t1_b29).other W31 ne_t1_b29).other W32 ne_t1_b29).other W33 ne_t1_b29).other W34 ne_t1_b29).other W35 ne_t1_b29).other W38 ne_t1_b29), SA.2.2.2.2⟩ ⟨(((((((((((((((Eb.ext E22).wr W23).wr W24).wr W25).wr W26).wr W27).wr W28).ext E29).wr W30).wr W31).wr W32).wr W33).wr W34).wr W35).wr W38), (((((((((((((((Vb.ext E22).other W23 (Or.inl ne_tb_b22)).other W24 (Or.inl ne_tb_b22)).other W25 (Or.inl ne_tb_b22)).other W26 (Or.inl ne_tb_b22)).other W27 (Or.inl ne_tb_b22)).other W28 (Or.inl ne_tb_b22)).ext E29).other W30 (Or.inl ne_tb_b29)).other W31 (Or.inl ne_tb_b29)).other W32 (Or.inl ne_tb_b29)).other W33 (Or.inl ne_tb_b29)).other W34 (Or.inl ne_tb_b29)).other W35 (Or.inl ne_tb_b29)).other W38 (Or.inl ne_tb_b29)), (((((((((((((((Cb.ext E22).other W23 (Or.inl ne_tb_b22)).other W24 (Or.inl ne_tb_b22)).other W25 (Or.inl ne_tb_b22)).other W26 (Or.inl ne_tb_b22)).other W27 (Or.inl ne_tb_b22)).other W28 (Or.inl ne_tb_b22)).ext E29).other W30 (Or.inl ne_tb_b29)).other W31 (Or.inl ne_tb_b29)).other W32 (Or.inl ne_tb_b29)).other W33 (Or.inl ne_tb_b29)).other W34 (Or.inl ne_tb_b29)).other W35 (Or.inl ne_tb_b29)).other W38 (Or.inl ne_tb_b29)), (((((((((((((((Ab.ext E22).other W23 ne_t2_b22).other W24 ne_t2_b22).other W25 ne_t2_b22).other W26 ne_t2_b22).other W27 ne_t2_b22).other W28 ne_t2_b22).ext E29).other W30 ne_t2_b29).other W31 ne_t2_b29).other W32 ne_t2_b29).other W33 ne_t2_b29).other W34 ne_t2_b29).other W35 ne_t2_b29).other W38 ne_t2_b29), SB.2.2.2.2⟩ ((((((((V28.ext E29).other W30 ne_b22_b29).other W31 ne_b22_b29).other W32 ne_b22_b29).other W33 ne_b22_b29).other W34 ne_b22_b29).other W35 ne_b22_b29).other W38 ne_b22_b29) V38 (Or.inr ⟨rfl, fun q => own_tx0 htx hc326_40 q.1⟩)
        · refine Ends.go (fun _ k => XS.ifNo X38.here hx rfl (hb hby at_326) rfl ((if0 _ _).trans (feq hc326_40).1) k) ?_
          show Ends p e below s T38 (mkF m 329 #[.val (.int p0), .val (.int p1), .val (.int p2), .val (.int p3), .val (.int p4), .val (.int p5), .val (.int c0), .val (.int c1), .val (.int d0), .val (.int d1), .val (.int md), .val (.ref ta), .val (.ref tb), .val (.int tx), .val (.ref b22), .val (.ref b29), .val (.int (0 : Int32)), .val (.int (1 : Int32)), .unset, .unset, .unset, .unset] []) _ _ _
          refine Ends.go (fun _ k => XS.iload X38.here hx rfl (hb hby at_329) rfl k) ?_
          show Ends p e below s T38 (mkF m 331 #[.val (.int p0), .val (.int p1), .val (.int p2), .val (.int p3), .val (.int p4), .val (.int p5), .val (.int c0), .val (.int c1), .val (.int d0), .val (.int d1), .val (.int md), .val (.ref ta), .val (.ref tb), .val (.int tx), .val (.ref b22), .val (.ref b29), .val (.int (0 : Int32)), .val (.int (1 : Int32)), .unset, .unset, .unset, .unset] [(.int (1 : Int32))]) _ _ _
          refine Ends.go (fun _ k => XS.ifNo X38.here hx rfl (hb hby at_331) rfl ((if0 _ _).trans (feq (by decide : ¬ ((1 : Int32) = (0 : Int32)))).1) k) ?_
          show Ends p e below s T38 (mkF m 334 #[.val (.int p0), .val (.int p1), .val (.int p2), .val (.int p3), .val (.int p4), .val (.int p5), .val (.int c0), .val (.int c1), .val (.int d0), .val (.int d1), .val (.int md), .val (.ref ta), .val (.ref tb), .val (.int tx), .val (.ref b22), .val (.ref b29), .val (.int (0 : Int32)), .val (.int (1 : Int32)), .unset, .unset, .unset, .unset] []) _ _ _
          refine Ends.go (fun _ k => XS.iconst X38.here hx rfl (hb hby at_334) k) ?_
          show Ends p e below s T38 (mkF m 335 #[.val (.int p0), .val (.int p1), .val (.int p2), .val (.int p3), .val (.int p4), .val (.int p5), .val (.int c0), .val (.int c1), .val (.int d0), .val (.int d1), .val (.int md), .val (.ref ta), .val (.ref tb), .val (.int tx), .val (.ref b22), .val (.ref b29), .val (.int (0 : Int32)), .val (.int (1 : Int32)), .unset, .unset, .unset, .unset] [(.int (1 : Int32))]) _ _ _
          refine Ends.go (fun _ k => XS.goto X38.here hx rfl (pc0 := 335) (pc' := 339) rfl (hb hby at_335) (by decide) (by decide) k) ?_
          show Ends p e below s T38 (mkF m 339 #[.val (.int p0), .val (.int p1), .val (.int p2), .val (.int p3), .val (.int p4), .val (.int p5), .val (.int c0), .val (.int c1), .val (.int d0), .val (.int d1), .val (.int md), .val (.ref ta), .val (.ref tb), .val (.int tx), .val (.ref b22), .val (.ref b29), .val (.int (0 : Int32)), .val (.int (1 : Int32)), .unset, .unset, .unset, .unset] [(.int (1 : Int32))]) _ _ _
          refine Ends.go (fun _ k => XS.istore X38.here hx rfl (hb hby at_339) rfl (l' := #[.val (.int p0), .val (.int p1), .val (.int p2), .val (.int p3), .val (.int p4), .val (.int p5), .val (.int c0), .val (.int c1), .val (.int d0), .val (.int d1), .val (.int md), .val (.ref ta), .val (.ref tb), .val (.int tx), .val (.ref b22), .val (.ref b29), .val (.int (0 : Int32)), .val (.int (1 : Int32)), .val (.int (1 : Int32)), .unset, .unset, .unset]) rfl k) ?_
          show Ends p e below s T38 (mkF m 341 #[.val (.int p0), .val (.int p1), .val (.int p2), .val (.int p3), .val (.int p4), .val (.int p5), .val (.int c0), .val (.int c1), .val (.int d0), .val (.int d1), .val (.int md), .val (.ref ta), .val (.ref tb), .val (.int tx), .val (.ref b22), .val (.ref b29), .val (.int (0 : Int32)), .val (.int (1 : Int32)), .val (.int (1 : Int32)), .unset, .unset, .unset] []) _ _ _
          exact J341 _ _ _ _ _ _ _ _ _ _ (p2 + p5) p3 (p2 ^^^ (-1 : Int32)) (p3 ^^^ (-1 : Int32)) (p2 ^^^ p3) (p2 - p3) X38 e38 O38 N38 K38 ⟨(((((((((((((((Ea.ext E22).wr W23).wr W24).wr W25).wr W26).wr W27).wr W28).ext E29).wr W30).wr W31).wr W32).wr W33).wr W34).wr W35).wr W38), (((((((((((((((Va.ext E22).other W23 (Or.inl ne_ta_b22)).other W24 (Or.inl ne_ta_b22)).other W25 (Or.inl ne_ta_b22)).other W26 (Or.inl ne_ta_b22)).other W27 (Or.inl ne_ta_b22)).other W28 (Or.inl ne_ta_b22)).ext E29).other W30 (Or.inl ne_ta_b29)).other W31 (Or.inl ne_ta_b29)).other W32 (Or.inl ne_ta_b29)).other W33 (Or.inl ne_ta_b29)).other W34 (Or.inl ne_ta_b29)).other W35 (Or.inl ne_ta_b29)).other W38 (Or.inl ne_ta_b29)), (((((((((((((((Ca.ext E22).other W23 (Or.inl ne_ta_b22)).other W24 (Or.inl ne_ta_b22)).other W25 (Or.inl ne_ta_b22)).other W26 (Or.inl ne_ta_b22)).other W27 (Or.inl ne_ta_b22)).other W28 (Or.inl ne_ta_b22)).ext E29).other W30 (Or.inl ne_ta_b29)).other W31 (Or.inl ne_ta_b29)).other W32 (Or.inl ne_ta_b29)).other W33 (Or.inl ne_ta_b29)).other W34 (Or.inl ne_ta_b29)).other W35 (Or.inl ne_ta_b29)).other W38 (Or.inl ne_ta_b29)), (((((((((((((((Aa.ext E22).other W23 ne_t1_b22).other W24 ne_t1_b22).other W25 ne_t1_b22).other W26 ne_t1_b22).other W27 ne_t1_b22).other W28 ne_t1_b22).ext E29).other W30 ne_t1_b29).other W31 ne_t1_b29).other W32 ne_t1_b29).other W33 ne_t1_b29).other W34 ne_t1_b29).other W35 ne_t1_b29).other W38 ne_t1_b29), SA.2.2.2.2⟩ ⟨(((((((((((((((Eb.ext E22).wr W23).wr W24).wr W25).wr W26).wr W27).wr W28).ext E29).wr W30).wr W31).wr W32).wr W33).wr W34).wr W35).wr W38), (((((((((((((((Vb.ext E22).other W23 (Or.inl ne_tb_b22)).other W24 (Or.inl ne_tb_b22)).other W25 (Or.inl ne_tb_b22)).other W26 (Or.inl ne_tb_b22)).other W27 (Or.inl ne_tb_b22)).other W28 (Or.inl ne_tb_b22)).ext E29).other W30 (Or.inl ne_tb_b29)).other W31 (Or.inl ne_tb_b29)).other W32 (Or.inl ne_tb_b29)).other W33 (Or.inl ne_tb_b29)).other W34 (Or.inl ne_tb_b29)).other W35 (Or.inl ne_tb_b29)).other W38 (Or.inl ne_tb_b29)), (((((((((((((((Cb.ext E22).other W23 (Or.inl ne_tb_b22)).other W24 (Or.inl ne_tb_b22)).other W25 (Or.inl ne_tb_b22)).other W26 (Or.inl ne_tb_b22)).other W27 (Or.inl ne_tb_b22)).other W28 (Or.inl ne_tb_b22)).ext E29).other W30 (Or.inl ne_tb_b29)).other W31 (Or.inl ne_tb_b29)).other W32 (Or.inl ne_tb_b29)).other W33 (Or.inl ne_tb_b29)).other W34 (Or.inl ne_tb_b29)).other W35 (Or.inl ne_tb_b29)).other W38 (Or.inl ne_tb_b29)), (((((((((((((((Ab.ext E22).other W23 ne_t2_b22).other W24 ne_t2_b22).other W25 ne_t2_b22).other W26 ne_t2_b22).other W27 ne_t2_b22).other W28 ne_t2_b22).ext E29).other W30 ne_t2_b29).other W31 ne_t2_b29).other W32 ne_t2_b29).other W33 ne_t2_b29).other W34 ne_t2_b29).other W35 ne_t2_b29).other W38 ne_t2_b29), SB.2.2.2.2⟩ ((((((((V28.ext E29).other W30 ne_b22_b29).other W31 ne_b22_b29).other W32 ne_b22_b29).other W33 ne_b22_b29).other W34 ne_b22_b29).other W35 ne_b22_b29).other W38 ne_b22_b29) V38 (Or.inl ⟨rfl, own_tx1 htx hc326_40, (own_add0 hc314_39), rfl, rfl, rfl, rfl, rfl⟩)
      · refine Ends.go (fun _ k => XS.ifYes X38.here hx rfl (pc0 := 314) (pc' := 321) rfl (hb hby at_314) rfl ((if0 _ _).trans (feq hc314_39).2) (by decide) (by decide) k) ?_
        show Ends p e below s T38 (mkF m 321 #[.val (.int p0), .val (.int p1), .val (.int p2), .val (.int p3), .val (.int p4), .val (.int p5), .val (.int c0), .val (.int c1), .val (.int d0), .val (.int d1), .val (.int md), .val (.ref ta), .val (.ref tb), .val (.int tx), .val (.ref b22), .val (.ref b29), .val (.int (0 : Int32)), .unset, .unset, .unset, .unset, .unset] []) _ _ _
        refine Ends.go (fun _ k => XS.iconst X38.here hx rfl (hb hby at_321) k) ?_
        show Ends p e below s T38 (mkF m 322 #[.val (.int p0), .val (.int p1), .val (.int p2), .val (.int p3), .val (.int p4), .val (.int p5), .val (.int c0), .val (.int c1), .val (.int d0), .val (.int d1), .val (.int md), .val (.ref ta), .val (.ref tb), .val (.int tx), .val (.ref b22), .val (.ref b29), .val (.int (0 : Int32)), .unset, .unset, .unset, .unset, .unset] [(.int (0 : Int32))]) _ _ _
        refine Ends.go (fun _ k => XS.istore X38.here hx rfl (hb hby at_322) rfl (l' := #[.val (.int p0), .val (.int p1), .val (.int p2), .val (.int p3), .val (.int p4), .val (.int p5), .val (.int c0), .val (.int c1), .val (.int d0), .val (.int d1), .val (.int md), .val (.ref ta), .val (.ref tb), .val (.int tx), .val (.ref b22), .val (.ref b29), .val (.int (0 : Int32)), .val (.int (0 : Int32)), .unset, .unset, .unset, .unset]) rfl k) ?_
        show Ends p e below s T38 (mkF m 324 #[.val (.int p0), .val (.int p1), .val (.int p2), .val (.int p3), .val (.int p4), .val (.int p5), .val (.int c0), .val (.int c1), .val (.int d0), .val (.int d1), .val (.int md), .val (.ref ta), .val (.ref tb), .val (.int tx), .val (.ref b22), .val (.ref b29), .val (.int (0 : Int32)), .val (.int (0 : Int32)), .unset, .unset, .unset, .unset] []) _ _ _
        refine Ends.go (fun _ k => XS.iload X38.here hx rfl (hb hby at_324) rfl k) ?_
        show Ends p e below s T38 (mkF m 326 #[.val (.int p0), .val (.int p1), .val (.int p2), .val (.int p3), .val (.int p4), .val (.int p5), .val (.int c0), .val (.int c1), .val (.int d0), .val (.int d1), .val (.int md), .val (.ref ta), .val (.ref tb), .val (.int tx), .val (.ref b22), .val (.ref b29), .val (.int (0 : Int32)), .val (.int (0 : Int32)), .unset, .unset, .unset, .unset] [(.int tx)]) _ _ _
        by_cases hc326_41 : tx = (0 : Int32)
        · refine Ends.go (fun _ k => XS.ifYes X38.here hx rfl (pc0 := 326) (pc' := 338) rfl (hb hby at_326) rfl ((if0 _ _).trans (teq hc326_41).1) (by decide) (by decide) k) ?_
          show Ends p e below s T38 (mkF m 338 #[.val (.int p0), .val (.int p1), .val (.int p2), .val (.int p3), .val (.int p4), .val (.int p5), .val (.int c0), .val (.int c1), .val (.int d0), .val (.int d1), .val (.int md), .val (.ref ta), .val (.ref tb), .val (.int tx), .val (.ref b22), .val (.ref b29), .val (.int (0 : Int32)), .val (.int (0 : Int32)), .unset, .unset, .unset, .unset] []) _ _ _
          refine Ends.go (fun _ k => XS.iconst X38.here hx rfl (hb hby at_338) k) ?_
          show Ends p e below s T38 (mkF m 339 #[.val (.int p0), .val (.int p1), .val (.int p2), .val (.int p3), .val (.int p4), .val (.int p5), .val (.int c0), .val (.int c1), .val (.int d0), .val (.int d1), .val (.int md), .val (.ref ta), .val (.ref tb), .val (.int tx), .val (.ref b22), .val (.ref b29), .val (.int (0 : Int32)), .val (.int (0 : Int32)), .unset, .unset, .unset, .unset] [(.int (0 : Int32))]) _ _ _
          refine Ends.go (fun _ k => XS.istore X38.here hx rfl (hb hby at_339) rfl (l' := #[.val (.int p0), .val (.int p1), .val (.int p2), .val (.int p3), .val (.int p4), .val (.int p5), .val (.int c0), .val (.int c1), .val (.int d0), .val (.int d1), .val (.int md), .val (.ref ta), .val (.ref tb), .val (.int tx), .val (.ref b22), .val (.ref b29), .val (.int (0 : Int32)), .val (.int (0 : Int32)), .val (.int (0 : Int32)), .unset, .unset, .unset]) rfl k) ?_
          show Ends p e below s T38 (mkF m 341 #[.val (.int p0), .val (.int p1), .val (.int p2), .val (.int p3), .val (.int p4), .val (.int p5), .val (.int c0), .val (.int c1), .val (.int d0), .val (.int d1), .val (.int md), .val (.ref ta), .val (.ref tb), .val (.int tx), .val (.ref b22), .val (.ref b29), .val (.int (0 : Int32)), .val (.int (0 : Int32)), .val (.int (0 : Int32)), .unset, .unset, .unset] []) _ _ _
          exact J341 _ _ _ _ _ _ _ _ _ _ (p2 + p5) p3 (p2 ^^^ (-1 : Int32)) (p3 ^^^ (-1 : Int32)) (p2 ^^^ p3) (p2 - p3) X38 e38 O38 N38 K38 ⟨(((((((((((((((Ea.ext E22).wr W23).wr W24).wr W25).wr W26).wr W27).wr W28).ext E29).wr W30).wr W31).wr W32).wr W33).wr W34).wr W35).wr W38), (((((((((((((((Va.ext E22).other W23 (Or.inl ne_ta_b22)).other W24 (Or.inl ne_ta_b22)).other W25 (Or.inl ne_ta_b22)).other W26 (Or.inl ne_ta_b22)).other W27 (Or.inl ne_ta_b22)).other W28 (Or.inl ne_ta_b22)).ext E29).other W30 (Or.inl ne_ta_b29)).other W31 (Or.inl ne_ta_b29)).other W32 (Or.inl ne_ta_b29)).other W33 (Or.inl ne_ta_b29)).other W34 (Or.inl ne_ta_b29)).other W35 (Or.inl ne_ta_b29)).other W38 (Or.inl ne_ta_b29)), (((((((((((((((Ca.ext E22).other W23 (Or.inl ne_ta_b22)).other W24 (Or.inl ne_ta_b22)).other W25 (Or.inl ne_ta_b22)).other W26 (Or.inl ne_ta_b22)).other W27 (Or.inl ne_ta_b22)).other W28 (Or.inl ne_ta_b22)).ext E29).other W30 (Or.inl ne_ta_b29)).other W31 (Or.inl ne_ta_b29)).other W32 (Or.inl ne_ta_b29)).other W33 (Or.inl ne_ta_b29)).other W34 (Or.inl ne_ta_b29)).other W35 (Or.inl ne_ta_b29)).other W38 (Or.inl ne_ta_b29)), (((((((((((((((Aa.ext E22).other W23 ne_t1_b22).other W24 ne_t1_b22).other W25 ne_t1_b22).other W26 ne_t1_b22).other W27 ne_t1_b22).other W28 ne_t1_b22).ext E29).other W30 ne_t1_b29).other W31 ne_t1_b29).other W32 ne_t1_b29).other W33 ne_t1_b29).other W34 ne_t1_b29).other W35 ne_t1_b29).other W38 ne_t1_b29), SA.2.2.2.2⟩ ⟨(((((((((((((((Eb.ext E22).wr W23).wr W24).wr W25).wr W26).wr W27).wr W28).ext E29).wr W30).wr W31).wr W32).wr W33).wr W34).wr W35).wr W38), (((((((((((((((Vb.ext E22).other W23 (Or.inl ne_tb_b22)).other W24 (Or.inl ne_tb_b22)).other W25 (Or.inl ne_tb_b22)).other W26 (Or.inl ne_tb_b22)).other W27 (Or.inl ne_tb_b22)).other W28 (Or.inl ne_tb_b22)).ext E29).other W30 (Or.inl ne_tb_b29)).other W31 (Or.inl ne_tb_b29)).other W32 (Or.inl ne_tb_b29)).other W33 (Or.inl ne_tb_b29)).other W34 (Or.inl ne_tb_b29)).other W35 (Or.inl ne_tb_b29)).other W38 (Or.inl ne_tb_b29)), (((((((((((((((Cb.ext E22).other W23 (Or.inl ne_tb_b22)).other W24 (Or.inl ne_tb_b22)).other W25 (Or.inl ne_tb_b22)).other W26 (Or.inl ne_tb_b22)).other W27 (Or.inl ne_tb_b22)).other W28 (Or.inl ne_tb_b22)).ext E29).other W30 (Or.inl ne_tb_b29)).other W31 (Or.inl ne_tb_b29)).other W32 (Or.inl ne_tb_b29)).other W33 (Or.inl ne_tb_b29)).other W34 (Or.inl ne_tb_b29)).other W35 (Or.inl ne_tb_b29)).other W38 (Or.inl ne_tb_b29)), (((((((((((((((Ab.ext E22).other W23 ne_t2_b22).other W24 ne_t2_b22).other W25 ne_t2_b22).other W26 ne_t2_b22).other W27 ne_t2_b22).other W28 ne_t2_b22).ext E29).other W30 ne_t2_b29).other W31 ne_t2_b29).other W32 ne_t2_b29).other W33 ne_t2_b29).other W34 ne_t2_b29).other W35 ne_t2_b29).other W38 ne_t2_b29), SB.2.2.2.2⟩ ((((((((V28.ext E29).other W30 ne_b22_b29).other W31 ne_b22_b29).other W32 ne_b22_b29).other W33 ne_b22_b29).other W34 ne_b22_b29).other W35 ne_b22_b29).other W38 ne_b22_b29) V38 (Or.inr ⟨rfl, fun q => own_tx0 htx hc326_41 q.1⟩)
        · refine Ends.go (fun _ k => XS.ifNo X38.here hx rfl (hb hby at_326) rfl ((if0 _ _).trans (feq hc326_41).1) k) ?_
          show Ends p e below s T38 (mkF m 329 #[.val (.int p0), .val (.int p1), .val (.int p2), .val (.int p3), .val (.int p4), .val (.int p5), .val (.int c0), .val (.int c1), .val (.int d0), .val (.int d1), .val (.int md), .val (.ref ta), .val (.ref tb), .val (.int tx), .val (.ref b22), .val (.ref b29), .val (.int (0 : Int32)), .val (.int (0 : Int32)), .unset, .unset, .unset, .unset] []) _ _ _
          refine Ends.go (fun _ k => XS.iload X38.here hx rfl (hb hby at_329) rfl k) ?_
          show Ends p e below s T38 (mkF m 331 #[.val (.int p0), .val (.int p1), .val (.int p2), .val (.int p3), .val (.int p4), .val (.int p5), .val (.int c0), .val (.int c1), .val (.int d0), .val (.int d1), .val (.int md), .val (.ref ta), .val (.ref tb), .val (.int tx), .val (.ref b22), .val (.ref b29), .val (.int (0 : Int32)), .val (.int (0 : Int32)), .unset, .unset, .unset, .unset] [(.int (0 : Int32))]) _ _ _
          refine Ends.go (fun _ k => XS.ifYes X38.here hx rfl (pc0 := 331) (pc' := 338) rfl (hb hby at_331) rfl ((if0 _ _).trans (teq (by decide : (0 : Int32) = (0 : Int32))).1) (by decide) (by decide) k) ?_
          show Ends p e below s T38 (mkF m 338 #[.val (.int p0), .val (.int p1), .val (.int p2), .val (.int p3), .val (.int p4), .val (.int p5), .val (.int c0), .val (.int c1), .val (.int d0), .val (.int d1), .val (.int md), .val (.ref ta), .val (.ref tb), .val (.int tx), .val (.ref b22), .val (.ref b29), .val (.int (0 : Int32)), .val (.int (0 : Int32)), .unset, .unset, .unset, .unset] []) _ _ _
          refine Ends.go (fun _ k => XS.iconst X38.here hx rfl (hb hby at_338) k) ?_
          show Ends p e below s T38 (mkF m 339 #[.val (.int p0), .val (.int p1), .val (.int p2), .val (.int p3), .val (.int p4), .val (.int p5), .val (.int c0), .val (.int c1), .val (.int d0), .val (.int d1), .val (.int md), .val (.ref ta), .val (.ref tb), .val (.int tx), .val (.ref b22), .val (.ref b29), .val (.int (0 : Int32)), .val (.int (0 : Int32)), .unset, .unset, .unset, .unset] [(.int (0 : Int32))]) _ _ _
          refine Ends.go (fun _ k => XS.istore X38.here hx rfl (hb hby at_339) rfl (l' := #[.val (.int p0), .val (.int p1), .val (.int p2), .val (.int p3), .val (.int p4), .val (.int p5), .val (.int c0), .val (.int c1), .val (.int d0), .val (.int d1), .val (.int md), .val (.ref ta), .val (.ref tb), .val (.int tx), .val (.ref b22), .val (.ref b29), .val (.int (0 : Int32)), .val (.int (0 : Int32)), .val (.int (0 : Int32)), .unset, .unset, .unset]) rfl k) ?_
          show Ends p e below s T38 (mkF m 341 #[.val (.int p0), .val (.int p1), .val (.int p2), .val (.int p3), .val (.int p4), .val (.int p5), .val (.int c0), .val (.int c1), .val (.int d0), .val (.int d1), .val (.int md), .val (.ref ta), .val (.ref tb), .val (.int tx), .val (.ref b22), .val (.ref b29), .val (.int (0 : Int32)), .val (.int (0 : Int32)), .val (.int (0 : Int32)), .unset, .unset, .unset] []) _ _ _
          exact J341 _ _ _ _ _ _ _ _ _ _ (p2 + p5) p3 (p2 ^^^ (-1 : Int32)) (p3 ^^^ (-1 : Int32)) (p2 ^^^ p3) (p2 - p3) X38 e38 O38 N38 K38 ⟨(((((((((((((((Ea.ext E22).wr W23).wr W24).wr W25).wr W26).wr W27).wr W28).ext E29).wr W30).wr W31).wr W32).wr W33).wr W34).wr W35).wr W38), (((((((((((((((Va.ext E22).other W23 (Or.inl ne_ta_b22)).other W24 (Or.inl ne_ta_b22)).other W25 (Or.inl ne_ta_b22)).other W26 (Or.inl ne_ta_b22)).other W27 (Or.inl ne_ta_b22)).other W28 (Or.inl ne_ta_b22)).ext E29).other W30 (Or.inl ne_ta_b29)).other W31 (Or.inl ne_ta_b29)).other W32 (Or.inl ne_ta_b29)).other W33 (Or.inl ne_ta_b29)).other W34 (Or.inl ne_ta_b29)).other W35 (Or.inl ne_ta_b29)).other W38 (Or.inl ne_ta_b29)), (((((((((((((((Ca.ext E22).other W23 (Or.inl ne_ta_b22)).other W24 (Or.inl ne_ta_b22)).other W25 (Or.inl ne_ta_b22)).other W26 (Or.inl ne_ta_b22)).other W27 (Or.inl ne_ta_b22)).other W28 (Or.inl ne_ta_b22)).ext E29).other W30 (Or.inl ne_ta_b29)).other W31 (Or.inl ne_ta_b29)).other W32 (Or.inl ne_ta_b29)).other W33 (Or.inl ne_ta_b29)).other W34 (Or.inl ne_ta_b29)).other W35 (Or.inl ne_ta_b29)).other W38 (Or.inl ne_ta_b29)), (((((((((((((((Aa.ext E22).other W23 ne_t1_b22).other W24 ne_t1_b22).other W25 ne_t1_b22).other W26 ne_t1_b22).other W27 ne_t1_b22).other W28 ne_t1_b22).ext E29).other W30 ne_t1_b29).other W31 ne_t1_b29).other W32 ne_t1_b29).other W33 ne_t1_b29).other W34 ne_t1_b29).other W35 ne_t1_b29).other W38 ne_t1_b29), SA.2.2.2.2⟩ ⟨(((((((((((((((Eb.ext E22).wr W23).wr W24).wr W25).wr W26).wr W27).wr W28).ext E29).wr W30).wr W31).wr W32).wr W33).wr W34).wr W35).wr W38), (((((((((((((((Vb.ext E22).other W23 (Or.inl ne_tb_b22)).other W24 (Or.inl ne_tb_b22)).other W25 (Or.inl ne_tb_b22)).other W26 (Or.inl ne_tb_b22)).other W27 (Or.inl ne_tb_b22)).other W28 (Or.inl ne_tb_b22)).ext E29).other W30 (Or.inl ne_tb_b29)).other W31 (Or.inl ne_tb_b29)).other W32 (Or.inl ne_tb_b29)).other W33 (Or.inl ne_tb_b29)).other W34 (Or.inl ne_tb_b29)).other W35 (Or.inl ne_tb_b29)).other W38 (Or.inl ne_tb_b29)), (((((((((((((((Cb.ext E22).other W23 (Or.inl ne_tb_b22)).other W24 (Or.inl ne_tb_b22)).other W25 (Or.inl ne_tb_b22)).other W26 (Or.inl ne_tb_b22)).other W27 (Or.inl ne_tb_b22)).other W28 (Or.inl ne_tb_b22)).ext E29).other W30 (Or.inl ne_tb_b29)).other W31 (Or.inl ne_tb_b29)).other W32 (Or.inl ne_tb_b29)).other W33 (Or.inl ne_tb_b29)).other W34 (Or.inl ne_tb_b29)).other W35 (Or.inl ne_tb_b29)).other W38 (Or.inl ne_tb_b29)), (((((((((((((((Ab.ext E22).other W23 ne_t2_b22).other W24 ne_t2_b22).other W25 ne_t2_b22).other W26 ne_t2_b22).other W27 ne_t2_b22).other W28 ne_t2_b22).ext E29).other W30 ne_t2_b29).other W31 ne_t2_b29).other W32 ne_t2_b29).other W33 ne_t2_b29).other W34 ne_t2_b29).other W35 ne_t2_b29).other W38 ne_t2_b29), SB.2.2.2.2⟩ ((((((((V28.ext E29).other W30 ne_b22_b29).other W31 ne_b22_b29).other W32 ne_b22_b29).other W33 ne_b22_b29).other W34 ne_b22_b29).other W35 ne_b22_b29).other W38 ne_b22_b29) V38 (Or.inr ⟨rfl, fun ⟨zz, z0, z1, z2, z3, z4, z5⟩ => own_addne hc314_39 z0⟩)
    · show Ends p e below s T35 (mkF m 283 #[.val (.int p0), .val (.int p1), .val (.int p2), .val (.int p3), .val (.int p4), .val (.int p5), .val (.int c0), .val (.int c1), .val (.int d0), .val (.int d1), .val (.int md), .val (.ref ta), .val (.ref tb), .val (.int tx), .val (.ref b22), .val (.ref b29), .unset, .unset, .unset, .unset, .unset, .unset] [(.int (1 : Int32))]) _ _ _
      refine Ends.go (fun _ k => XS.istore X35.here hx rfl (hb hby at_283) rfl (l' := #[.val (.int p0), .val (.int p1), .val (.int p2), .val (.int p3), .val (.int p4), .val (.int p5), .val (.int c0), .val (.int c1), .val (.int d0), .val (.int d1), .val (.int md), .val (.ref ta), .val (.ref tb), .val (.int tx), .val (.ref b22), .val (.ref b29), .val (.int (1 : Int32)), .unset, .unset, .unset, .unset, .unset]) rfl k) ?_
      show Ends p e below s T35 (mkF m 285 #[.val (.int p0), .val (.int p1), .val (.int p2), .val (.int p3), .val (.int p4), .val (.int p5), .val (.int c0), .val (.int c1), .val (.int d0), .val (.int d1), .val (.int md), .val (.ref ta), .val (.ref tb), .val (.int tx), .val (.ref b22), .val (.ref b29), .val (.int (1 : Int32)), .unset, .unset, .unset, .unset, .unset] []) _ _ _
      refine Ends.go (fun _ k => XS.iload X35.here hx rfl (hb hby at_285) rfl k) ?_
      show Ends p e below s T35 (mkF m 287 #[.val (.int p0), .val (.int p1), .val (.int p2), .val (.int p3), .val (.int p4), .val (.int p5), .val (.int c0), .val (.int c1), .val (.int d0), .val (.int d1), .val (.int md), .val (.ref ta), .val (.ref tb), .val (.int tx), .val (.ref b22), .val (.ref b29), .val (.int (1 : Int32)), .unset, .unset, .unset, .unset, .unset] [(.int (1 : Int32))]) _ _ _
      refine Ends.go (fun _ k => XS.bipush X35.here hx rfl (hb hby at_287) k) ?_
      show Ends p e below s T35 (mkF m 289 #[.val (.int p0), .val (.int p1), .val (.int p2), .val (.int p3), .val (.int p4), .val (.int p5), .val (.int c0), .val (.int c1), .val (.int d0), .val (.int d1), .val (.int md), .val (.ref ta), .val (.ref tb), .val (.int tx), .val (.ref b22), .val (.ref b29), .val (.int (1 : Int32)), .unset, .unset, .unset, .unset, .unset] [(.int (6 : Int32)), (.int (1 : Int32))]) _ _ _
      refine Ends.go (fun _ k => XS.icmpNo X35.here hx rfl (hb hby at_289) rfl (tlt (by decide : (1 : Int32) < (6 : Int32))).2.1 k) ?_
      show Ends p e below s T35 (mkF m 292 #[.val (.int p0), .val (.int p1), .val (.int p2), .val (.int p3), .val (.int p4), .val (.int p5), .val (.int c0), .val (.int c1), .val (.int d0), .val (.int d1), .val (.int md), .val (.ref ta), .val (.ref tb), .val (.int tx), .val (.ref b22), .val (.ref b29), .val (.int (1 : Int32)), .unset, .unset, .unset, .unset, .unset] []) _ _ _
      refine Ends.go (fun _ k => XS.aload X35.here hx rfl (hb hby at_292) rfl rfl k) ?_
      show Ends p e below s T35 (mkF m 294 #[.val (.int p0), .val (.int p1), .val (.int p2), .val (.int p3), .val (.int p4), .val (.int p5), .val (.int c0), .val (.int c1), .val (.int d0), .val (.int d1), .val (.int md), .val (.ref ta), .val (.ref tb), .val (.int tx), .val (.ref b22), .val (.ref b29), .val (.int (1 : Int32)), .unset, .unset, .unset, .unset, .unset] [(.ref b29)]) _ _ _
      refine Ends.go (fun _ k => XS.iload X35.here hx rfl (hb hby at_294) rfl k) ?_
      show Ends p e below s T35 (mkF m 296 #[.val (.int p0), .val (.int p1), .val (.int p2), .val (.int p3), .val (.int p4), .val (.int p5), .val (.int c0), .val (.int c1), .val (.int d0), .val (.int d1), .val (.int md), .val (.ref ta), .val (.ref tb), .val (.int tx), .val (.ref b22), .val (.ref b29), .val (.int (1 : Int32)), .unset, .unset, .unset, .unset, .unset] [(.int (1 : Int32)), (.ref b29)]) _ _ _
      refine Ends.go (fun _ k => XS.aload X35.here hx rfl (hb hby at_296) rfl rfl k) ?_
      show Ends p e below s T35 (mkF m 298 #[.val (.int p0), .val (.int p1), .val (.int p2), .val (.int p3), .val (.int p4), .val (.int p5), .val (.int c0), .val (.int c1), .val (.int d0), .val (.int d1), .val (.int md), .val (.ref ta), .val (.ref tb), .val (.int tx), .val (.ref b22), .val (.ref b29), .val (.int (1 : Int32)), .unset, .unset, .unset, .unset, .unset] [(.ref b29), (.int (1 : Int32)), (.ref b29)]) _ _ _
      refine Ends.go (fun _ k => XS.iload X35.here hx rfl (hb hby at_298) rfl k) ?_
      show Ends p e below s T35 (mkF m 300 #[.val (.int p0), .val (.int p1), .val (.int p2), .val (.int p3), .val (.int p4), .val (.int p5), .val (.int c0), .val (.int c1), .val (.int d0), .val (.int d1), .val (.int md), .val (.ref ta), .val (.ref tb), .val (.int tx), .val (.ref b22), .val (.ref b29), .val (.int (1 : Int32)), .unset, .unset, .unset, .unset, .unset] [(.int (1 : Int32)), (.ref b29), (.int (1 : Int32)), (.ref b29)]) _ _ _
      obtain ⟨cl42, Ar42, q42, S42, M42, H42, G42⟩ := id V35
      have hin42 := inb_of (j := (1 : Int32)) S42 ⟨by decide, by decide⟩
      refine Ends.go (X35.iaload hx (j := (1 : Int32)) (v := (.int p3)) (by rw [e35]; exact Ar42.1) (State.isArrayOf_alike hZ.alike Ar42.2.1) Ar42.2.2 hin42 (H42.at hin42 rfl) (g := (mkF m 300 #[.val (.int p0), .val (.int p1), .val (.int p2), .val (.int p3), .val (.int p4), .val (.int p5), .val (.int c0), .val (.int c1), .val (.int d0), .val (.int d1), .val (.int md), .val (.ref ta), .val (.ref tb), .val (.int tx), .val (.ref b22), .val (.ref b29), .val (.int (1 : Int32)), .unset, .unset, .unset, .unset, .unset] [(.int (1 : Int32)), (.ref b29), (.int (1 : Int32)), (.ref b29)])) rfl rfl (hb hby at_300)) ?_
      show Ends p e below s T35 (mkF m 301 #[.val (.int p0), .val (.int p1), .val (.int p2), .val (.int p3), .val (.int p4), .val (.int p5), .val (.int c0), .val (.int c1), .val (.int d0), .val (.int d1), .val (.int md), .val (.ref ta), .val (.ref tb), .val (.int tx), .val (.ref b22), .val (.ref b29), .val (.int (1 : Int32)), .unset, .unset, .unset, .unset, .unset] [(.int p3), (.int (1 : Int32)), (.ref b29)]) _ _ _
      refine Ends.go (fun _ k => XS.iload X35.here hx rfl (hb hby at_301) rfl k) ?_
      show Ends p e below s T35 (mkF m 303 #[.val (.int p0), .val (.int p1), .val (.int p2), .val (.int p3), .val (.int p4), .val (.int p5), .val (.int c0), .val (.int c1), .val (.int d0), .val (.int d1), .val (.int md), .val (.ref ta), .val (.ref tb), .val (.int tx), .val (.ref b22), .val (.ref b29), .val (.int (1 : Int32)), .unset, .unset, .unset, .unset, .unset] [(.int p5), (.int p3), (.int (1 : Int32)), (.ref b29)]) _ _ _
      refine Ends.go (fun _ k => XS.iadd X35.here hx rfl (hb hby at_303) rfl k) ?_
      show Ends p e below s T35 (mkF m 304 #[.val (.int p0), .val (.int p1), .val (.int p2), .val (.int p3), .val (.int p4), .val (.int p5), .val (.int c0), .val (.int c1), .val (.int d0), .val (.int d1), .val (.int md), .val (.ref ta), .val (.ref tb), .val (.int tx), .val (.ref b22), .val (.ref b29), .val (.int (1 : Int32)), .unset, .unset, .unset, .unset, .unset] [(.int (p3 + p5)), (.int (1 : Int32)), (.ref b29)]) _ _ _
      obtain ⟨cl43, Ar43, q43, S43, M43, H43, G43⟩ := id V35
      have hin43 := inb_of (j := (1 : Int32)) S43 ⟨by decide, by decide⟩
      obtain ⟨T43, h43, X43, e43, W43, st43⟩ := stI X35 hx hZ e35 Ar43 (j := (1 : Int32)) hin43 (g := (mkF m 304 #[.val (.int p0), .val (.int p1), .val (.int p2), .val (.int p3), .val (.int p4), .val (.int p5), .val (.int c0), .val (.int c1), .val (.int d0), .val (.int d1), .val (.int md), .val (.ref ta), .val (.ref tb), .val (.int tx), .val (.ref b22), .val (.ref b29), .val (.int (1 : Int32)), .unset, .unset, .unset, .unset, .unset] [(.int (p3 + p5)), (.int (1 : Int32)), (.ref b29)])) rfl rfl (hb hby at_304)
      refine Ends.go st43 ?_
      have V43 : Arv Z h43 b29 k29 .int (6 : Int32) [(.int p2), (.int (p3 + p5)), (.int (p2 ^^^ (-1 : Int32))), (.int (p3 ^^^ (-1 : Int32))), (.int (p2 ^^^ p3)), (.int (p2 - p3))] (.int (0 : Int32)) := Arv.set Ar43 q43 S43 M43 H43 G43 rfl W43 1 rfl (Nat.le_of_ble_eq_true rfl)
      have K43 := K35.wr W43 (Or.inr sz_b29)
      have O43 := O35.wr W43 g_b29
      have N43 := Fr.snoc X43 N35 g_b29
      show Ends p e below s T43 (mkF m 305 #[.val (.int p0), .val (.int p1), .val (.int p2), .val (.int p3), .val (.int p4), .val (.int p5), .val (.int c0), .val (.int c1), .val (.int d0), .val (.int d1), .val (.int md), .val (.ref ta), .val (.ref tb), .val (.int tx), .val (.ref b22), .val (.ref b29), .val (.int (1 : Int32)), .unset, .unset, .unset, .unset, .unset] []) _ _ _
      refine Ends.go (fun _ k => XS.iload X43.here hx rfl (hb hby at_305) rfl k) ?_
      show Ends p e below s T43 (mkF m 307 #[.val (.int p0), .val (.int p1), .val (.int p2), .val (.int p3), .val (.int p4), .val (.int p5), .val (.int c0), .val (.int c1), .val (.int d0), .val (.int d1), .val (.int md), .val (.ref ta), .val (.ref tb), .val (.int tx), .val (.ref b22), .val (.ref b29), .val (.int (1 : Int32)), .unset, .unset, .unset, .unset, .unset] [(.int (1 : Int32))]) _ _ _
      refine Ends.go (fun _ k => XS.bipush X43.here hx rfl (hb hby at_307) k) ?_
      show Ends p e below s T43 (mkF m 309 #[.val (.int p0), .val (.int p1), .val (.int p2), .val (.int p3), .val (.int p4), .val (.int p5), .val (.int c0), .val (.int c1), .val (.int d0), .val (.int d1), .val (.int md), .val (.ref ta), .val (.ref tb), .val (.int tx), .val (.ref b22), .val (.ref b29), .val (.int (1 : Int32)), .unset, .unset, .unset, .unset, .unset] [(.int (6 : Int32)), (.int (1 : Int32))]) _ _ _
      refine Ends.go (fun _ k => XS.icmpNo X43.here hx rfl (hb hby at_309) rfl (tlt (by decide : (1 : Int32) < (6 : Int32))).2.1 k) ?_
      show Ends p e below s T43 (mkF m 312 #[.val (.int p0), .val (.int p1), .val (.int p2), .val (.int p3), .val (.int p4), .val (.int p5), .val (.int c0), .val (.int c1), .val (.int d0), .val (.int d1), .val (.int md), .val (.ref ta), .val (.ref tb), .val (.int tx), .val (.ref b22), .val (.ref b29), .val (.int (1 : Int32)), .unset, .unset, .unset, .unset, .unset] []) _ _ _
      refine Ends.go (fun _ k => XS.iload X43.here hx rfl (hb hby at_312) rfl k) ?_
      show Ends p e below s T43 (mkF m 314 #[.val (.int p0), .val (.int p1), .val (.int p2), .val (.int p3), .val (.int p4), .val (.int p5), .val (.int c0), .val (.int c1), .val (.int d0), .val (.int d1), .val (.int md), .val (.ref ta), .val (.ref tb), .val (.int tx), .val (.ref b22), .val (.ref b29), .val (.int (1 : Int32)), .unset, .unset, .unset, .unset, .unset] [(.int p5)]) _ _ _
      by_cases hc314_44 : p5 = (0 : Int32)
      · refine Ends.go (fun _ k => XS.ifNo X43.here hx rfl (hb hby at_314) rfl ((if0 _ _).trans (teq hc314_44).2) k) ?_
        show Ends p e below s T43 (mkF m 317 #[.val (.int p0), .val (.int p1), .val (.int p2), .val (.int p3), .val (.int p4), .val (.int p5), .val (.int c0), .val (.int c1), .val (.int d0), .val (.int d1), .val (.int md), .val (.ref ta), .val (.ref tb), .val (.int tx), .val (.ref b22), .val (.ref b29), .val (.int (1 : Int32)), .unset, .unset, .unset, .unset, .unset] []) _ _ _
        refine Ends.go (fun _ k => XS.iconst X43.here hx rfl (hb hby at_317) k) ?_
        show Ends p e below s T43 (mkF m 318 #[.val (.int p0), .val (.int p1), .val (.int p2), .val (.int p3), .val (.int p4), .val (.int p5), .val (.int c0), .val (.int c1), .val (.int d0), .val (.int d1), .val (.int md), .val (.ref ta), .val (.ref tb), .val (.int tx), .val (.ref b22), .val (.ref b29), .val (.int (1 : Int32)), .unset, .unset, .unset, .unset, .unset] [(.int (1 : Int32))]) _ _ _
        refine Ends.go (fun _ k => XS.goto X43.here hx rfl (pc0 := 318) (pc' := 322) rfl (hb hby at_318) (by decide) (by decide) k) ?_
        show Ends p e below s T43 (mkF m 322 #[.val (.int p0), .val (.int p1), .val (.int p2), .val (.int p3), .val (.int p4), .val (.int p5), .val (.int c0), .val (.int c1), .val (.int d0), .val (.int d1), .val (.int md), .val (.ref ta), .val (.ref tb), .val (.int tx), .val (.ref b22), .val (.ref b29), .val (.int (1 : Int32)), .unset, .unset, .unset, .unset, .unset] [(.int (1 : Int32))]) _ _ _
        refine Ends.go (fun _ k => XS.istore X43.here hx rfl (hb hby at_322) rfl (l' := #[.val (.int p0), .val (.int p1), .val (.int p2), .val (.int p3), .val (.int p4), .val (.int p5), .val (.int c0), .val (.int c1), .val (.int d0), .val (.int d1), .val (.int md), .val (.ref ta), .val (.ref tb), .val (.int tx), .val (.ref b22), .val (.ref b29), .val (.int (1 : Int32)), .val (.int (1 : Int32)), .unset, .unset, .unset, .unset]) rfl k) ?_
        show Ends p e below s T43 (mkF m 324 #[.val (.int p0), .val (.int p1), .val (.int p2), .val (.int p3), .val (.int p4), .val (.int p5), .val (.int c0), .val (.int c1), .val (.int d0), .val (.int d1), .val (.int md), .val (.ref ta), .val (.ref tb), .val (.int tx), .val (.ref b22), .val (.ref b29), .val (.int (1 : Int32)), .val (.int (1 : Int32)), .unset, .unset, .unset, .unset] []) _ _ _
        refine Ends.go (fun _ k => XS.iload X43.here hx rfl (hb hby at_324) rfl k) ?_
        show Ends p e below s T43 (mkF m 326 #[.val (.int p0), .val (.int p1), .val (.int p2), .val (.int p3), .val (.int p4), .val (.int p5), .val (.int c0), .val (.int c1), .val (.int d0), .val (.int d1), .val (.int md), .val (.ref ta), .val (.ref tb), .val (.int tx), .val (.ref b22), .val (.ref b29), .val (.int (1 : Int32)), .val (.int (1 : Int32)), .unset, .unset, .unset, .unset] [(.int tx)]) _ _ _
        by_cases hc326_45 : tx = (0 : Int32)
        · refine Ends.go (fun _ k => XS.ifYes X43.here hx rfl (pc0 := 326) (pc' := 338) rfl (hb hby at_326) rfl ((if0 _ _).trans (teq hc326_45).1) (by decide) (by decide) k) ?_
          show Ends p e below s T43 (mkF m 338 #[.val (.int p0), .val (.int p1), .val (.int p2), .val (.int p3), .val (.int p4), .val (.int p5), .val (.int c0), .val (.int c1), .val (.int d0), .val (.int d1), .val (.int md), .val (.ref ta), .val (.ref tb), .val (.int tx), .val (.ref b22), .val (.ref b29), .val (.int (1 : Int32)), .val (.int (1 : Int32)), .unset, .unset, .unset, .unset] []) _ _ _
          refine Ends.go (fun _ k => XS.iconst X43.here hx rfl (hb hby at_338) k) ?_
          show Ends p e below s T43 (mkF m 339 #[.val (.int p0), .val (.int p1), .val (.int p2), .val (.int p3), .val (.int p4), .val (.int p5), .val (.int c0), .val (.int c1), .val (.int d0), .val (.int d1), .val (.int md), .val (.ref ta), .val (.ref tb), .val (.int tx), .val (.ref b22), .val (.ref b29), .val (.int (1 : Int32)), .val (.int (1 : Int32)), .unset, .unset, .unset, .unset] [(.int (0 : Int32))]) _ _ _
          refine Ends.go (fun _ k => XS.istore X43.here hx rfl (hb hby at_339) rfl (l' := #[.val (.int p0), .val (.int p1), .val (.int p2), .val (.int p3), .val (.int p4), .val (.int p5), .val (.int c0), .val (.int c1), .val (.int d0), .val (.int d1), .val (.int md), .val (.ref ta), .val (.ref tb), .val (.int tx), .val (.ref b22), .val (.ref b29), .val (.int (1 : Int32)), .val (.int (1 : Int32)), .val (.int (0 : Int32)), .unset, .unset, .unset]) rfl k) ?_
          show Ends p e below s T43 (mkF m 341 #[.val (.int p0), .val (.int p1), .val (.int p2), .val (.int p3), .val (.int p4), .val (.int p5), .val (.int c0), .val (.int c1), .val (.int d0), .val (.int d1), .val (.int md), .val (.ref ta), .val (.ref tb), .val (.int tx), .val (.ref b22), .val (.ref b29), .val (.int (1 : Int32)), .val (.int (1 : Int32)), .val (.int (0 : Int32)), .unset, .unset, .unset] []) _ _ _
          exact J341 _ _ _ _ _ _ _ _ _ _ p2 (p3 + p5) (p2 ^^^ (-1 : Int32)) (p3 ^^^ (-1 : Int32)) (p2 ^^^ p3) (p2 - p3) X43 e43 O43 N43 K43 ⟨(((((((((((((((Ea.ext E22).wr W23).wr W24).wr W25).wr W26).wr W27).wr W28).ext E29).wr W30).wr W31).wr W32).wr W33).wr W34).wr W35).wr W43), (((((((((((((((Va.ext E22).other W23 (Or.inl ne_ta_b22)).other W24 (Or.inl ne_ta_b22)).other W25 (Or.inl ne_ta_b22)).other W26 (Or.inl ne_ta_b22)).other W27 (Or.inl ne_ta_b22)).other W28 (Or.inl ne_ta_b22)).ext E29).other W30 (Or.inl ne_ta_b29)).other W31 (Or.inl ne_ta_b29)).other W32 (Or.inl ne_ta_b29)).other W33 (Or.inl ne_ta_b29)).other W34 (Or.inl ne_ta_b29)).other W35 (Or.inl ne_ta_b29)).other W43 (Or.inl ne_ta_b29)), (((((((((((((((Ca.ext E22).other W23 (Or.inl ne_ta_b22)).other W24 (Or.inl ne_ta_b22)).other W25 (Or.inl ne_ta_b22)).other W26 (Or.inl ne_ta_b22)).other W27 (Or.inl ne_ta_b22)).other W28 (Or.inl ne_ta_b22)).ext E29).other W30 (Or.inl ne_ta_b29)).other W31 (Or.inl ne_ta_b29)).other W32 (Or.inl ne_ta_b29)).other W33 (Or.inl ne_ta_b29)).other W34 (Or.inl ne_ta_b29)).other W35 (Or.inl ne_ta_b29)).other W43 (Or.inl ne_ta_b29)), (((((((((((((((Aa.ext E22).other W23 ne_t1_b22).other W24 ne_t1_b22).other W25 ne_t1_b22).other W26 ne_t1_b22).other W27 ne_t1_b22).other W28 ne_t1_b22).ext E29).other W30 ne_t1_b29).other W31 ne_t1_b29).other W32 ne_t1_b29).other W33 ne_t1_b29).other W34 ne_t1_b29).other W35 ne_t1_b29).other W43 ne_t1_b29), SA.2.2.2.2⟩ ⟨(((((((((((((((Eb.ext E22).wr W23).wr W24).wr W25).wr W26).wr W27).wr W28).ext E29).wr W30).wr W31).wr W32).wr W33).wr W34).wr W35).wr W43), (((((((((((((((Vb.ext E22).other W23 (Or.inl ne_tb_b22)).other W24 (Or.inl ne_tb_b22)).other W25 (Or.inl ne_tb_b22)).other W26 (Or.inl ne_tb_b22)).other W27 (Or.inl ne_tb_b22)).other W28 (Or.inl ne_tb_b22)).ext E29).other W30 (Or.inl ne_tb_b29)).other W31 (Or.inl ne_tb_b29)).other W32 (Or.inl ne_tb_b29)).other W33 (Or.inl ne_tb_b29)).other W34 (Or.inl ne_tb_b29)).other W35 (Or.inl ne_tb_b29)).other W43 (Or.inl ne_tb_b29)), (((((((((((((((Cb.ext E22).other W23 (Or.inl ne_tb_b22)).other W24 (Or.inl ne_tb_b22)).other W25 (Or.inl ne_tb_b22)).other W26 (Or.inl ne_tb_b22)).other W27 (Or.inl ne_tb_b22)).other W28 (Or.inl ne_tb_b22)).ext E29).other W30 (Or.inl ne_tb_b29)).other W31 (Or.inl ne_tb_b29)).other W32 (Or.inl ne_tb_b29)).other W33 (Or.inl ne_tb_b29)).other W34 (Or.inl ne_tb_b29)).other W35 (Or.inl ne_tb_b29)).other W43 (Or.inl ne_tb_b29)), (((((((((((((((Ab.ext E22).other W23 ne_t2_b22).other W24 ne_t2_b22).other W25 ne_t2_b22).other W26 ne_t2_b22).other W27 ne_t2_b22).other W28 ne_t2_b22).ext E29).other W30 ne_t2_b29).other W31 ne_t2_b29).other W32 ne_t2_b29).other W33 ne_t2_b29).other W34 ne_t2_b29).other W35 ne_t2_b29).other W43 ne_t2_b29), SB.2.2.2.2⟩ ((((((((V28.ext E29).other W30 ne_b22_b29).other W31 ne_b22_b29).other W32 ne_b22_b29).other W33 ne_b22_b29).other W34 ne_b22_b29).other W35 ne_b22_b29).other W43 ne_b22_b29) V43 (Or.inr ⟨rfl, fun q => own_tx0 htx hc326_45 q.1⟩)
        · refine Ends.go (fun _ k => XS.ifNo X43.here hx rfl (hb hby at_326) rfl ((if0 _ _).trans (feq hc326_45).1) k) ?_
          show Ends p e below s T43 (mkF m 329 #[.val (.int p0), .val (.int p1), .val (.int p2), .val (.int p3), .val (.int p4), .val (.int p5), .val (.int c0), .val (.int c1), .val (.int d0), .val (.int d1), .val (.int md), .val (.ref ta), .val (.ref tb), .val (.int tx), .val (.ref b22), .val (.ref b29), .val (.int (1 : Int32)), .val (.int (1 : Int32)), .unset, .unset, .unset, .unset] []) _ _ _
          refine Ends.go (fun _ k => XS.iload X43.here hx rfl (hb hby at_329) rfl k) ?_
          show Ends p e below s T43 (mkF m 331 #[.val (.int p0), .val (.int p1), .val (.int p2), .val (.int p3), .val (.int p4), .val (.int p5), .val (.int c0), .val (.int c1), .val (.int d0), .val (.int d1), .val (.int md), .val (.ref ta), .val (.ref tb), .val (.int tx), .val (.ref b22), .val (.ref b29), .val (.int (1 : Int32)), .val (.int (1 : Int32)), .unset, .unset, .unset, .unset] [(.int (1 : Int32))]) _ _ _
          refine Ends.go (fun _ k => XS.ifNo X43.here hx rfl (hb hby at_331) rfl ((if0 _ _).trans (feq (by decide : ¬ ((1 : Int32) = (0 : Int32)))).1) k) ?_
          show Ends p e below s T43 (mkF m 334 #[.val (.int p0), .val (.int p1), .val (.int p2), .val (.int p3), .val (.int p4), .val (.int p5), .val (.int c0), .val (.int c1), .val (.int d0), .val (.int d1), .val (.int md), .val (.ref ta), .val (.ref tb), .val (.int tx), .val (.ref b22), .val (.ref b29), .val (.int (1 : Int32)), .val (.int (1 : Int32)), .unset, .unset, .unset, .unset] []) _ _ _
          refine Ends.go (fun _ k => XS.iconst X43.here hx rfl (hb hby at_334) k) ?_
          show Ends p e below s T43 (mkF m 335 #[.val (.int p0), .val (.int p1), .val (.int p2), .val (.int p3), .val (.int p4), .val (.int p5), .val (.int c0), .val (.int c1), .val (.int d0), .val (.int d1), .val (.int md), .val (.ref ta), .val (.ref tb), .val (.int tx), .val (.ref b22), .val (.ref b29), .val (.int (1 : Int32)), .val (.int (1 : Int32)), .unset, .unset, .unset, .unset] [(.int (1 : Int32))]) _ _ _
          refine Ends.go (fun _ k => XS.goto X43.here hx rfl (pc0 := 335) (pc' := 339) rfl (hb hby at_335) (by decide) (by decide) k) ?_
          show Ends p e below s T43 (mkF m 339 #[.val (.int p0), .val (.int p1), .val (.int p2), .val (.int p3), .val (.int p4), .val (.int p5), .val (.int c0), .val (.int c1), .val (.int d0), .val (.int d1), .val (.int md), .val (.ref ta), .val (.ref tb), .val (.int tx), .val (.ref b22), .val (.ref b29), .val (.int (1 : Int32)), .val (.int (1 : Int32)), .unset, .unset, .unset, .unset] [(.int (1 : Int32))]) _ _ _
          refine Ends.go (fun _ k => XS.istore X43.here hx rfl (hb hby at_339) rfl (l' := #[.val (.int p0), .val (.int p1), .val (.int p2), .val (.int p3), .val (.int p4), .val (.int p5), .val (.int c0), .val (.int c1), .val (.int d0), .val (.int d1), .val (.int md), .val (.ref ta), .val (.ref tb), .val (.int tx), .val (.ref b22), .val (.ref b29), .val (.int (1 : Int32)), .val (.int (1 : Int32)), .val (.int (1 : Int32)), .unset, .unset, .unset]) rfl k) ?_
          show Ends p e below s T43 (mkF m 341 #[.val (.int p0), .val (.int p1), .val (.int p2), .val (.int p3), .val (.int p4), .val (.int p5), .val (.int c0), .val (.int c1), .val (.int d0), .val (.int d1), .val (.int md), .val (.ref ta), .val (.ref tb), .val (.int tx), .val (.ref b22), .val (.ref b29), .val (.int (1 : Int32)), .val (.int (1 : Int32)), .val (.int (1 : Int32)), .unset, .unset, .unset] []) _ _ _
          exact J341 _ _ _ _ _ _ _ _ _ _ p2 (p3 + p5) (p2 ^^^ (-1 : Int32)) (p3 ^^^ (-1 : Int32)) (p2 ^^^ p3) (p2 - p3) X43 e43 O43 N43 K43 ⟨(((((((((((((((Ea.ext E22).wr W23).wr W24).wr W25).wr W26).wr W27).wr W28).ext E29).wr W30).wr W31).wr W32).wr W33).wr W34).wr W35).wr W43), (((((((((((((((Va.ext E22).other W23 (Or.inl ne_ta_b22)).other W24 (Or.inl ne_ta_b22)).other W25 (Or.inl ne_ta_b22)).other W26 (Or.inl ne_ta_b22)).other W27 (Or.inl ne_ta_b22)).other W28 (Or.inl ne_ta_b22)).ext E29).other W30 (Or.inl ne_ta_b29)).other W31 (Or.inl ne_ta_b29)).other W32 (Or.inl ne_ta_b29)).other W33 (Or.inl ne_ta_b29)).other W34 (Or.inl ne_ta_b29)).other W35 (Or.inl ne_ta_b29)).other W43 (Or.inl ne_ta_b29)), (((((((((((((((Ca.ext E22).other W23 (Or.inl ne_ta_b22)).other W24 (Or.inl ne_ta_b22)).other W25 (Or.inl ne_ta_b22)).other W26 (Or.inl ne_ta_b22)).other W27 (Or.inl ne_ta_b22)).other W28 (Or.inl ne_ta_b22)).ext E29).other W30 (Or.inl ne_ta_b29)).other W31 (Or.inl ne_ta_b29)).other W32 (Or.inl ne_ta_b29)).other W33 (Or.inl ne_ta_b29)).other W34 (Or.inl ne_ta_b29)).other W35 (Or.inl ne_ta_b29)).other W43 (Or.inl ne_ta_b29)), (((((((((((((((Aa.ext E22).other W23 ne_t1_b22).other W24 ne_t1_b22).other W25 ne_t1_b22).other W26 ne_t1_b22).other W27 ne_t1_b22).other W28 ne_t1_b22).ext E29).other W30 ne_t1_b29).other W31 ne_t1_b29).other W32 ne_t1_b29).other W33 ne_t1_b29).other W34 ne_t1_b29).other W35 ne_t1_b29).other W43 ne_t1_b29), SA.2.2.2.2⟩ ⟨(((((((((((((((Eb.ext E22).wr W23).wr W24).wr W25).wr W26).wr W27).wr W28).ext E29).wr W30).wr W31).wr W32).wr W33).wr W34).wr W35).wr W43), (((((((((((((((Vb.ext E22).other W23 (Or.inl ne_tb_b22)).other W24 (Or.inl ne_tb_b22)).other W25 (Or.inl ne_tb_b22)).other W26 (Or.inl ne_tb_b22)).other W27 (Or.inl ne_tb_b22)).other W28 (Or.inl ne_tb_b22)).ext E29).other W30 (Or.inl ne_tb_b29)).other W31 (Or.inl ne_tb_b29)).other W32 (Or.inl ne_tb_b29)).other W33 (Or.inl ne_tb_b29)).other W34 (Or.inl ne_tb_b29)).other W35 (Or.inl ne_tb_b29)).other W43 (Or.inl ne_tb_b29)), (((((((((((((((Cb.ext E22).other W23 (Or.inl ne_tb_b22)).other W24 (Or.inl ne_tb_b22)).other W25 (Or.inl ne_tb_b22)).other W26 (Or.inl ne_tb_b22)).other W27 (Or.inl ne_tb_b22)).other W28 (Or.inl ne_tb_b22)).ext E29).other W30 (Or.inl ne_tb_b29)).other W31 (Or.inl ne_tb_b29)).other W32 (Or.inl ne_tb_b29)).other W33 (Or.inl ne_tb_b29)).other W34 (Or.inl ne_tb_b29)).other W35 (Or.inl ne_tb_b29)).other W43 (Or.inl ne_tb_b29)), (((((((((((((((Ab.ext E22).other W23 ne_t2_b22).other W24 ne_t2_b22).other W25 ne_t2_b22).other W26 ne_t2_b22).other W27 ne_t2_b22).other W28 ne_t2_b22).ext E29).other W30 ne_t2_b29).other W31 ne_t2_b29).other W32 ne_t2_b29).other W33 ne_t2_b29).other W34 ne_t2_b29).other W35 ne_t2_b29).other W43 ne_t2_b29), SB.2.2.2.2⟩ ((((((((V28.ext E29).other W30 ne_b22_b29).other W31 ne_b22_b29).other W32 ne_b22_b29).other W33 ne_b22_b29).other W34 ne_b22_b29).other W35 ne_b22_b29).other W43 ne_b22_b29) V43 (Or.inl ⟨rfl, own_tx1 htx hc326_45, rfl, (own_add0 hc314_44), rfl, rfl, rfl, rfl⟩)
      · refine Ends.go (fun _ k => XS.ifYes X43.here hx rfl (pc0 := 314) (pc' := 321) rfl (hb hby at_314) rfl ((if0 _ _).trans (feq hc314_44).2) (by decide) (by decide) k) ?_
        show Ends p e below s T43 (mkF m 321 #[.val (.int p0), .val (.int p1), .val (.int p2), .val (.int p3), .val (.int p4), .val (.int p5), .val (.int c0), .val (.int c1), .val (.int d0), .val (.int d1), .val (.int md), .val (.ref ta), .val (.ref tb), .val (.int tx), .val (.ref b22), .val (.ref b29), .val (.int (1 : Int32)), .unset, .unset, .unset, .unset, .unset] []) _ _ _
        refine Ends.go (fun _ k => XS.iconst X43.here hx rfl (hb hby at_321) k) ?_
        show Ends p e below s T43 (mkF m 322 #[.val (.int p0), .val (.int p1), .val (.int p2), .val (.int p3), .val (.int p4), .val (.int p5), .val (.int c0), .val (.int c1), .val (.int d0), .val (.int d1), .val (.int md), .val (.ref ta), .val (.ref tb), .val (.int tx), .val (.ref b22), .val (.ref b29), .val (.int (1 : Int32)), .unset, .unset, .unset, .unset, .unset] [(.int (0 : Int32))]) _ _ _
        refine Ends.go (fun _ k => XS.istore X43.here hx rfl (hb hby at_322) rfl (l' := #[.val (.int p0), .val (.int p1), .val (.int p2), .val (.int p3), .val (.int p4), .val (.int p5), .val (.int c0), .val (.int c1), .val (.int d0), .val (.int d1), .val (.int md), .val (.ref ta), .val (.ref tb), .val (.int tx), .val (.ref b22), .val (.ref b29), .val (.int (1 : Int32)), .val (.int (0 : Int32)), .unset, .unset, .unset, .unset]) rfl k) ?_
        show Ends p e below s T43 (mkF m 324 #[.val (.int p0), .val (.int p1), .val (.int p2), .val (.int p3), .val (.int p4), .val (.int p5), .val (.int c0), .val (.int c1), .val (.int d0), .val (.int d1), .val (.int md), .val (.ref ta), .val (.ref tb), .val (.int tx), .val (.ref b22), .val (.ref b29), .val (.int (1 : Int32)), .val (.int (0 : Int32)), .unset, .unset, .unset, .unset] []) _ _ _
        refine Ends.go (fun _ k => XS.iload X43.here hx rfl (hb hby at_324) rfl k) ?_
        show Ends p e below s T43 (mkF m 326 #[.val (.int p0), .val (.int p1), .val (.int p2), .val (.int p3), .val (.int p4), .val (.int p5), .val (.int c0), .val (.int c1), .val (.int d0), .val (.int d1), .val (.int md), .val (.ref ta), .val (.ref tb), .val (.int tx), .val (.ref b22), .val (.ref b29), .val (.int (1 : Int32)), .val (.int (0 : Int32)), .unset, .unset, .unset, .unset] [(.int tx)]) _ _ _
        by_cases hc326_46 : tx = (0 : Int32)
        · refine Ends.go (fun _ k => XS.ifYes X43.here hx rfl (pc0 := 326) (pc' := 338) rfl (hb hby at_326) rfl ((if0 _ _).trans (teq hc326_46).1) (by decide) (by decide) k) ?_
          show Ends p e below s T43 (mkF m 338 #[.val (.int p0), .val (.int p1), .val (.int p2), .val (.int p3), .val (.int p4), .val (.int p5), .val (.int c0), .val (.int c1), .val (.int d0), .val (.int d1), .val (.int md), .val (.ref ta), .val (.ref tb), .val (.int tx), .val (.ref b22), .val (.ref b29), .val (.int (1 : Int32)), .val (.int (0 : Int32)), .unset, .unset, .unset, .unset] []) _ _ _
          refine Ends.go (fun _ k => XS.iconst X43.here hx rfl (hb hby at_338) k) ?_
          show Ends p e below s T43 (mkF m 339 #[.val (.int p0), .val (.int p1), .val (.int p2), .val (.int p3), .val (.int p4), .val (.int p5), .val (.int c0), .val (.int c1), .val (.int d0), .val (.int d1), .val (.int md), .val (.ref ta), .val (.ref tb), .val (.int tx), .val (.ref b22), .val (.ref b29), .val (.int (1 : Int32)), .val (.int (0 : Int32)), .unset, .unset, .unset, .unset] [(.int (0 : Int32))]) _ _ _
          refine Ends.go (fun _ k => XS.istore X43.here hx rfl (hb hby at_339) rfl (l' := #[.val (.int p0), .val (.int p1), .val (.int p2), .val (.int p3), .val (.int p4), .val (.int p5), .val (.int c0), .val (.int c1), .val (.int d0), .val (.int d1), .val (.int md), .val (.ref ta), .val (.ref tb), .val (.int tx), .val (.ref b22), .val (.ref b29), .val (.int (1 : Int32)), .val (.int (0 : Int32)), .val (.int (0 : Int32)), .unset, .unset, .unset]) rfl k) ?_
          show Ends p e below s T43 (mkF m 341 #[.val (.int p0), .val (.int p1), .val (.int p2), .val (.int p3), .val (.int p4), .val (.int p5), .val (.int c0), .val (.int c1), .val (.int d0), .val (.int d1), .val (.int md), .val (.ref ta), .val (.ref tb), .val (.int tx), .val (.ref b22), .val (.ref b29), .val (.int (1 : Int32)), .val (.int (0 : Int32)), .val (.int (0 : Int32)), .unset, .unset, .unset] []) _ _ _
          exact J341 _ _ _ _ _ _ _ _ _ _ p2 (p3 + p5) (p2 ^^^ (-1 : Int32)) (p3 ^^^ (-1 : Int32)) (p2 ^^^ p3) (p2 - p3) X43 e43 O43 N43 K43 ⟨(((((((((((((((Ea.ext E22).wr W23).wr W24).wr W25).wr W26).wr W27).wr W28).ext E29).wr W30).wr W31).wr W32).wr W33).wr W34).wr W35).wr W43), (((((((((((((((Va.ext E22).other W23 (Or.inl ne_ta_b22)).other W24 (Or.inl ne_ta_b22)).other W25 (Or.inl ne_ta_b22)).other W26 (Or.inl ne_ta_b22)).other W27 (Or.inl ne_ta_b22)).other W28 (Or.inl ne_ta_b22)).ext E29).other W30 (Or.inl ne_ta_b29)).other W31 (Or.inl ne_ta_b29)).other W32 (Or.inl ne_ta_b29)).other W33 (Or.inl ne_ta_b29)).other W34 (Or.inl ne_ta_b29)).other W35 (Or.inl ne_ta_b29)).other W43 (Or.inl ne_ta_b29)), (((((((((((((((Ca.ext E22).other W23 (Or.inl ne_ta_b22)).other W24 (Or.inl ne_ta_b22)).other W25 (Or.inl ne_ta_b22)).other W26 (Or.inl ne_ta_b22)).other W27 (Or.inl ne_ta_b22)).other W28 (Or.inl ne_ta_b22)).ext E29).other W30 (Or.inl ne_ta_b29)).other W31 (Or.inl ne_ta_b29)).other W32 (Or.inl ne_ta_b29)).other W33 (Or.inl ne_ta_b29)).other W34 (Or.inl ne_ta_b29)).other W35 (Or.inl ne_ta_b29)).other W43 (Or.inl ne_ta_b29)), (((((((((((((((Aa.ext E22).other W23 ne_t1_b22).other W24 ne_t1_b22).other W25 ne_t1_b22).other W26 ne_t1_b22).other W27 ne_t1_b22).other W28 ne_t1_b22).ext E29).other W30 ne_t1_b29).other W31 ne_t1_b29).other W32 ne_t1_b29).other W33 ne_t1_b29).other W34 ne_t1_b29).other W35 ne_t1_b29).other W43 ne_t1_b29), SA.2.2.2.2⟩ ⟨(((((((((((((((Eb.ext E22).wr W23).wr W24).wr W25).wr W26).wr W27).wr W28).ext E29).wr W30).wr W31).wr W32).wr W33).wr W34).wr W35).wr W43), (((((((((((((((Vb.ext E22).other W23 (Or.inl ne_tb_b22)).other W24 (Or.inl ne_tb_b22)).other W25 (Or.inl ne_tb_b22)).other W26 (Or.inl ne_tb_b22)).other W27 (Or.inl ne_tb_b22)).other W28 (Or.inl ne_tb_b22)).ext E29).other W30 (Or.inl ne_tb_b29)).other W31 (Or.inl ne_tb_b29)).other W32 (Or.inl ne_tb_b29)).other W33 (Or.inl ne_tb_b29)).other W34 (Or.inl ne_tb_b29)).other W35 (Or.inl ne_tb_b29)).other W43 (Or.inl ne_tb_b29)), (((((((((((((((Cb.ext E22).other W23 (Or.inl ne_tb_b22)).other W24 (Or.inl ne_tb_b22)).other W25 (Or.inl ne_tb_b22)).other W26 (Or.inl ne_tb_b22)).other W27 (Or.inl ne_tb_b22)).other W28 (Or.inl ne_tb_b22)).ext E29).other W30 (Or.inl ne_tb_b29)).other W31 (Or.inl ne_tb_b29)).other W32 (Or.inl ne_tb_b29)).other W33 (Or.inl ne_tb_b29)).other W34 (Or.inl ne_tb_b29)).other W35 (Or.inl ne_tb_b29)).other W43 (Or.inl ne_tb_b29)), (((((((((((((((Ab.ext E22).other W23 ne_t2_b22).other W24 ne_t2_b22).other W25 ne_t2_b22).other W26 ne_t2_b22).other W27 ne_t2_b22).other W28 ne_t2_b22).ext E29).other W30 ne_t2_b29).other W31 ne_t2_b29).other W32 ne_t2_b29).other W33 ne_t2_b29).other W34 ne_t2_b29).other W35 ne_t2_b29).other W43 ne_t2_b29), SB.2.2.2.2⟩ ((((((((V28.ext E29).other W30 ne_b22_b29).other W31 ne_b22_b29).other W32 ne_b22_b29).other W33 ne_b22_b29).other W34 ne_b22_b29).other W35 ne_b22_b29).other W43 ne_b22_b29) V43 (Or.inr ⟨rfl, fun q => own_tx0 htx hc326_46 q.1⟩)
        · refine Ends.go (fun _ k => XS.ifNo X43.here hx rfl (hb hby at_326) rfl ((if0 _ _).trans (feq hc326_46).1) k) ?_
          show Ends p e below s T43 (mkF m 329 #[.val (.int p0), .val (.int p1), .val (.int p2), .val (.int p3), .val (.int p4), .val (.int p5), .val (.int c0), .val (.int c1), .val (.int d0), .val (.int d1), .val (.int md), .val (.ref ta), .val (.ref tb), .val (.int tx), .val (.ref b22), .val (.ref b29), .val (.int (1 : Int32)), .val (.int (0 : Int32)), .unset, .unset, .unset, .unset] []) _ _ _
          refine Ends.go (fun _ k => XS.iload X43.here hx rfl (hb hby at_329) rfl k) ?_
          show Ends p e below s T43 (mkF m 331 #[.val (.int p0), .val (.int p1), .val (.int p2), .val (.int p3), .val (.int p4), .val (.int p5), .val (.int c0), .val (.int c1), .val (.int d0), .val (.int d1), .val (.int md), .val (.ref ta), .val (.ref tb), .val (.int tx), .val (.ref b22), .val (.ref b29), .val (.int (1 : Int32)), .val (.int (0 : Int32)), .unset, .unset, .unset, .unset] [(.int (0 : Int32))]) _ _ _
          refine Ends.go (fun _ k => XS.ifYes X43.here hx rfl (pc0 := 331) (pc' := 338) rfl (hb hby at_331) rfl ((if0 _ _).trans (teq (by decide : (0 : Int32) = (0 : Int32))).1) (by decide) (by decide) k) ?_
          show Ends p e below s T43 (mkF m 338 #[.val (.int p0), .val (.int p1), .val (.int p2), .val (.int p3), .val (.int p4), .val (.int p5), .val (.int c0), .val (.int c1), .val (.int d0), .val (.int d1), .val (.int md), .val (.ref ta), .val (.ref tb), .val (.int tx), .val (.ref b22), .val (.ref b29), .val (.int (1 : Int32)), .val (.int (0 : Int32)), .unset, .unset, .unset, .unset] []) _ _ _
          refine Ends.go (fun _ k => XS.iconst X43.here hx rfl (hb hby at_338) k) ?_
          show Ends p e below s T43 (mkF m 339 #[.val (.int p0), .val (.int p1), .val (.int p2), .val (.int p3), .val (.int p4), .val (.int p5), .val (.int c0), .val (.int c1), .val (.int d0), .val (.int d1), .val (.int md), .val (.ref ta), .val (.ref tb), .val (.int tx), .val (.ref b22), .val (.ref b29), .val (.int (1 : Int32)), .val (.int (0 : Int32)), .unset, .unset, .unset, .unset] [(.int (0 : Int32))]) _ _ _
          refine Ends.go (fun _ k => XS.istore X43.here hx rfl (hb hby at_339) rfl (l' := #[.val (.int p0), .val (.int p1), .val (.int p2), .val (.int p3), .val (.int p4), .val (.int p5), .val (.int c0), .val (.int c1), .val (.int d0), .val (.int d1), .val (.int md), .val (.ref ta), .val (.ref tb), .val (.int tx), .val (.ref b22), .val (.ref b29), .val (.int (1 : Int32)), .val (.int (0 : Int32)), .val (.int (0 : Int32)), .unset, .unset, .unset]) rfl k) ?_
          show Ends p e below s T43 (mkF m 341 #[.val (.int p0), .val (.int p1), .val (.int p2), .val (.int p3), .val (.int p4), .val (.int p5), .val (.int c0), .val (.int c1), .val (.int d0), .val (.int d1), .val (.int md), .val (.ref ta), .val (.ref tb), .val (.int tx), .val (.ref b22), .val (.ref b29), .val (.int (1 : Int32)), .val (.int (0 : Int32)), .val (.int (0 : Int32)), .unset, .unset, .unset] []) _ _ _
          exact J341 _ _ _ _ _ _ _ _ _ _ p2 (p3 + p5) (p2 ^^^ (-1 : Int32)) (p3 ^^^ (-1 : Int32)) (p2 ^^^ p3) (p2 - p3) X43 e43 O43 N43 K43 ⟨(((((((((((((((Ea.ext E22).wr W23).wr W24).wr W25).wr W26).wr W27).wr W28).ext E29).wr W30).wr W31).wr W32).wr W33).wr W34).wr W35).wr W43), (((((((((((((((Va.ext E22).other W23 (Or.inl ne_ta_b22)).other W24 (Or.inl ne_ta_b22)).other W25 (Or.inl ne_ta_b22)).other W26 (Or.inl ne_ta_b22)).other W27 (Or.inl ne_ta_b22)).other W28 (Or.inl ne_ta_b22)).ext E29).other W30 (Or.inl ne_ta_b29)).other W31 (Or.inl ne_ta_b29)).other W32 (Or.inl ne_ta_b29)).other W33 (Or.inl ne_ta_b29)).other W34 (Or.inl ne_ta_b29)).other W35 (Or.inl ne_ta_b29)).other W43 (Or.inl ne_ta_b29)), (((((((((((((((Ca.ext E22).other W23 (Or.inl ne_ta_b22)).other W24 (Or.inl ne_ta_b22)).other W25 (Or.inl ne_ta_b22)).other W26 (Or.inl ne_ta_b22)).other W27 (Or.inl ne_ta_b22)).other W28 (Or.inl ne_ta_b22)).ext E29).other W30 (Or.inl ne_ta_b29)).other W31 (Or.inl ne_ta_b29)).other W32 (Or.inl ne_ta_b29)).other W33 (Or.inl ne_ta_b29)).other W34 (Or.inl ne_ta_b29)).other W35 (Or.inl ne_ta_b29)).other W43 (Or.inl ne_ta_b29)), (((((((((((((((Aa.ext E22).other W23 ne_t1_b22).other W24 ne_t1_b22).other W25 ne_t1_b22).other W26 ne_t1_b22).other W27 ne_t1_b22).other W28 ne_t1_b22).ext E29).other W30 ne_t1_b29).other W31 ne_t1_b29).other W32 ne_t1_b29).other W33 ne_t1_b29).other W34 ne_t1_b29).other W35 ne_t1_b29).other W43 ne_t1_b29), SA.2.2.2.2⟩ ⟨(((((((((((((((Eb.ext E22).wr W23).wr W24).wr W25).wr W26).wr W27).wr W28).ext E29).wr W30).wr W31).wr W32).wr W33).wr W34).wr W35).wr W43), (((((((((((((((Vb.ext E22).other W23 (Or.inl ne_tb_b22)).other W24 (Or.inl ne_tb_b22)).other W25 (Or.inl ne_tb_b22)).other W26 (Or.inl ne_tb_b22)).other W27 (Or.inl ne_tb_b22)).other W28 (Or.inl ne_tb_b22)).ext E29).other W30 (Or.inl ne_tb_b29)).other W31 (Or.inl ne_tb_b29)).other W32 (Or.inl ne_tb_b29)).other W33 (Or.inl ne_tb_b29)).other W34 (Or.inl ne_tb_b29)).other W35 (Or.inl ne_tb_b29)).other W43 (Or.inl ne_tb_b29)), (((((((((((((((Cb.ext E22).other W23 (Or.inl ne_tb_b22)).other W24 (Or.inl ne_tb_b22)).other W25 (Or.inl ne_tb_b22)).other W26 (Or.inl ne_tb_b22)).other W27 (Or.inl ne_tb_b22)).other W28 (Or.inl ne_tb_b22)).ext E29).other W30 (Or.inl ne_tb_b29)).other W31 (Or.inl ne_tb_b29)).other W32 (Or.inl ne_tb_b29)).other W33 (Or.inl ne_tb_b29)).other W34 (Or.inl ne_tb_b29)).other W35 (Or.inl ne_tb_b29)).other W43 (Or.inl ne_tb_b29)), (((((((((((((((Ab.ext E22).other W23 ne_t2_b22).other W24 ne_t2_b22).other W25 ne_t2_b22).other W26 ne_t2_b22).other W27 ne_t2_b22).other W28 ne_t2_b22).ext E29).other W30 ne_t2_b29).other W31 ne_t2_b29).other W32 ne_t2_b29).other W33 ne_t2_b29).other W34 ne_t2_b29).other W35 ne_t2_b29).other W43 ne_t2_b29), SB.2.2.2.2⟩ ((((((((V28.ext E29).other W30 ne_b22_b29).other W31 ne_b22_b29).other W32 ne_b22_b29).other W33 ne_b22_b29).other W34 ne_b22_b29).other W35 ne_b22_b29).other W43 ne_b22_b29) V43 (Or.inr ⟨rfl, fun ⟨zz, z0, z1, z2, z3, z4, z5⟩ => own_addne hc314_44 z1⟩)
    · show Ends p e below s T35 (mkF m 283 #[.val (.int p0), .val (.int p1), .val (.int p2), .val (.int p3), .val (.int p4), .val (.int p5), .val (.int c0), .val (.int c1), .val (.int d0), .val (.int d1), .val (.int md), .val (.ref ta), .val (.ref tb), .val (.int tx), .val (.ref b22), .val (.ref b29), .unset, .unset, .unset, .unset, .unset, .unset] [(.int (2 : Int32))]) _ _ _
      refine Ends.go (fun _ k => XS.istore X35.here hx rfl (hb hby at_283) rfl (l' := #[.val (.int p0), .val (.int p1), .val (.int p2), .val (.int p3), .val (.int p4), .val (.int p5), .val (.int c0), .val (.int c1), .val (.int d0), .val (.int d1), .val (.int md), .val (.ref ta), .val (.ref tb), .val (.int tx), .val (.ref b22), .val (.ref b29), .val (.int (2 : Int32)), .unset, .unset, .unset, .unset, .unset]) rfl k) ?_
      show Ends p e below s T35 (mkF m 285 #[.val (.int p0), .val (.int p1), .val (.int p2), .val (.int p3), .val (.int p4), .val (.int p5), .val (.int c0), .val (.int c1), .val (.int d0), .val (.int d1), .val (.int md), .val (.ref ta), .val (.ref tb), .val (.int tx), .val (.ref b22), .val (.ref b29), .val (.int (2 : Int32)), .unset, .unset, .unset, .unset, .unset] []) _ _ _
      refine Ends.go (fun _ k => XS.iload X35.here hx rfl (hb hby at_285) rfl k) ?_
      show Ends p e below s T35 (mkF m 287 #[.val (.int p0), .val (.int p1), .val (.int p2), .val (.int p3), .val (.int p4), .val (.int p5), .val (.int c0), .val (.int c1), .val (.int d0), .val (.int d1), .val (.int md), .val (.ref ta), .val (.ref tb), .val (.int tx), .val (.ref b22), .val (.ref b29), .val (.int (2 : Int32)), .unset, .unset, .unset, .unset, .unset] [(.int (2 : Int32))]) _ _ _
      refine Ends.go (fun _ k => XS.bipush X35.here hx rfl (hb hby at_287) k) ?_
      show Ends p e below s T35 (mkF m 289 #[.val (.int p0), .val (.int p1), .val (.int p2), .val (.int p3), .val (.int p4), .val (.int p5), .val (.int c0), .val (.int c1), .val (.int d0), .val (.int d1), .val (.int md), .val (.ref ta), .val (.ref tb), .val (.int tx), .val (.ref b22), .val (.ref b29), .val (.int (2 : Int32)), .unset, .unset, .unset, .unset, .unset] [(.int (6 : Int32)), (.int (2 : Int32))]) _ _ _
      refine Ends.go (fun _ k => XS.icmpNo X35.here hx rfl (hb hby at_289) rfl (tlt (by decide : (2 : Int32) < (6 : Int32))).2.1 k) ?_
      show Ends p e below s T35 (mkF m 292 #[.val (.int p0), .val (.int p1), .val (.int p2), .val (.int p3), .val (.int p4), .val (.int p5), .val (.int c0), .val (.int c1), .val (.int d0), .val (.int d1), .val (.int md), .val (.ref ta), .val (.ref tb), .val (.int tx), .val (.ref b22), .val (.ref b29), .val (.int (2 : Int32)), .unset, .unset, .unset, .unset, .unset] []) _ _ _
      refine Ends.go (fun _ k => XS.aload X35.here hx rfl (hb hby at_292) rfl rfl k) ?_
      show Ends p e below s T35 (mkF m 294 #[.val (.int p0), .val (.int p1), .val (.int p2), .val (.int p3), .val (.int p4), .val (.int p5), .val (.int c0), .val (.int c1), .val (.int d0), .val (.int d1), .val (.int md), .val (.ref ta), .val (.ref tb), .val (.int tx), .val (.ref b22), .val (.ref b29), .val (.int (2 : Int32)), .unset, .unset, .unset, .unset, .unset] [(.ref b29)]) _ _ _
      refine Ends.go (fun _ k => XS.iload X35.here hx rfl (hb hby at_294) rfl k) ?_
      show Ends p e below s T35 (mkF m 296 #[.val (.int p0), .val (.int p1), .val (.int p2), .val (.int p3), .val (.int p4), .val (.int p5), .val (.int c0), .val (.int c1), .val (.int d0), .val (.int d1), .val (.int md), .val (.ref ta), .val (.ref tb), .val (.int tx), .val (.ref b22), .val (.ref b29), .val (.int (2 : Int32)), .unset, .unset, .unset, .unset, .unset] [(.int (2 : Int32)), (.ref b29)]) _ _ _
      refine Ends.go (fun _ k => XS.aload X35.here hx rfl (hb hby at_296) rfl rfl k) ?_
      show Ends p e below s T35 (mkF m 298 #[.val (.int p0), .val (.int p1), .val (.int p2), .val (.int p3), .val (.int p4), .val (.int p5), .val (.int c0), .val (.int c1), .val (.int d0), .val (.int d1), .val (.int md), .val (.ref ta), .val (.ref tb), .val (.int tx), .val (.ref b22), .val (.ref b29), .val (.int (2 : Int32)), .unset, .unset, .unset, .unset, .unset] [(.ref b29), (.int (2 : Int32)), (.ref b29)]) _ _ _
      refine Ends.go (fun _ k => XS.iload X35.here hx rfl (hb hby at_298) rfl k) ?_
      show Ends p e below s T35 (mkF m 300 #[.val (.int p0), .val (.int p1), .val (.int p2), .val (.int p3), .val (.int p4), .val (.int p5), .val (.int c0), .val (.int c1), .val (.int d0), .val (.int d1), .val (.int md), .val (.ref ta), .val (.ref tb), .val (.int tx), .val (.ref b22), .val (.ref b29), .val (.int (2 : Int32)), .unset, .unset, .unset, .unset, .unset] [(.int (2 : Int32)), (.ref b29), (.int (2 : Int32)), (.ref b29)]) _ _ _
      obtain ⟨cl47, Ar47, q47, S47, M47, H47, G47⟩ := id V35
      have hin47 := inb_of (j := (2 : Int32)) S47 ⟨by decide, by decide⟩
      refine Ends.go (X35.iaload hx (j := (2 : Int32)) (v := (.int (p2 ^^^ (-1 : Int32)))) (by rw [e35]; exact Ar47.1) (State.isArrayOf_alike hZ.alike Ar47.2.1) Ar47.2.2 hin47 (H47.at hin47 rfl) (g := (mkF m 300 #[.val (.int p0), .val (.int p1), .val (.int p2), .val (.int p3), .val (.int p4), .val (.int p5), .val (.int c0), .val (.int c1), .val (.int d0), .val (.int d1), .val (.int md), .val (.ref ta), .val (.ref tb), .val (.int tx), .val (.ref b22), .val (.ref b29), .val (.int (2 : Int32)), .unset, .unset, .unset, .unset, .unset] [(.int (2 : Int32)), (.ref b29), (.int (2 : Int32)), (.ref b29)])) rfl rfl (hb hby at_300)) ?_
      show Ends p e below s T35 (mkF m 301 #[.val (.int p0), .val (.int p1), .val (.int p2), .val (.int p3), .val (.int p4), .val (.int p5), .val (.int c0), .val (.int c1), .val (.int d0), .val (.int d1), .val (.int md), .val (.ref ta), .val (.ref tb), .val (.int tx), .val (.ref b22), .val (.ref b29), .val (.int (2 : Int32)), .unset, .unset, .unset, .unset, .unset] [(.int (p2 ^^^ (-1 : Int32))), (.int (2 : Int32)), (.ref b29)]) _ _ _
      refine Ends.go (fun _ k => XS.iload X35.here hx rfl (hb hby at_301) rfl k) ?_
      show Ends p e below s T35 (mkF m 303 #[.val (.int p0), .val (.int p1), .val (.int p2), .val (.int p3), .val (.int p4), .val (.int p5), .val (.int c0), .val (.int c1), .val (.int d0), .val (.int d1), .val (.int md), .val (.ref ta), .val (.ref tb), .val (.int tx), .val (.ref b22), .val (.ref b29), .val (.int (2 : Int32)), .unset, .unset, .unset, .unset, .unset] [(.int p5), (.int (p2 ^^^ (-1 : Int32))), (.int (2 : Int32)), (.ref b29)]) _ _ _
      refine Ends.go (fun _ k => XS.iadd X35.here hx rfl (hb hby at_303) rfl k) ?_
      show Ends p e below s T35 (mkF m 304 #[.val (.int p0), .val (.int p1), .val (.int p2), .val (.int p3), .val (.int p4), .val (.int p5), .val (.int c0), .val (.int c1), .val (.int d0), .val (.int d1), .val (.int md), .val (.ref ta), .val (.ref tb), .val (.int tx), .val (.ref b22), .val (.ref b29), .val (.int (2 : Int32)), .unset, .unset, .unset, .unset, .unset] [(.int ((p2 ^^^ (-1 : Int32)) + p5)), (.int (2 : Int32)), (.ref b29)]) _ _ _
      obtain ⟨cl48, Ar48, q48, S48, M48, H48, G48⟩ := id V35
      have hin48 := inb_of (j := (2 : Int32)) S48 ⟨by decide, by decide⟩
      obtain ⟨T48, h48, X48, e48, W48, st48⟩ := stI X35 hx hZ e35 Ar48 (j := (2 : Int32)) hin48 (g := (mkF m 304 #[.val (.int p0), .val (.int p1), .val (.int p2), .val (.int p3), .val (.int p4), .val (.int p5), .val (.int c0), .val (.int c1), .val (.int d0), .val (.int d1), .val (.int md), .val (.ref ta), .val (.ref tb), .val (.int tx), .val (.ref b22), .val (.ref b29), .val (.int (2 : Int32)), .unset, .unset, .unset, .unset, .unset] [(.int ((p2 ^^^ (-1 : Int32)) + p5)), (.int (2 : Int32)), (.ref b29)])) rfl rfl (hb hby at_304)
      refine Ends.go st48 ?_
      have V48 : Arv Z h48 b29 k29 .int (6 : Int32) [(.int p2), (.int p3), (.int ((p2 ^^^ (-1 : Int32)) + p5)), (.int (p3 ^^^ (-1 : Int32))), (.int (p2 ^^^ p3)), (.int (p2 - p3))] (.int (0 : Int32)) := Arv.set Ar48 q48 S48 M48 H48 G48 rfl W48 2 rfl (Nat.le_of_ble_eq_true rfl)
      have K48 := K35.wr W48 (Or.inr sz_b29)
      have O48 := O35.wr W48 g_b29
      have N48 := Fr.snoc X48 N35 g_b29
      show Ends p e below s T48 (mkF m 305 #[.val (.int p0), .val (.int p1), .val (.int p2), .val (.int p3), .val (.int p4), .val (.int p5), .val (.int c0), .val (.int c1), .val (.int d0), .val (.int d1), .val (.int md), .val (.ref ta), .val (.ref tb), .val (.int tx), .val (.ref b22), .val (.ref b29), .val (.int (2 : Int32)), .unset, .unset, .unset, .unset, .unset] []) _ _ _
      refine Ends.go (fun _ k => XS.iload X48.here hx rfl (hb hby at_305) rfl k) ?_
      show Ends p e below s T48 (mkF m 307 #[.val (.int p0), .val (.int p1), .val (.int p2), .val (.int p3), .val (.int p4), .val (.int p5), .val (.int c0), .val (.int c1), .val (.int d0), .val (.int d1), .val (.int md), .val (.ref ta), .val (.ref tb), .val (.int tx), .val (.ref b22), .val (.ref b29), .val (.int (2 : Int32)), .unset, .unset, .unset, .unset, .unset] [(.int (2 : Int32))]) _ _ _
      refine Ends.go (fun _ k => XS.bipush X48.here hx rfl (hb hby at_307) k) ?_
      show Ends p e below s T48 (mkF m 309 #[.val (.int p0), .val (.int p1), .val (.int p2), .val (.int p3), .val (.int p4), .val (.int p5), .val (.int c0), .val (.int c1), .val (.int d0), .val (.int d1), .val (.int md), .val (.ref ta), .val (.ref tb), .val (.int tx), .val (.ref b22), .val (.ref b29), .val (.int (2 : Int32)), .unset, .unset, .unset, .unset, .unset] [(.int (6 : Int32)), (.int (2 : Int32))]) _ _ _
      refine Ends.go (fun _ k => XS.icmpNo X48.here hx rfl (hb hby at_309) rfl (tlt (by decide : (2 : Int32) < (6 : Int32))).2.1 k) ?_
      show Ends p e below s T48 (mkF m 312 #[.val (.int p0), .val (.int p1), .val (.int p2), .val (.int p3), .val (.int p4), .val (.int p5), .val (.int c0), .val (.int c1), .val (.int d0), .val (.int d1), .val (.int md), .val (.ref ta), .val (.ref tb), .val (.int tx), .val (.ref b22), .val (.ref b29), .val (.int (2 : Int32)), .unset, .unset, .unset, .unset, .unset] []) _ _ _
      refine Ends.go (fun _ k => XS.iload X48.here hx rfl (hb hby at_312) rfl k) ?_
      show Ends p e below s T48 (mkF m 314 #[.val (.int p0), .val (.int p1), .val (.int p2), .val (.int p3), .val (.int p4), .val (.int p5), .val (.int c0), .val (.int c1), .val (.int d0), .val (.int d1), .val (.int md), .val (.ref ta), .val (.ref tb), .val (.int tx), .val (.ref b22), .val (.ref b29), .val (.int (2 : Int32)), .unset, .unset, .unset, .unset, .unset] [(.int p5)]) _ _ _
      by_cases hc314_49 : p5 = (0 : Int32)
      · refine Ends.go (fun _ k => XS.ifNo X48.here hx rfl (hb hby at_314) rfl ((if0 _ _).trans (teq hc314_49).2) k) ?_
        show Ends p e below s T48 (mkF m 317 #[.val (.int p0), .val (.int p1), .val (.int p2), .val (.int p3), .val (.int p4), .val (.int p5), .val (.int c0), .val (.int c1), .val (.int d0), .val (.int d1), .val (.int md), .val (.ref ta), .val (.ref tb), .val (.int tx), .val (.ref b22), .val (.ref b29), .val (.int (2 : Int32)), .unset, .unset, .unset, .unset, .unset] []) _ _ _
        refine Ends.go (fun _ k => XS.iconst X48.here hx rfl (hb hby at_317) k) ?_
        show Ends p e below s T48 (mkF m 318 #[.val (.int p0), .val (.int p1), .val (.int p2), .val (.int p3), .val (.int p4), .val (.int p5), .val (.int c0), .val (.int c1), .val (.int d0), .val (.int d1), .val (.int md), .val (.ref ta), .val (.ref tb), .val (.int tx), .val (.ref b22), .val (.ref b29), .val (.int (2 : Int32)), .unset, .unset, .unset, .unset, .unset] [(.int (1 : Int32))]) _ _ _
        refine Ends.go (fun _ k => XS.goto X48.here hx rfl (pc0 := 318) (pc' := 322) rfl (hb hby at_318) (by decide) (by decide) k) ?_
        show Ends p e below s T48 (mkF m 322 #[.val (.int p0), .val (.int p1), .val (.int p2), .val (.int p3), .val (.int p4), .val (.int p5), .val (.int c0), .val (.int c1), .val (.int d0), .val (.int d1), .val (.int md), .val (.ref ta), .val (.ref tb), .val (.int tx), .val (.ref b22), .val (.ref b29), .val (.int (2 : Int32)), .unset, .unset, .unset, .unset, .unset] [(.int (1 : Int32))]) _ _ _
        refine Ends.go (fun _ k => XS.istore X48.here hx rfl (hb hby at_322) rfl (l' := #[.val (.int p0), .val (.int p1), .val (.int p2), .val (.int p3), .val (.int p4), .val (.int p5), .val (.int c0), .val (.int c1), .val (.int d0), .val (.int d1), .val (.int md), .val (.ref ta), .val (.ref tb), .val (.int tx), .val (.ref b22), .val (.ref b29), .val (.int (2 : Int32)), .val (.int (1 : Int32)), .unset, .unset, .unset, .unset]) rfl k) ?_
        show Ends p e below s T48 (mkF m 324 #[.val (.int p0), .val (.int p1), .val (.int p2), .val (.int p3), .val (.int p4), .val (.int p5), .val (.int c0), .val (.int c1), .val (.int d0), .val (.int d1), .val (.int md), .val (.ref ta), .val (.ref tb), .val (.int tx), .val (.ref b22), .val (.ref b29), .val (.int (2 : Int32)), .val (.int (1 : Int32)), .unset, .unset, .unset, .unset] []) _ _ _
        refine Ends.go (fun _ k => XS.iload X48.here hx rfl (hb hby at_324) rfl k) ?_
        show Ends p e below s T48 (mkF m 326 #[.val (.int p0), .val (.int p1), .val (.int p2), .val (.int p3), .val (.int p4), .val (.int p5), .val (.int c0), .val (.int c1), .val (.int d0), .val (.int d1), .val (.int md), .val (.ref ta), .val (.ref tb), .val (.int tx), .val (.ref b22), .val (.ref b29), .val (.int (2 : Int32)), .val (.int (1 : Int32)), .unset, .unset, .unset, .unset] [(.int tx)]) _ _ _
        by_cases hc326_50 : tx = (0 : Int32)
        · refine Ends.go (fun _ k => XS.ifYes X48.here hx rfl (pc0 := 326) (pc' := 338) rfl (hb hby at_326) rfl ((if0 _ _).trans (teq hc326_50).1) (by decide) (by decide) k) ?_
          show Ends p e below s T48 (mkF m 338 #[.val (.int p0), .val (.int p1), .val (.int p2), .val (.int p3), .val (.int p4), .val (.int p5), .val (.int c0), .val (.int c1), .val (.int d0), .val (.int d1), .val (.int md), .val (.ref ta), .val (.ref tb), .val (.int tx), .val (.ref b22), .val (.ref b29), .val (.int (2 : Int32)), .val (.int (1 : Int32)), .unset, .unset, .unset, .unset] []) _ _ _
          refine Ends.go (fun _ k => XS.iconst X48.here hx rfl (hb hby at_338) k) ?_
          show Ends p e below s T48 (mkF m 339 #[.val (.int p0), .val (.int p1), .val (.int p2), .val (.int p3), .val (.int p4), .val (.int p5), .val (.int c0), .val (.int c1), .val (.int d0), .val (.int d1), .val (.int md), .val (.ref ta), .val (.ref tb), .val (.int tx), .val (.ref b22), .val (.ref b29), .val (.int (2 : Int32)), .val (.int (1 : Int32)), .unset, .unset, .unset, .unset] [(.int (0 : Int32))]) _ _ _
          refine Ends.go (fun _ k => XS.istore X48.here hx rfl (hb hby at_339) rfl (l' := #[.val (.int p0), .val (.int p1), .val (.int p2), .val (.int p3), .val (.int p4), .val (.int p5), .val (.int c0), .val (.int c1), .val (.int d0), .val (.int d1), .val (.int md), .val (.ref ta), .val (.ref tb), .val (.int tx), .val (.ref b22), .val (.ref b29), .val (.int (2 : Int32)), .val (.int (1 : Int32)), .val (.int (0 : Int32)), .unset, .unset, .unset]) rfl k) ?_
          show Ends p e below s T48 (mkF m 341 #[.val (.int p0), .val (.int p1), .val (.int p2), .val (.int p3), .val (.int p4), .val (.int p5), .val (.int c0), .val (.int c1), .val (.int d0), .val (.int d1), .val (.int md), .val (.ref ta), .val (.ref tb), .val (.int tx), .val (.ref b22), .val (.ref b29), .val (.int (2 : Int32)), .val (.int (1 : Int32)), .val (.int (0 : Int32)), .unset, .unset, .unset] []) _ _ _
          exact J341 _ _ _ _ _ _ _ _ _ _ p2 p3 ((p2 ^^^ (-1 : Int32)) + p5) (p3 ^^^ (-1 : Int32)) (p2 ^^^ p3) (p2 - p3) X48 e48 O48 N48 K48 ⟨(((((((((((((((Ea.ext E22).wr W23).wr W24).wr W25).wr W26).wr W27).wr W28).ext E29).wr W30).wr W31).wr W32).wr W33).wr W34).wr W35).wr W48), (((((((((((((((Va.ext E22).other W23 (Or.inl ne_ta_b22)).other W24 (Or.inl ne_ta_b22)).other W25 (Or.inl ne_ta_b22)).other W26 (Or.inl ne_ta_b22)).other W27 (Or.inl ne_ta_b22)).other W28 (Or.inl ne_ta_b22)).ext E29).other W30 (Or.inl ne_ta_b29)).other W31 (Or.inl ne_ta_b29)).other W32 (Or.inl ne_ta_b29)).other W33 (Or.inl ne_ta_b29)).other W34 (Or.inl ne_ta_b29)).other W35 (Or.inl ne_ta_b29)).other W48 (Or.inl ne_ta_b29)), (((((((((((((((Ca.ext E22).other W23 (Or.inl ne_ta_b22)).other W24 (Or.inl ne_ta_b22)).other W25 (Or.inl ne_ta_b22)).other W26 (Or.inl ne_ta_b22)).other W27 (Or.inl ne_ta_b22)).other W28 (Or.inl ne_ta_b22)).ext E29).other W30 (Or.inl ne_ta_b29)).other W31 (Or.inl ne_ta_b29)).other W32 (Or.inl ne_ta_b29)).other W33 (Or.inl ne_ta_b29)).other W34 (Or.inl ne_ta_b29)).other W35 (Or.inl ne_ta_b29)).other W48 (Or.inl ne_ta_b29)), (((((((((((((((Aa.ext E22).other W23 ne_t1_b22).other W24 ne_t1_b22).other W25 ne_t1_b22).other W26 ne_t1_b22).other W27 ne_t1_b22).other W28 ne_t1_b22).ext E29).other W30 ne_t1_b29).other W31 ne_t1_b29).other W32 ne_t1_b29).other W33 ne_t1_b29).other W34 ne_t1_b29).other W35 ne_t1_b29).other W48 ne_t1_b29), SA.2.2.2.2⟩ ⟨(((((((((((((((Eb.ext E22).wr W23).wr W24).wr W25).wr W26).wr W27).wr W28).ext E29).wr W30).wr W31).wr W32).wr W33).wr W34).wr W35).wr W48), (((((((((((((((Vb.ext E22).other W23 (Or.inl ne_tb_b22)).other W24 (Or.inl ne_tb_b22)).other W25 (Or.inl ne_tb_b22)).other W26 (Or.inl ne_tb_b22)).other W27 (Or.inl ne_tb_b22)).other W28 (Or.inl ne_tb_b22)).ext E29).other W30 (Or.inl ne_tb_b29)).other W31 (Or.inl ne_tb_b29)).other W32 (Or.inl ne_tb_b29)).other W33 (Or.inl ne_tb_b29)).other W34 (Or.inl ne_tb_b29)).other W35 (Or.inl ne_tb_b29)).other W48 (Or.inl ne_tb_b29)), (((((((((((((((Cb.ext E22).other W23 (Or.inl ne_tb_b22)).other W24 (Or.inl ne_tb_b22)).other W25 (Or.inl ne_tb_b22)).other W26 (Or.inl ne_tb_b22)).other W27 (Or.inl ne_tb_b22)).other W28 (Or.inl ne_tb_b22)).ext E29).other W30 (Or.inl ne_tb_b29)).other W31 (Or.inl ne_tb_b29)).other W32 (Or.inl ne_tb_b29)).other W33 (Or.inl ne_tb_b29)).other W34 (Or.inl ne_tb_b29)).other W35 (Or.inl ne_tb_b29)).other W48 (Or.inl ne_tb_b29)), (((((((((((((((Ab.ext E22).other W23 ne_t2_b22).other W24 ne_t2_b22).other W25 ne_t2_b22).other W26 ne_t2_b22).other W27 ne_t2_b22).other W28 ne_t2_b22).ext E29).other W30 ne_t2_b29).other W31 ne_t2_b29).other W32 ne_t2_b29).other W33 ne_t2_b29).other W34 ne_t2_b29).other W35 ne_t2_b29).other W48 ne_t2_b29), SB.2.2.2.2⟩ ((((((((V28.ext E29).other W30 ne_b22_b29).other W31 ne_b22_b29).other W32 ne_b22_b29).other W33 ne_b22_b29).other W34 ne_b22_b29).other W35 ne_b22_b29).other W48 ne_b22_b29) V48 (Or.inr ⟨rfl, fun q => own_tx0 htx hc326_50 q.1⟩)
        · refine Ends.go (fun _ k => XS.ifNo X48.here hx rfl (hb hby at_326) rfl ((if0 _ _).trans (feq hc326_50).1) k) ?_
          show Ends p e below s T48 (mkF m 329 #[.val (.int p0), .val (.int p1), .val (.int p2), .val (.int p3), .val (.int p4), .val (.int p5), .val (.int c0), .val (.int c1), .val (.int d0), .val (.int d1), .val (.int md), .val (.ref ta), .val (.ref tb), .val (.int tx), .val (.ref b22), .val (.ref b29), .val (.int (2 : Int32)), .val (.int (1 : Int32)), .unset, .unset, .unset, .unset] []) _ _ _
          refine Ends.go (fun _ k => XS.iload X48.here hx rfl (hb hby at_329) rfl k) ?_
          show Ends p e below s T48 (mkF m 331 #[.val (.int p0), .val (.int p1), .val (.int p2), .val (.int p3), .val (.int p4), .val (.int p5), .val (.int c0), .val (.int c1), .val (.int d0), .val (.int d1), .val (.int md), .val (.ref ta), .val (.ref tb), .val (.int tx), .val (.ref b22), .val (.ref b29), .val (.int (2 : Int32)), .val (.int (1 : Int32)), .unset, .unset, .unset, .unset] [(.int (1 : Int32))]) _ _ _
          refine Ends.go (fun _ k => XS.ifNo X48.here hx rfl (hb hby at_331) rfl ((if0 _ _).trans (feq (by decide : ¬ ((1 : Int32) = (0 : Int32)))).1) k) ?_
          show Ends p e below s T48 (mkF m 334 #[.val (.int p0), .val (.int p1), .val (.int p2), .val (.int p3), .val (.int p4), .val (.int p5), .val (.int c0), .val (.int c1), .val (.int d0), .val (.int d1), .val (.int md), .val (.ref ta), .val (.ref tb), .val (.int tx), .val (.ref b22), .val (.ref b29), .val (.int (2 : Int32)), .val (.int (1 : Int32)), .unset, .unset, .unset, .unset] []) _ _ _
          refine Ends.go (fun _ k => XS.iconst X48.here hx rfl (hb hby at_334) k) ?_
          show Ends p e below s T48 (mkF m 335 #[.val (.int p0), .val (.int p1), .val (.int p2), .val (.int p3), .val (.int p4), .val (.int p5), .val (.int c0), .val (.int c1), .val (.int d0), .val (.int d1), .val (.int md), .val (.ref ta), .val (.ref tb), .val (.int tx), .val (.ref b22), .val (.ref b29), .val (.int (2 : Int32)), .val (.int (1 : Int32)), .unset, .unset, .unset, .unset] [(.int (1 : Int32))]) _ _ _
          refine Ends.go (fun _ k => XS.goto X48.here hx rfl (pc0 := 335) (pc' := 339) rfl (hb hby at_335) (by decide) (by decide) k) ?_
          show Ends p e below s T48 (mkF m 339 #[.val (.int p0), .val (.int p1), .val (.int p2), .val (.int p3), .val (.int p4), .val (.int p5), .val (.int c0), .val (.int c1), .val (.int d0), .val (.int d1), .val (.int md), .val (.ref ta), .val (.ref tb), .val (.int tx), .val (.ref b22), .val (.ref b29), .val (.int (2 : Int32)), .val (.int (1 : Int32)), .unset, .unset, .unset, .unset] [(.int (1 : Int32))]) _ _ _
          refine Ends.go (fun _ k => XS.istore X48.here hx rfl (hb hby at_339) rfl (l' := #[.val (.int p0), .val (.int p1), .val (.int p2), .val (.int p3), .val (.int p4), .val (.int p5), .val (.int c0), .val (.int c1), .val (.int d0), .val (.int d1), .val (.int md), .val (.ref ta), .val (.ref tb), .val (.int tx), .val (.ref b22), .val (.ref b29), .val (.int (2 : Int32)), .val (.int (1 : Int32)), .val (.int (1 : Int32)), .unset, .unset, .unset]) rfl k) ?_
          show Ends p e below s T48 (mkF m 341 #[.val (.int p0), .val (.int p1), .val (.int p2), .val (.int p3), .val (.int p4), .val (.int p5), .val (.int c0), .val (.int c1), .val (.int d0), .val (.int d1), .val (.int md), .val (.ref ta), .val (.ref tb), .val (.int tx), .val (.ref b22), .val (.ref b29), .val (.int (2 : Int32)), .val (.int (1 : Int32)), .val (.int (1 : Int32)), .unset, .unset, .unset] []) _ _ _
          exact J341 _ _ _ _ _ _ _ _ _ _ p2 p3 ((p2 ^^^ (-1 : Int32)) + p5) (p3 ^^^ (-1 : Int32)) (p2 ^^^ p3) (p2 - p3) X48 e48 O48 N48 K48 ⟨(((((((((((((((Ea.ext E22).wr W23).wr W24).wr W25).wr W26).wr W27).wr W28).ext E29).wr W30).wr W31).wr W32).wr W33).wr W34).wr W35).wr W48), (((((((((((((((Va.ext E22).other W23 (Or.inl ne_ta_b22)).other W24 (Or.inl ne_ta_b22)).other W25 (Or.inl ne_ta_b22)).other W26 (Or.inl ne_ta_b22)).other W27 (Or.inl ne_ta_b22)).other W28 (Or.inl ne_ta_b22)).ext E29).other W30 (Or.inl ne_ta_b29)).other W31 (Or.inl ne_ta_b29)).other W32 (Or.inl ne_ta_b29)).other W33 (Or.inl ne_ta_b29)).other W34 (Or.inl ne_ta_b29)).other W35 (Or.inl ne_ta_b29)).other W48 (Or.inl ne_ta_b29)), (((((((((((((((Ca.ext E22).other W23 (Or.inl ne_ta_b22)).other W24 (Or.inl ne_ta_b22)).other W25 (Or.inl ne_ta_b22)).other W26 (Or.inl ne_ta_b22)).other W27 (Or.inl ne_ta_b22)).other W28 (Or.inl ne_ta_b22)).ext E29).other W30 (Or.inl ne_ta_b29)).other W31 (Or.inl ne_ta_b29)).other W32 (Or.inl ne_ta_b29)).other W33 (Or.inl ne_ta_b29)).other W34 (Or.inl ne_ta_b29)).other W35 (Or.inl ne_ta_b29)).other W48 (Or.inl ne_ta_b29)), (((((((((((((((Aa.ext E22).other W23 ne_t1_b22).other W24 ne_t1_b22).other W25 ne_t1_b22).other W26 ne_t1_b22).other W27 ne_t1_b22).other W28 ne_t1_b22).ext E29).other W30 ne_t1_b29).other W31 ne_t1_b29).other W32 ne_t1_b29).other W33 ne_t1_b29).other W34 ne_t1_b29).other W35 ne_t1_b29).other W48 ne_t1_b29), SA.2.2.2.2⟩ ⟨(((((((((((((((Eb.ext E22).wr W23).wr W24).wr W25).wr W26).wr W27).wr W28).ext E29).wr W30).wr W31).wr W32).wr W33).wr W34).wr W35).wr W48), (((((((((((((((Vb.ext E22).other W23 (Or.inl ne_tb_b22)).other W24 (Or.inl ne_tb_b22)).other W25 (Or.inl ne_tb_b22)).other W26 (Or.inl ne_tb_b22)).other W27 (Or.inl ne_tb_b22)).other W28 (Or.inl ne_tb_b22)).ext E29).other W30 (Or.inl ne_tb_b29)).other W31 (Or.inl ne_tb_b29)).other W32 (Or.inl ne_tb_b29)).other W33 (Or.inl ne_tb_b29)).other W34 (Or.inl ne_tb_b29)).other W35 (Or.inl ne_tb_b29)).other W48 (Or.inl ne_tb_b29)), (((((((((((((((Cb.ext E22).other W23 (Or.inl ne_tb_b22)).other W24 (Or.inl ne_tb_b22)).other W25 (Or.inl ne_tb_b22)).other W26 (Or.inl ne_tb_b22)).other W27 (Or.inl ne_tb_b22)).other W28 (Or.inl ne_tb_b22)).ext E29).other W30 (Or.inl ne_tb_b29)).other W31 (Or.inl ne_tb_b29)).other W32 (Or.inl ne_tb_b29)).other W33 (Or.inl ne_tb_b29)).other W34 (Or.inl ne_tb_b29)).other W35 (Or.inl ne_tb_b29)).other W48 (Or.inl ne_tb_b29)), (((((((((((((((Ab.ext E22).other W23 ne_t2_b22).other W24 ne_t2_b22).other W25 ne_t2_b22).other W26 ne_t2_b22).other W27 ne_t2_b22).other W28 ne_t2_b22).ext E29).other W30 ne_t2_b29).other W31 ne_t2_b29).other W32 ne_t2_b29).other W33 ne_t2_b29).other W34 ne_t2_b29).other W35 ne_t2_b29).other W48 ne_t2_b29), SB.2.2.2.2⟩ ((((((((V28.ext E29).other W30 ne_b22_b29).other W31 ne_b22_b29).other W32 ne_b22_b29).other W33 ne_b22_b29).other W34 ne_b22_b29).other W35 ne_b22_b29).other W48 ne_b22_b29) V48 (Or.inl ⟨rfl, own_tx1 htx hc326_50, rfl, rfl, (own_add0 hc314_49), rfl, rfl, rfl⟩)
      · refine Ends.go (fun _ k => XS.ifYes X48.here hx rfl (pc0 := 314) (pc' := 321) rfl (hb hby at_314) rfl ((if0 _ _).trans (feq hc314_49).2) (by decide) (by decide) k) ?_
        show Ends p e below s T48 (mkF m 321 #[.val (.int p0), .val (.int p1), .val (.int p2), .val (.int p3), .val (.int p4), .val (.int p5), .val (.int c0), .val (.int c1), .val (.int d0), .val (.int d1), .val (.int md), .val (.ref ta), .val (.ref tb), .val (.int tx), .val (.ref b22), .val (.ref b29), .val (.int (2 : Int32)), .unset, .unset, .unset, .unset, .unset] []) _ _ _
        refine Ends.go (fun _ k => XS.iconst X48.here hx rfl (hb hby at_321) k) ?_
        show Ends p e below s T48 (mkF m 322 #[.val (.int p0), .val (.int p1), .val (.int p2), .val (.int p3), .val (.int p4), .val (.int p5), .val (.int c0), .val (.int c1), .val (.int d0), .val (.int d1), .val (.int md), .val (.ref ta), .val (.ref tb), .val (.int tx), .val (.ref b22), .val (.ref b29), .val (.int (2 : Int32)), .unset, .unset, .unset, .unset, .unset] [(.int (0 : Int32))]) _ _ _
        refine Ends.go (fun _ k => XS.istore X48.here hx rfl (hb hby at_322) rfl (l' := #[.val (.int p0), .val (.int p1), .val (.int p2), .val (.int p3), .val (.int p4), .val (.int p5), .val (.int c0), .val (.int c1), .val (.int d0), .val (.int d1), .val (.int md), .val (.ref ta), .val (.ref tb), .val (.int tx), .val (.ref b22), .val (.ref b29), .val (.int (2 : Int32)), .val (.int (0 : Int32)), .unset, .unset, .unset, .unset]) rfl k) ?_
        show Ends p e below s T48 (mkF m 324 #[.val (.int p0), .val (.int p1), .val (.int p2), .val (.int p3), .val (.int p4), .val (.int p5), .val (.int c0), .val (.int c1), .val (.int d0), .val (.int d1), .val (.int md), .val (.ref ta), .val (.ref tb), .val (.int tx), .val (.ref b22), .val (.ref b29), .val (.int (2 : Int32)), .val (.int (0 : Int32)), .unset, .unset, .unset, .unset] []) _ _ _
        refine Ends.go (fun _ k => XS.iload X48.here hx rfl (hb hby at_324) rfl k) ?_
        show Ends p e below s T48 (mkF m 326 #[.val (.int p0), .val (.int p1), .val (.int p2), .val (.int p3), .val (.int p4), .val (.int p5), .val (.int c0), .val (.int c1), .val (.int d0), .val (.int d1), .val (.int md), .val (.ref ta), .val (.ref tb), .val (.int tx), .val (.ref b22), .val (.ref b29), .val (.int (2 : Int32)), .val (.int (0 : Int32)), .unset, .unset, .unset, .unset] [(.int tx)]) _ _ _
        by_cases hc326_51 : tx = (0 : Int32)
        · refine Ends.go (fun _ k => XS.ifYes X48.here hx rfl (pc0 := 326) (pc' := 338) rfl (hb hby at_326) rfl ((if0 _ _).trans (teq hc326_51).1) (by decide) (by decide) k) ?_
          show Ends p e below s T48 (mkF m 338 #[.val (.int p0), .val (.int p1), .val (.int p2), .val (.int p3), .val (.int p4), .val (.int p5), .val (.int c0), .val (.int c1), .val (.int d0), .val (.int d1), .val (.int md), .val (.ref ta), .val (.ref tb), .val (.int tx), .val (.ref b22), .val (.ref b29), .val (.int (2 : Int32)), .val (.int (0 : Int32)), .unset, .unset, .unset, .unset] []) _ _ _
          refine Ends.go (fun _ k => XS.iconst X48.here hx rfl (hb hby at_338) k) ?_
          show Ends p e below s T48 (mkF m 339 #[.val (.int p0), .val (.int p1), .val (.int p2), .val (.int p3), .val (.int p4), .val (.int p5), .val (.int c0), .val (.int c1), .val (.int d0), .val (.int d1), .val (.int md), .val (.ref ta), .val (.ref tb), .val (.int tx), .val (.ref b22), .val (.ref b29), .val (.int (2 : Int32)), .val (.int (0 : Int32)), .unset, .unset, .unset, .unset] [(.int (0 : Int32))]) _ _ _
          refine Ends.go (fun _ k => XS.istore X48.here hx rfl (hb hby at_339) rfl (l' := #[.val (.int p0), .val (.int p1), .val (.int p2), .val (.int p3), .val (.int p4), .val (.int p5), .val (.int c0), .val (.int c1), .val (.int d0), .val (.int d1), .val (.int md), .val (.ref ta), .val (.ref tb), .val (.int tx), .val (.ref b22), .val (.ref b29), .val (.int (2 : Int32)), .val (.int (0 : Int32)), .val (.int (0 : Int32)), .unset, .unset, .unset]) rfl k) ?_
          show Ends p e below s T48 (mkF m 341 #[.val (.int p0), .val (.int p1), .val (.int p2), .val (.int p3), .val (.int p4), .val (.int p5), .val (.int c0), .val (.int c1), .val (.int d0), .val (.int d1), .val (.int md), .val (.ref ta), .val (.ref tb), .val (.int tx), .val (.ref b22), .val (.ref b29), .val (.int (2 : Int32)), .val (.int (0 : Int32)), .val (.int (0 : Int32)), .unset, .unset, .unset] []) _ _ _
          exact J341 _ _ _ _ _ _ _ _ _ _ p2 p3 ((p2 ^^^ (-1 : Int32)) + p5) (p3 ^^^ (-1 : Int32)) (p2 ^^^ p3) (p2 - p3) X48 e48 O48 N48 K48 ⟨(((((((((((((((Ea.ext E22).wr W23).wr W24).wr W25).wr W26).wr W27).wr W28).ext E29).wr W30).wr W31).wr W32).wr W33).wr W34).wr W35).wr W48), (((((((((((((((Va.ext E22).other W23 (Or.inl ne_ta_b22)).other W24 (Or.inl ne_ta_b22)).other W25 (Or.inl ne_ta_b22)).other W26 (Or.inl ne_ta_b22)).other W27 (Or.inl ne_ta_b22)).other W28 (Or.inl ne_ta_b22)).ext E29).other W30 (Or.inl ne_ta_b29)).other W31 (Or.inl ne_ta_b29)).other W32 (Or.inl ne_ta_b29)).other W33 (Or.inl ne_ta_b29)).other W34 (Or.inl ne_ta_b29)).other W35 (Or.inl ne_ta_b29)).other W48 (Or.inl ne_ta_b29)), (((((((((((((((Ca.ext E22).other W23 (Or.inl ne_ta_b22)).other W24 (Or.inl ne_ta_b22)).other W25 (Or.inl ne_ta_b22)).other W26 (Or.inl ne_ta_b22)).other W27 (Or.inl ne_ta_b22)).other W28 (Or.inl ne_ta_b22)).ext E29).other W30 (Or.inl ne_ta_b29)).other W31 (Or.inl ne_ta_b29)).other W32 (Or.inl ne_ta_b29)).other W33 (Or.inl ne_ta_b29)).other W34 (Or.inl ne_ta_b29)).other W35 (Or.inl ne_ta_b29)).other W48 (Or.inl ne_ta_b29)), (((((((((((((((Aa.ext E22).other W23 ne_t1_b22).other W24 ne_t1_b22).other W25 ne_t1_b22).other W26 ne_t1_b22).other W27 ne_t1_b22).other W28 ne_t1_b22).ext E29).other W30 ne_t1_b29).other W31 ne_t1_b29).other W32 ne_t1_b29).other W33 ne_t1_b29).other W34 ne_t1_b29).other W35 ne_t1_b29).other W48 ne_t1_b29), SA.2.2.2.2⟩ ⟨(((((((((((((((Eb.ext E22).wr W23).wr W24).wr W25).wr W26).wr W27).wr W28).ext E29).wr W30).wr W31).wr W32).wr W33).wr W34).wr W35).wr W48), (((((((((((((((Vb.ext E22).other W23 (Or.inl ne_tb_b22)).other W24 (Or.inl ne_tb_b22)).other W25 (Or.inl ne_tb_b22)).other W26 (Or.inl ne_tb_b22)).other W27 (Or.inl ne_tb_b22)).other W28 (Or.inl ne_tb_b22)).ext E29).other W30 (Or.inl ne_tb_b29)).other W31 (Or.inl ne_tb_b29)).other W32 (Or.inl ne_tb_b29)).other W33 (Or.inl ne_tb_b29)).other W34 (Or.inl ne_tb_b29)).other W35 (Or.inl ne_tb_b29)).other W48 (Or.inl ne_tb_b29)), (((((((((((((((Cb.ext E22).other W23 (Or.inl ne_tb_b22)).other W24 (Or.inl ne_tb_b22)).other W25 (Or.inl ne_tb_b22)).other W26 (Or.inl ne_tb_b22)).other W27 (Or.inl ne_tb_b22)).other W28 (Or.inl ne_tb_b22)).ext E29).other W30 (Or.inl ne_tb_b29)).other W31 (Or.inl ne_tb_b29)).other W32 (Or.inl ne_tb_b29)).other W33 (Or.inl ne_tb_b29)).other W34 (Or.inl ne_tb_b29)).other W35 (Or.inl ne_tb_b29)).other W48 (Or.inl ne_tb_b29)), (((((((((((((((Ab.ext E22).other W23 ne_t2_b22).other W24 ne_t2_b22).other W25 ne_t2_b22).other W26 ne_t2_b22).other W27 ne_t2_b22).other W28 ne_t2_b22).ext E29).other W30 ne_t2_b29).other W31 ne_t2_b29).other W32 ne_t2_b29).other W33 ne_t2_b29).other W34 ne_t2_b29).other W35 ne_t2_b29).other W48 ne_t2_b29), SB.2.2.2.2⟩ ((((((((V28.ext E29).other W30 ne_b22_b29).other W31 ne_b22_b29).other W32 ne_b22_b29).other W33 ne_b22_b29).other W34 ne_b22_b29).other W35 ne_b22_b29).other W48 ne_b22_b29) V48 (Or.inr ⟨rfl, fun q => own_tx0 htx hc326_51 q.1⟩)
        · refine Ends.go (fun _ k => XS.ifNo X48.here hx rfl (hb hby at_326) rfl ((if0 _ _).trans (feq hc326_51).1) k) ?_
          show Ends p e below s T48 (mkF m 329 #[.val (.int p0), .val (.int p1), .val (.int p2), .val (.int p3), .val (.int p4), .val (.int p5), .val (.int c0), .val (.int c1), .val (.int d0), .val (.int d1), .val (.int md), .val (.ref ta), .val (.ref tb), .val (.int tx), .val (.ref b22), .val (.ref b29), .val (.int (2 : Int32)), .val (.int (0 : Int32)), .unset, .unset, .unset, .unset] []) _ _ _
          refine Ends.go (fun _ k => XS.iload X48.here hx rfl (hb hby at_329) rfl k) ?_
          show Ends p e below s T48 (mkF m 331 #[.val (.int p0), .val (.int p1), .val (.int p2), .val (.int p3), .val (.int p4), .val (.int p5), .val (.int c0), .val (.int c1), .val (.int d0), .val (.int d1), .val (.int md), .val (.ref ta), .val (.ref tb), .val (.int tx), .val (.ref b22), .val (.ref b29), .val (.int (2 : Int32)), .val (.int (0 : Int32)), .unset, .unset, .unset, .unset] [(.int (0 : Int32))]) _ _ _
          refine Ends.go (fun _ k => XS.ifYes X48.here hx rfl (pc0 := 331) (pc' := 338) rfl (hb hby at_331) rfl ((if0 _ _).trans (teq (by decide : (0 : Int32) = (0 : Int32))).1) (by decide) (by decide) k) ?_
          show Ends p e below s T48 (mkF m 338 #[.val (.int p0), .val (.int p1), .val (.int p2), .val (.int p3), .val (.int p4), .val (.int p5), .val (.int c0), .val (.int c1), .val (.int d0), .val (.int d1), .val (.int md), .val (.ref ta), .val (.ref tb), .val (.int tx), .val (.ref b22), .val (.ref b29), .val (.int (2 : Int32)), .val (.int (0 : Int32)), .unset, .unset, .unset, .unset] []) _ _ _
          refine Ends.go (fun _ k => XS.iconst X48.here hx rfl (hb hby at_338) k) ?_
          show Ends p e below s T48 (mkF m 339 #[.val (.int p0), .val (.int p1), .val (.int p2), .val (.int p3), .val (.int p4), .val (.int p5), .val (.int c0), .val (.int c1), .val (.int d0), .val (.int d1), .val (.int md), .val (.ref ta), .val (.ref tb), .val (.int tx), .val (.ref b22), .val (.ref b29), .val (.int (2 : Int32)), .val (.int (0 : Int32)), .unset, .unset, .unset, .unset] [(.int (0 : Int32))]) _ _ _
          refine Ends.go (fun _ k => XS.istore X48.here hx rfl (hb hby at_339) rfl (l' := #[.val (.int p0), .val (.int p1), .val (.int p2), .val (.int p3), .val (.int p4), .val (.int p5), .val (.int c0), .val (.int c1), .val (.int d0), .val (.int d1), .val (.int md), .val (.ref ta), .val (.ref tb), .val (.int tx), .val (.ref b22), .val (.ref b29), .val (.int (2 : Int32)), .val (.int (0 : Int32)), .val (.int (0 : Int32)), .unset, .unset, .unset]) rfl k) ?_
          show Ends p e below s T48 (mkF m 341 #[.val (.int p0), .val (.int p1), .val (.int p2), .val (.int p3), .val (.int p4), .val (.int p5), .val (.int c0), .val (.int c1), .val (.int d0), .val (.int d1), .val (.int md), .val (.ref ta), .val (.ref tb), .val (.int tx), .val (.ref b22), .val (.ref b29), .val (.int (2 : Int32)), .val (.int (0 : Int32)), .val (.int (0 : Int32)), .unset, .unset, .unset] []) _ _ _
          exact J341 _ _ _ _ _ _ _ _ _ _ p2 p3 ((p2 ^^^ (-1 : Int32)) + p5) (p3 ^^^ (-1 : Int32)) (p2 ^^^ p3) (p2 - p3) X48 e48 O48 N48 K48 ⟨(((((((((((((((Ea.ext E22).wr W23).wr W24).wr W25).wr W26).wr W27).wr W28).ext E29).wr W30).wr W31).wr W32).wr W33).wr W34).wr W35).wr W48), (((((((((((((((Va.ext E22).other W23 (Or.inl ne_ta_b22)).other W24 (Or.inl ne_ta_b22)).other W25 (Or.inl ne_ta_b22)).other W26 (Or.inl ne_ta_b22)).other W27 (Or.inl ne_ta_b22)).other W28 (Or.inl ne_ta_b22)).ext E29).other W30 (Or.inl ne_ta_b29)).other W31 (Or.inl ne_ta_b29)).other W32 (Or.inl ne_ta_b29)).other W33 (Or.inl ne_ta_b29)).other W34 (Or.inl ne_ta_b29)).other W35 (Or.inl ne_ta_b29)).other W48 (Or.inl ne_ta_b29)), (((((((((((((((Ca.ext E22).other W23 (Or.inl ne_ta_b22)).other W24 (Or.inl ne_ta_b22)).other W25 (Or.inl ne_ta_b22)).other W26 (Or.inl ne_ta_b22)).other W27 (Or.inl ne_ta_b22)).other W28 (Or.inl ne_ta_b22)).ext E29).other W30 (Or.inl ne_ta_b29)).other W31 (Or.inl ne_ta_b29)).other W32 (Or.inl ne_ta_b29)).other W33 (Or.inl ne_ta_b29)).other W34 (Or.inl ne_ta_b29)).other W35 (Or.inl ne_ta_b29)).other W48 (Or.inl ne_ta_b29)), (((((((((((((((Aa.ext E22).other W23 ne_t1_b22).other W24 ne_t1_b22).other W25 ne_t1_b22).other W26 ne_t1_b22).other W27 ne_t1_b22).other W28 ne_t1_b22).ext E29).other W30 ne_t1_b29).other W31 ne_t1_b29).other W32 ne_t1_b29).other W33 ne_t1_b29).other W34 ne_t1_b29).other W35 ne_t1_b29).other W48 ne_t1_b29), SA.2.2.2.2⟩ ⟨(((((((((((((((Eb.ext E22).wr W23).wr W24).wr W25).wr W26).wr W27).wr W28).ext E29).wr W30).wr W31).wr W32).wr W33).wr W34).wr W35).wr W48), (((((((((((((((Vb.ext E22).other W23 (Or.inl ne_tb_b22)).other W24 (Or.inl ne_tb_b22)).other W25 (Or.inl ne_tb_b22)).other W26 (Or.inl ne_tb_b22)).other W27 (Or.inl ne_tb_b22)).other W28 (Or.inl ne_tb_b22)).ext E29).other W30 (Or.inl ne_tb_b29)).other W31 (Or.inl ne_tb_b29)).other W32 (Or.inl ne_tb_b29)).other W33 (Or.inl ne_tb_b29)).other W34 (Or.inl ne_tb_b29)).other W35 (Or.inl ne_tb_b29)).other W48 (Or.inl ne_tb_b29)), (((((((((((((((Cb.ext E22).other W23 (Or.inl ne_tb_b22)).other W24 (Or.inl ne_tb_b22)).other W25 (Or.inl ne_tb_b22)).other W26 (Or.inl ne_tb_b22)).other W27 (Or.inl ne_tb_b22)).other W28 (Or.inl ne_tb_b22)).ext E29).other W30 (Or.inl ne_tb_b29)).other W31 (Or.inl ne_tb_b29)).other W32 (Or.inl ne_tb_b29)).other W33 (Or.inl ne_tb_b29)).other W34 (Or.inl ne_tb_b29)).other W35 (Or.inl ne_tb_b29)).other W48 (Or.inl ne_tb_b29)), (((((((((((((((Ab.ext E22).other W23 ne_t2_b22).other W24 ne_t2_b22).other W25 ne_t2_b22).other W26 ne_t2_b22).other W27 ne_t2_b22).other W28 ne_t2_b22).ext E29).other W30 ne_t2_b29).other W31 ne_t2_b29).other W32 ne_t2_b29).other W33 ne_t2_b29).other W34 ne_t2_b29).other W35 ne_t2_b29).other W48 ne_t2_b29), SB.2.2.2.2⟩ ((((((((V28.ext E29).other W30 ne_b22_b29).other W31 ne_b22_b29).other W32 ne_b22_b29).other W33 ne_b22_b29).other W34 ne_b22_b29).other W35 ne_b22_b29).other W48 ne_b22_b29) V48 (Or.inr ⟨rfl, fun ⟨zz, z0, z1, z2, z3, z4, z5⟩ => own_addne hc314_49 z2⟩)
    · show Ends p e below s T35 (mkF m 283 #[.val (.int p0), .val (.int p1), .val (.int p2), .val (.int p3), .val (.int p4), .val (.int p5), .val (.int c0), .val (.int c1), .val (.int d0), .val (.int d1), .val (.int md), .val (.ref ta), .val (.ref tb), .val (.int tx), .val (.ref b22), .val (.ref b29), .unset, .unset, .unset, .unset, .unset, .unset] [(.int (3 : Int32))]) _ _ _
      refine Ends.go (fun _ k => XS.istore X35.here hx rfl (hb hby at_283) rfl (l' := #[.val (.int p0), .val (.int p1), .val (.int p2), .val (.int p3), .val (.int p4), .val (.int p5), .val (.int c0), .val (.int c1), .val (.int d0), .val (.int d1), .val (.int md), .val (.ref ta), .val (.ref tb), .val (.int tx), .val (.ref b22), .val (.ref b29), .val (.int (3 : Int32)), .unset, .unset, .unset, .unset, .unset]) rfl k) ?_
      show Ends p e below s T35 (mkF m 285 #[.val (.int p0), .val (.int p1), .val (.int p2), .val (.int p3), .val (.int p4), .val (.int p5), .val (.int c0), .val (.int c1), .val (.int d0), .val (.int d1), .val (.int md), .val (.ref ta), .val (.ref tb), .val (.int tx), .val (.ref b22), .val (.ref b29), .val (.int (3 : Int32)), .unset, .unset, .unset, .unset, .unset] []) _ _ _
      refine Ends.go (fun _ k => XS.iload X35.here hx rfl (hb hby at_285) rfl k) ?_
      show Ends p e below s T35 (mkF m 287 #[.val (.int p0), .val (.int p1), .val (.int p2), .val (.int p3), .val (.int p4), .val (.int p5), .val (.int c0), .val (.int c1), .val (.int d0), .val (.int d1), .val (.int md), .val (.ref ta), .val (.ref tb), .val (.int tx), .val (.ref b22), .val (.ref b29), .val (.int (3 : Int32)), .unset, .unset, .unset, .unset, .unset] [(.int (3 : Int32))]) _ _ _
      refine Ends.go (fun _ k => XS.bipush X35.here hx rfl (hb hby at_287) k) ?_
      show Ends p e below s T35 (mkF m 289 #[.val (.int p0), .val (.int p1), .val (.int p2), .val (.int p3), .val (.int p4), .val (.int p5), .val (.int c0), .val (.int c1), .val (.int d0), .val (.int d1), .val (.int md), .val (.ref ta), .val (.ref tb), .val (.int tx), .val (.ref b22), .val (.ref b29), .val (.int (3 : Int32)), .unset, .unset, .unset, .unset, .unset] [(.int (6 : Int32)), (.int (3 : Int32))]) _ _ _
      refine Ends.go (fun _ k => XS.icmpNo X35.here hx rfl (hb hby at_289) rfl (tlt (by decide : (3 : Int32) < (6 : Int32))).2.1 k) ?_
      show Ends p e below s T35 (mkF m 292 #[.val (.int p0), .val (.int p1), .val (.int p2), .val (.int p3), .val (.int p4), .val (.int p5), .val (.int c0), .val (.int c1), .val (.int d0), .val (.int d1), .val (.int md), .val (.ref ta), .val (.ref tb), .val (.int tx), .val (.ref b22), .val (.ref b29), .val (.int (3 : Int32)), .unset, .unset, .unset, .unset, .unset] []) _ _ _
      refine Ends.go (fun _ k => XS.aload X35.here hx rfl (hb hby at_292) rfl rfl k) ?_
      show Ends p e below s T35 (mkF m 294 #[.val (.int p0), .val (.int p1), .val (.int p2), .val (.int p3), .val (.int p4), .val (.int p5), .val (.int c0), .val (.int c1), .val (.int d0), .val (.int d1), .val (.int md), .val (.ref ta), .val (.ref tb), .val (.int tx), .val (.ref b22), .val (.ref b29), .val (.int (3 : Int32)), .unset, .unset, .unset, .unset, .unset] [(.ref b29)]) _ _ _
      refine Ends.go (fun _ k => XS.iload X35.here hx rfl (hb hby at_294) rfl k) ?_
      show Ends p e below s T35 (mkF m 296 #[.val (.int p0), .val (.int p1), .val (.int p2), .val (.int p3), .val (.int p4), .val (.int p5), .val (.int c0), .val (.int c1), .val (.int d0), .val (.int d1), .val (.int md), .val (.ref ta), .val (.ref tb), .val (.int tx), .val (.ref b22), .val (.ref b29), .val (.int (3 : Int32)), .unset, .unset, .unset, .unset, .unset] [(.int (3 : Int32)), (.ref b29)]) _ _ _
      refine Ends.go (fun _ k => XS.aload X35.here hx rfl (hb hby at_296) rfl rfl k) ?_
      show Ends p e below s T35 (mkF m 298 #[.val (.int p0), .val (.int p1), .val (.int p2), .val (.int p3), .val (.int p4), .val (.int p5), .val (.int c0), .val (.int c1), .val (.int d0), .val (.int d1), .val (.int md), .val (.ref ta), .val (.ref tb), .val (.int tx), .val (.ref b22), .val (.ref b29), .val (.int (3 : Int32)), .unset, .unset, .unset, .unset, .unset] [(.ref b29), (.int (3 : Int32)), (.ref b29)]) _ _ _
      refine Ends.go (fun _ k => XS.iload X35.here hx rfl (hb hby at_298) rfl k) ?_
      show Ends p e below s T35 (mkF m 300 #[.val (.int p0), .val (.int p1), .val (.int p2), .val (.int p3), .val (.int p4), .val (.int p5), .val (.int c0), .val (.int c1), .val (.int d0), .val (.int d1), .val (.int md), .val (.ref ta), .val (.ref tb), .val (.int tx), .val (.ref b22), .val (.ref b29), .val (.int (3 : Int32)), .unset, .unset, .unset, .unset, .unset] [(.int (3 : Int32)), (.ref b29), (.int (3 : Int32)), (.ref b29)]) _ _ _
      obtain ⟨cl52, Ar52, q52, S52, M52, H52, G52⟩ := id V35
      have hin52 := inb_of (j := (3 : Int32)) S52 ⟨by decide, by decide⟩
      refine Ends.go (X35.iaload hx (j := (3 : Int32)) (v := (.int (p3 ^^^ (-1 : Int32)))) (by rw [e35]; exact Ar52.1) (State.isArrayOf_alike hZ.alike Ar52.2.1) Ar52.2.2 hin52 (H52.at hin52 rfl) (g := (mkF m 300 #[.val (.int p0), .val (.int p1), .val (.int p2), .val (.int p3), .val (.int p4), .val (.int p5), .val (.int c0), .val (.int c1), .val (.int d0), .val (.int d1), .val (.int md), .val (.ref ta), .val (.ref tb), .val (.int tx), .val (.ref b22), .val (.ref b29), .val (.int (3 : Int32)), .unset, .unset, .unset, .unset, .unset] [(.int (3 : Int32)), (.ref b29), (.int (3 : Int32)), (.ref b29)])) rfl rfl (hb hby at_300)) ?_
      show Ends p e below s T35 (mkF m 301 #[.val (.int p0), .val (.int p1), .val (.int p2), .val (.int p3), .val (.int p4), .val (.int p5), .val (.int c0), .val (.int c1), .val (.int d0), .val (.int d1), .val (.int md), .val (.ref ta), .val (.ref tb), .val (.int tx), .val (.ref b22), .val (.ref b29), .val (.int (3 : Int32)), .unset, .unset, .unset, .unset, .unset] [(.int (p3 ^^^ (-1 : Int32))), (.int (3 : Int32)), (.ref b29)]) _ _ _
      refine Ends.go (fun _ k => XS.iload X35.here hx rfl (hb hby at_301) rfl k) ?_
      show Ends p e below s T35 (mkF m 303 #[.val (.int p0), .val (.int p1), .val (.int p2), .val (.int p3), .val (.int p4), .val (.int p5), .val (.int c0), .val (.int c1), .val (.int d0), .val (.int d1), .val (.int md), .val (.ref ta), .val (.ref tb), .val (.int tx), .val (.ref b22), .val (.ref b29), .val (.int (3 : Int32)), .unset, .unset, .unset, .unset, .unset] [(.int p5), (.int (p3 ^^^ (-1 : Int32))), (.int (3 : Int32)), (.ref b29)]) _ _ _
      refine Ends.go (fun _ k => XS.iadd X35.here hx rfl (hb hby at_303) rfl k) ?_
      show Ends p e below s T35 (mkF m 304 #[.val (.int p0), .val (.int p1), .val (.int p2), .val (.int p3), .val (.int p4), .val (.int p5), .val (.int c0), .val (.int c1), .val (.int d0), .val (.int d1), .val (.int md), .val (.ref ta), .val (.ref tb), .val (.int tx), .val (.ref b22), .val (.ref b29), .val (.int (3 : Int32)), .unset, .unset, .unset, .unset, .unset] [(.int ((p3 ^^^ (-1 : Int32)) + p5)), (.int (3 : Int32)), (.ref b29)]) _ _ _
      obtain ⟨cl53, Ar53, q53, S53, M53, H53, G53⟩ := id V35
      have hin53 := inb_of (j := (3 : Int32)) S53 ⟨by decide, by decide⟩
      obtain ⟨T53, h53, X53, e53, W53, st53⟩ := stI X35 hx hZ e35 Ar53 (j := (3 : Int32)) hin53 (g := (mkF m 304 #[.val (.int p0), .val (.int p1), .val (.int p2), .val (.int p3), .val (.int p4), .val (.int p5), .val (.int c0), .val (.int c1), .val (.int d0), .val (.int d1), .val (.int md), .val (.ref ta), .val (.ref tb), .val (.int tx), .val (.ref b22), .val (.ref b29), .val (.int (3 : Int32)), .unset, .unset, .unset, .unset, .unset] [(.int ((p3 ^^^ (-1 : Int32)) + p5)), (.int (3 : Int32)), (.ref b29)])) rfl rfl (hb hby at_304)
      refine Ends.go st53 ?_
      have V53 : Arv Z h53 b29 k29 .int (6 : Int32) [(.int p2), (.int p3), (.int (p2 ^^^ (-1 : Int32))), (.int ((p3 ^^^ (-1 : Int32)) + p5)), (.int (p2 ^^^ p3)), (.int (p2 - p3))] (.int (0 : Int32)) := Arv.set Ar53 q53 S53 M53 H53 G53 rfl W53 3 rfl (Nat.le_of_ble_eq_true rfl)
      have K53 := K35.wr W53 (Or.inr sz_b29)
      have O53 := O35.wr W53 g_b29
      have N53 := Fr.snoc X53 N35 g_b29
      show Ends p e below s T53 (mkF m 305 #[.val (.int p0), .val (.int p1), .val (.int p2), .val (.int p3), .val (.int p4), .val (.int p5), .val (.int c0), .val (.int c1), .val (.int d0), .val (.int d1), .val (.int md), .val (.ref ta), .val (.ref tb), .val (.int tx), .val (.ref b22), .val (.ref b29), .val (.int (3 : Int32)), .unset, .unset, .unset, .unset, .unset] []) _ _ _
      refine Ends.go (fun _ k => XS.iload X53.here hx rfl (hb hby at_305) rfl k) ?_
      show Ends p e below s T53 (mkF m 307 #[.val (.int p0), .val (.int p1), .val (.int p2), .val (.int p3), .val (.int p4), .val (.int p5), .val (.int c0), .val (.int c1), .val (.int d0), .val (.int d1), .val (.int md), .val (.ref ta), .val (.ref tb), .val (.int tx), .val (.ref b22), .val (.ref b29), .val (.int (3 : Int32)), .unset, .unset, .unset, .unset, .unset] [(.int (3 : Int32))]) _ _ _
      refine Ends.go (fun _ k => XS.bipush X53.here hx rfl (hb hby at_307) k) ?_
      show Ends p e below s T53 (mkF m 309 #[.val (.int p0), .val (.int p1), .val (.int p2), .val (.int p3), .val (.int p4), .val (.int p5), .val (.int c0), .val (.int c1), .val (.int d0), .val (.int d1), .val (.int md), .val (.ref ta), .val (.ref tb), .val (.int tx), .val (.ref b22), .val (.ref b29), .val (.int (3 : Int32)), .unset, .unset, .unset, .unset, .unset] [(.int (6 : Int32)), (.int (3 : Int32))]) _ _ _
      refine Ends.go (fun _ k => XS.icmpNo X53.here hx rfl (hb hby at_309) rfl (tlt (by decide : (3 : Int32) < (6 : Int32))).2.1 k) ?_
      show Ends p e below s T53 (mkF m 312 #[.val (.int p0), .val (.int p1), .val (.int p2), .val (.int p3), .val (.int p4), .val (.int p5), .val (.int c0), .val (.int c1), .val (.int d0), .val (.int d1), .val (.int md), .val (.ref ta), .val (.ref tb), .val (.int tx), .val (.ref b22), .val (.ref b29), .val (.int (3 : Int32)), .unset, .unset, .unset, .unset, .unset] []) _ _ _
      refine Ends.go (fun _ k => XS.iload X53.here hx rfl (hb hby at_312) rfl k) ?_
      show Ends p e below s T53 (mkF m 314 #[.val (.int p0), .val (.int p1), .val (.int p2), .val (.int p3), .val (.int p4), .val (.int p5), .val (.int c0), .val (.int c1), .val (.int d0), .val (.int d1), .val (.int md), .val (.ref ta), .val (.ref tb), .val (.int tx), .val (.ref b22), .val (.ref b29), .val (.int (3 : Int32)), .unset, .unset, .unset, .unset, .unset] [(.int p5)]) _ _ _
      by_cases hc314_54 : p5 = (0 : Int32)
      · refine Ends.go (fun _ k => XS.ifNo X53.here hx rfl (hb hby at_314) rfl ((if0 _ _).trans (teq hc314_54).2) k) ?_
        show Ends p e below s T53 (mkF m 317 #[.val (.int p0), .val (.int p1), .val (.int p2), .val (.int p3), .val (.int p4), .val (.int p5), .val (.int c0), .val (.int c1), .val (.int d0), .val (.int d1), .val (.int md), .val (.ref ta), .val (.ref tb), .val (.int tx), .val (.ref b22), .val (.ref b29), .val (.int (3 : Int32)), .unset, .unset, .unset, .unset, .unset] []) _ _ _
        refine Ends.go (fun _ k => XS.iconst X53.here hx rfl (hb hby at_317) k) ?_
        show Ends p e below s T53 (mkF m 318 #[.val (.int p0), .val (.int p1), .val (.int p2), .val (.int p3), .val (.int p4), .val (.int p5), .val (.int c0), .val (.int c1), .val (.int d0), .val (.int d1), .val (.int md), .val (.ref ta), .val (.ref tb), .val (.int tx), .val (.ref b22), .val (.ref b29), .val (.int (3 : Int32)), .unset, .unset, .unset, .unset, .unset] [(.int (1 : Int32))]) _ _ _
        refine Ends.go (fun _ k => XS.goto X53.here hx rfl (pc0 := 318) (pc' := 322) rfl (hb hby at_318) (by decide) (by decide) k) ?_
        show Ends p e below s T53 (mkF m 322 #[.val (.int p0), .val (.int p1), .val (.int p2), .val (.int p3), .val (.int p4), .val (.int p5), .val (.int c0), .val (.int c1), .val (.int d0), .val (.int d1), .val (.int md), .val (.ref ta), .val (.ref tb), .val (.int tx), .val (.ref b22), .val (.ref b29), .val (.int (3 : Int32)), .unset, .unset, .unset, .unset, .unset] [(.int (1 : Int32))]) _ _ _
        refine Ends.go (fun _ k => XS.istore X53.here hx rfl (hb hby at_322) rfl (l' := #[.val (.int p0), .val (.int p1), .val (.int p2), .val (.int p3), .val (.int p4), .val (.int p5), .val (.int c0), .val (.int c1), .val (.int d0), .val (.int d1), .val (.int md), .val (.ref ta), .val (.ref tb), .val (.int tx), .val (.ref b22), .val (.ref b29), .val (.int (3 : Int32)), .val (.int (1 : Int32)), .unset, .unset, .unset, .unset]) rfl k) ?_
        show Ends p e below s T53 (mkF m 324 #[.val (.int p0), .val (.int p1), .val (.int p2), .val (.int p3), .val (.int p4), .val (.int p5), .val (.int c0), .val (.int c1), .val (.int d0), .val (.int d1), .val (.int md), .val (.ref ta), .val (.ref tb), .val (.int tx), .val (.ref b22), .val (.ref b29), .val (.int (3 : Int32)), .val (.int (1 : Int32)), .unset, .unset, .unset, .unset] []) _ _ _
        refine Ends.go (fun _ k => XS.iload X53.here hx rfl (hb hby at_324) rfl k) ?_
        show Ends p e below s T53 (mkF m 326 #[.val (.int p0), .val (.int p1), .val (.int p2), .val (.int p3), .val (.int p4), .val (.int p5), .val (.int c0), .val (.int c1), .val (.int d0), .val (.int d1), .val (.int md), .val (.ref ta), .val (.ref tb), .val (.int tx), .val (.ref b22), .val (.ref b29), .val (.int (3 : Int32)), .val (.int (1 : Int32)), .unset, .unset, .unset, .unset] [(.int tx)]) _ _ _
        by_cases hc326_55 : tx = (0 : Int32)
        · refine Ends.go (fun _ k => XS.ifYes X53.here hx rfl (pc0 := 326) (pc' := 338) rfl (hb hby at_326) rfl ((if0 _ _).trans (teq hc326_55).1) (by decide) (by decide) k) ?_
          show Ends p e below s T53 (mkF m 338 #[.val (.int p0), .val (.int p1), .val (.int p2), .val (.int p3), .val (.int p4), .val (.int p5), .val (.int c0), .val (.int c1), .val (.int d0), .val (.int d1), .val (.int md), .val (.ref ta), .val (.ref tb), .val (.int tx), .val (.ref b22), .val (.ref b29), .val (.int (3 : Int32)), .val (.int (1 : Int32)), .unset, .unset, .unset, .unset] []) _ _ _
          refine Ends.go (fun _ k => XS.iconst X53.here hx rfl (hb hby at_338) k) ?_
          show Ends p e below s T53 (mkF m 339 #[.val (.int p0), .val (.int p1), .val (.int p2), .val (.int p3), .val (.int p4), .val (.int p5), .val (.int c0), .val (.int c1), .val (.int d0), .val (.int d1), .val (.int md), .val (.ref ta), .val (.ref tb), .val (.int tx), .val (.ref b22), .val (.ref b29), .val (.int (3 : Int32)), .val (.int (1 : Int32)), .unset, .unset, .unset, .unset] [(.int (0 : Int32))]) _ _ _
          refine Ends.go (fun _ k => XS.istore X53.here hx rfl (hb hby at_339) rfl (l' := #[.val (.int p0), .val (.int p1), .val (.int p2), .val (.int p3), .val (.int p4), .val (.int p5), .val (.int c0), .val (.int c1), .val (.int d0), .val (.int d1), .val (.int md), .val (.ref ta), .val (.ref tb), .val (.int tx), .val (.ref b22), .val (.ref b29), .val (.int (3 : Int32)), .val (.int (1 : Int32)), .val (.int (0 : Int32)), .unset, .unset, .unset]) rfl k) ?_
          show Ends p e below s T53 (mkF m 341 #[.val (.int p0), .val (.int p1), .val (.int p2), .val (.int p3), .val (.int p4), .val (.int p5), .val (.int c0), .val (.int c1), .val (.int d0), .val (.int d1), .val (.int md), .val (.ref ta), .val (.ref tb), .val (.int tx), .val (.ref b22), .val (.ref b29), .val (.int (3 : Int32)), .val (.int (1 : Int32)), .val (.int (0 : Int32)), .unset, .unset, .unset] []) _ _ _
          exact J341 _ _ _ _ _ _ _ _ _ _ p2 p3 (p2 ^^^ (-1 : Int32)) ((p3 ^^^ (-1 : Int32)) + p5) (p2 ^^^ p3) (p2 - p3) X53 e53 O53 N53 K53 ⟨(((((((((((((((Ea.ext E22).wr W23).wr W24).wr W25).wr W26).wr W27).wr W28).ext E29).wr W30).wr W31).wr W32).wr W33).wr W34).wr W35).wr W53), (((((((((((((((Va.ext E22).other W23 (Or.inl ne_ta_b22)).other W24 (Or.inl ne_ta_b22)).other W25 (Or.inl ne_ta_b22)).other W26 (Or.inl ne_ta_b22)).other W27 (Or.inl ne_ta_b22)).other W28 (Or.inl ne_ta_b22)).ext E29).other W30 (Or.inl ne_ta_b29)).other W31 (Or.inl ne_ta_b29)).other W32 (Or.inl ne_ta_b29)).other W33 (Or.inl ne_ta_b29)).other W34 (Or.inl ne_ta_b29)).other W35 (Or.inl ne_ta_b29)).other W53 (Or.inl ne_ta_b29)), (((((((((((((((Ca.ext E22).other W23 (Or.inl ne_ta_b22)).other W24 (Or.inl ne_ta_b22)).other W25 (Or.inl ne_ta_b22)).other W26 (Or.inl ne_ta_b22)).other W27 (Or.inl ne_ta_b22)).other W28 (Or.inl ne_ta_b22)).ext E29).other W30 (Or.inl ne_ta_b29)).other W31 (Or.inl ne_ta_b29)).other W32 (Or.inl ne_ta_b29)).other W33 (Or.inl ne_ta_b29)).other W34 (Or.inl ne_ta_b29)).other W35 (Or.inl ne_ta_b29)).other W53 (Or.inl ne_ta_b29)), (((((((((((((((Aa.ext E22).other W23 ne_t1_b22).other W24 ne_t1_b22).other W25 ne_t1_b22).other W26 ne_t1_b22).other W27 ne_t1_b22).other W28 ne_t1_b22).ext E29).other W30 ne_t1_b29).other W31 ne_t1_b29).other W32 ne_t1_b29).other W33 ne_t1_b29).other W34 ne_t1_b29).other W35 ne_t1_b29).other W53 ne_t1_b29), SA.2.2.2.2⟩ ⟨(((((((((((((((Eb.ext E22).wr W23).wr W24).wr W25).wr W26).wr W27).wr W28).ext E29).wr W30).wr W31).wr W32).wr W33).wr W34).wr W35).wr W53), (((((((((((((((Vb.ext E22).other W23 (Or.inl ne_tb_b22)).other W24 (Or.inl ne_tb_b22)).other W25 (Or.inl ne_tb_b22)).other W26 (Or.inl ne_tb_b22)).other W27 (Or.inl ne_tb_b22)).other W28 (Or.inl ne_tb_b22)).ext E29).other W30 (Or.inl ne_tb_b29)).other W31 (Or.inl ne_tb_b29)).other W32 (Or.inl ne_tb_b29)).other W33 (Or.inl ne_tb_b29)).other W34 (Or.inl ne_tb_b29)).other W35 (Or.inl ne_tb_b29)).other W53 (Or.inl ne_tb_b29)), (((((((((((((((Cb.ext E22).other W23 (Or.inl ne_tb_b22)).other W24 (Or.inl ne_tb_b22)).other W25 (Or.inl ne_tb_b22)).other W26 (Or.inl ne_tb_b22)).other W27 (Or.inl ne_tb_b22)).other W28 (Or.inl ne_tb_b22)).ext E29).other W30 (Or.inl ne_tb_b29)).other W31 (Or.inl ne_tb_b29)).other W32 (Or.inl ne_tb_b29)).other W33 (Or.inl ne_tb_b29)).other W34 (Or.inl ne_tb_b29)).other W35 (Or.inl ne_tb_b29)).other W53 (Or.inl ne_tb_b29)), (((((((((((((((Ab.ext E22).other W23 ne_t2_b22).other W24 ne_t2_b22).other W25 ne_t2_b22).other W26 ne_t2_b22).other W27 ne_t2_b22).other W28 ne_t2_b22).ext E29).other W30 ne_t2_b29).other W31 ne_t2_b29).other W32 ne_t2_b29).other W33 ne_t2_b29).other W34 ne_t2_b29).other W35 ne_t2_b29).other W53 ne_t2_b29), SB.2.2.2.2⟩ ((((((((V28.ext E29).other W30 ne_b22_b29).other W31 ne_b22_b29).other W32 ne_b22_b29).other W33 ne_b22_b29).other W34 ne_b22_b29).other W35 ne_b22_b29).other W53 ne_b22_b29) V53 (Or.inr ⟨rfl, fun q => own_tx0 htx hc326_55 q.1⟩)
        · refine Ends.go (fun _ k => XS.ifNo X53.here hx rfl (hb hby at_326) rfl ((if0 _ _).trans (feq hc326_55).1) k) ?_
          show Ends p e below s T53 (mkF m 329 #[.val (.int p0), .val (.int p1), .val (.int p2), .val (.int p3), .val (.int p4), .val (.int p5), .val (.int c0), .val (.int c1), .val (.int d0), .val (.int d1), .val (.int md), .val (.ref ta), .val (.ref tb), .val (.int tx), .val (.ref b22), .val (.ref b29), .val (.int (3 : Int32)), .val (.int (1 : Int32)), .unset, .unset, .unset, .unset] []) _ _ _
          refine Ends.go (fun _ k => XS.iload X53.here hx rfl (hb hby at_329) rfl k) ?_
          show Ends p e below s T53 (mkF m 331 #[.val (.int p0), .val (.int p1), .val (.int p2), .val (.int p3), .val (.int p4), .val (.int p5), .val (.int c0), .val (.int c1), .val (.int d0), .val (.int d1), .val (.int md), .val (.ref ta), .val (.ref tb), .val (.int tx), .val (.ref b22), .val (.ref b29), .val (.int (3 : Int32)), .val (.int (1 : Int32)), .unset, .unset, .unset, .unset] [(.int (1 : Int32))]) _ _ _
          refine Ends.go (fun _ k => XS.ifNo X53.here hx rfl (hb hby at_331) rfl ((if0 _ _).trans (feq (by decide : ¬ ((1 : Int32) = (0 : Int32)))).1) k) ?_
          show Ends p e below s T53 (mkF m 334 #[.val (.int p0), .val (.int p1), .val (.int p2), .val (.int p3), .val (.int p4), .val (.int p5), .val (.int c0), .val (.int c1), .val (.int d0), .val (.int d1), .val (.int md), .val (.ref ta), .val (.ref tb), .val (.int tx), .val (.ref b22), .val (.ref b29), .val (.int (3 : Int32)), .val (.int (1 : Int32)), .unset, .unset, .unset, .unset] []) _ _ _
          refine Ends.go (fun _ k => XS.iconst X53.here hx rfl (hb hby at_334) k) ?_
          show Ends p e below s T53 (mkF m 335 #[.val (.int p0), .val (.int p1), .val (.int p2), .val (.int p3), .val (.int p4), .val (.int p5), .val (.int c0), .val (.int c1), .val (.int d0), .val (.int d1), .val (.int md), .val (.ref ta), .val (.ref tb), .val (.int tx), .val (.ref b22), .val (.ref b29), .val (.int (3 : Int32)), .val (.int (1 : Int32)), .unset, .unset, .unset, .unset] [(.int (1 : Int32))]) _ _ _
          refine Ends.go (fun _ k => XS.goto X53.here hx rfl (pc0 := 335) (pc' := 339) rfl (hb hby at_335) (by decide) (by decide) k) ?_
          show Ends p e below s T53 (mkF m 339 #[.val (.int p0), .val (.int p1), .val (.int p2), .val (.int p3), .val (.int p4), .val (.int p5), .val (.int c0), .val (.int c1), .val (.int d0), .val (.int d1), .val (.int md), .val (.ref ta), .val (.ref tb), .val (.int tx), .val (.ref b22), .val (.ref b29), .val (.int (3 : Int32)), .val (.int (1 : Int32)), .unset, .unset, .unset, .unset] [(.int (1 : Int32))]) _ _ _
          refine Ends.go (fun _ k => XS.istore X53.here hx rfl (hb hby at_339) rfl (l' := #[.val (.int p0), .val (.int p1), .val (.int p2), .val (.int p3), .val (.int p4), .val (.int p5), .val (.int c0), .val (.int c1), .val (.int d0), .val (.int d1), .val (.int md), .val (.ref ta), .val (.ref tb), .val (.int tx), .val (.ref b22), .val (.ref b29), .val (.int (3 : Int32)), .val (.int (1 : Int32)), .val (.int (1 : Int32)), .unset, .unset, .unset]) rfl k) ?_
          show Ends p e below s T53 (mkF m 341 #[.val (.int p0), .val (.int p1), .val (.int p2), .val (.int p3), .val (.int p4), .val (.int p5), .val (.int c0), .val (.int c1), .val (.int d0), .val (.int d1), .val (.int md), .val (.ref ta), .val (.ref tb), .val (.int tx), .val (.ref b22), .val (.ref b29), .val (.int (3 : Int32)), .val (.int (1 : Int32)), .val (.int (1 : Int32)), .unset, .unset, .unset] []) _ _ _
          exact J341 _ _ _ _ _ _ _ _ _ _ p2 p3 (p2 ^^^ (-1 : Int32)) ((p3 ^^^ (-1 : Int32)) + p5) (p2 ^^^ p3) (p2 - p3) X53 e53 O53 N53 K53 ⟨(((((((((((((((Ea.ext E22).wr W23).wr W24).wr W25).wr W26).wr W27).wr W28).ext E29).wr W30).wr W31).wr W32).wr W33).wr W34).wr W35).wr W53), (((((((((((((((Va.ext E22).other W23 (Or.inl ne_ta_b22)).other W24 (Or.inl ne_ta_b22)).other W25 (Or.inl ne_ta_b22)).other W26 (Or.inl ne_ta_b22)).other W27 (Or.inl ne_ta_b22)).other W28 (Or.inl ne_ta_b22)).ext E29).other W30 (Or.inl ne_ta_b29)).other W31 (Or.inl ne_ta_b29)).other W32 (Or.inl ne_ta_b29)).other W33 (Or.inl ne_ta_b29)).other W34 (Or.inl ne_ta_b29)).other W35 (Or.inl ne_ta_b29)).other W53 (Or.inl ne_ta_b29)), (((((((((((((((Ca.ext E22).other W23 (Or.inl ne_ta_b22)).other W24 (Or.inl ne_ta_b22)).other W25 (Or.inl ne_ta_b22)).other W26 (Or.inl ne_ta_b22)).other W27 (Or.inl ne_ta_b22)).other W28 (Or.inl ne_ta_b22)).ext E29).other W30 (Or.inl ne_ta_b29)).other W31 (Or.inl ne_ta_b29)).other W32 (Or.inl ne_ta_b29)).other W33 (Or.inl ne_ta_b29)).other W34 (Or.inl ne_ta_b29)).other W35 (Or.inl ne_ta_b29)).other W53 (Or.inl ne_ta_b29)), (((((((((((((((Aa.ext E22).other W23 ne_t1_b22).other W24 ne_t1_b22).other W25 ne_t1_b22).other W26 ne_t1_b22).other W27 ne_t1_b22).other W28 ne_t1_b22).ext E29).other W30 ne_t1_b29).other W31 ne_t1_b29).other W32 ne_t1_b29).other W33 ne_t1_b29).other W34 ne_t1_b29).other W35 ne_t1_b29).other W53 ne_t1_b29), SA.2.2.2.2⟩ ⟨(((((((((((((((Eb.ext E22).wr W23).wr W24).wr W25).wr W26).wr W27).wr W28).ext E29).wr W30).wr W31).wr W32).wr W33).wr W34).wr W35).wr W53), (((((((((((((((Vb.ext E22).other W23 (Or.inl ne_tb_b22)).other W24 (Or.inl ne_tb_b22)).other W25 (Or.inl ne_tb_b22)).other W26 (Or.inl ne_tb_b22)).other W27 (Or.inl ne_tb_b22)).other W28 (Or.inl ne_tb_b22)).ext E29).other W30 (Or.inl ne_tb_b29)).other W31 (Or.inl ne_tb_b29)).other W32 (Or.inl ne_tb_b29)).other W33 (Or.inl ne_tb_b29)).other W34 (Or.inl ne_tb_b29)).other W35 (Or.inl ne_tb_b29)).other W53 (Or.inl ne_tb_b29)), (((((((((((((((Cb.ext E22).other W23 (Or.inl ne_tb_b22)).other W24 (Or.inl ne_tb_b22)).other W25 (Or.inl ne_tb_b22)).other W26 (Or.inl ne_tb_b22)).other W27 (Or.inl ne_tb_b22)).other W28 (Or.inl ne_tb_b22)).ext E29).other W30 (Or.inl ne_tb_b29)).other W31 (Or.inl ne_tb_b29)).other W32 (Or.inl ne_tb_b29)).other W33 (Or.inl ne_tb_b29)).other W34 (Or.inl ne_tb_b29)).other W35 (Or.inl ne_tb_b29)).other W53 (Or.inl ne_tb_b29)), (((((((((((((((Ab.ext E22).other W23 ne_t2_b22).other W24 ne_t2_b22).other W25 ne_t2_b22).other W26 ne_t2_b22).other W27 ne_t2_b22).other W28 ne_t2_b22).ext E29).other W30 ne_t2_b29).other W31 ne_t2_b29).other W32 ne_t2_b29).other W33 ne_t2_b29).other W34 ne_t2_b29).other W35 ne_t2_b29).other W53 ne_t2_b29), SB.2.2.2.2⟩ ((((((((V28.ext E29).other W30 ne_b22_b29).other W31 ne_b22_b29).other W32 ne_b22_b29).other W33 ne_b22_b29).other W34 ne_b22_b29).other W35 ne_b22_b29).other W53 ne_b22_b29) V53 (Or.inl ⟨rfl, own_tx1 htx hc326_55, rfl, rfl, rfl, (own_add0 hc314_54), rfl, rfl⟩)
      · refine Ends.go (fun _ k => XS.ifYes X53.here hx rfl (pc0 := 314) (pc' := 321) rfl (hb hby at_314) rfl ((if0 _ _).trans (feq hc314_54).2) (by decide) (by decide) k) ?_
        show Ends p e below s T53 (mkF m 321 #[.val (.int p0), .val (.int p1), .val (.int p2), .val (.int p3), .val (.int p4), .val (.int p5), .val (.int c0), .val (.int c1), .val (.int d0), .val (.int d1), .val (.int md), .val (.ref ta), .val (.ref tb), .val (.int tx), .val (.ref b22), .val (.ref b29), .val (.int (3 : Int32)), .unset, .unset, .unset, .unset, .unset] []) _ _ _
        refine Ends.go (fun _ k => XS.iconst X53.here hx rfl (hb hby at_321) k) ?_
        show Ends p e below s T53 (mkF m 322 #[.val (.int p0), .val (.int p1), .val (.int p2), .val (.int p3), .val (.int p4), .val (.int p5), .val (.int c0), .val (.int c1), .val (.int d0), .val (.int d1), .val (.int md), .val (.ref ta), .val (.ref tb), .val (.int tx), .val (.ref b22), .val (.ref b29), .val (.int (3 : Int32)), .unset, .unset, .unset, .unset, .unset] [(.int (0 : Int32))]) _ _ _
        refine Ends.go (fun _ k => XS.istore X53.here hx rfl (hb hby at_322) rfl (l' := #[.val (.int p0), .val (.int p1), .val (.int p2), .val (.int p3), .val (.int p4), .val (.int p5), .val (.int c0), .val (.int c1), .val (.int d0), .val (.int d1), .val (.int md), .val (.ref ta), .val (.ref tb), .val (.int tx), .val (.ref b22), .val (.ref b29), .val (.int (3 : Int32)), .val (.int (0 : Int32)), .unset, .unset, .unset, .unset]) rfl k) ?_
        show Ends p e below s T53 (mkF m 324 #[.val (.int p0), .val (.int p1), .val (.int p2), .val (.int p3), .val (.int p4), .val (.int p5), .val (.int c0), .val (.int c1), .val (.int d0), .val (.int d1), .val (.int md), .val (.ref ta), .val (.ref tb), .val (.int tx), .val (.ref b22), .val (.ref b29), .val (.int (3 : Int32)), .val (.int (0 : Int32)), .unset, .unset, .unset, .unset] []) _ _ _
        refine Ends.go (fun _ k => XS.iload X53.here hx rfl (hb hby at_324) rfl k) ?_
        show Ends p e below s T53 (mkF m 326 #[.val (.int p0), .val (.int p1), .val (.int p2), .val (.int p3), .val (.int p4), .val (.int p5), .val (.int c0), .val (.int c1), .val (.int d0), .val (.int d1), .val (.int md), .val (.ref ta), .val (.ref tb), .val (.int tx), .val (.ref b22), .val (.ref b29), .val (.int (3 : Int32)), .val (.int (0 : Int32)), .unset, .unset, .unset, .unset] [(.int tx)]) _ _ _
        by_cases hc326_56 : tx = (0 : Int32)
        · refine Ends.go (fun _ k => XS.ifYes X53.here hx rfl (pc0 := 326) (pc' := 338) rfl (hb hby at_326) rfl ((if0 _ _).trans (teq hc326_56).1) (by decide) (by decide) k) ?_
          show Ends p e below s T53 (mkF m 338 #[.val (.int p0), .val (.int p1), .val (.int p2), .val (.int p3), .val (.int p4), .val (.int p5), .val (.int c0), .val (.int c1), .val (.int d0), .val (.int d1), .val (.int md), .val (.ref ta), .val (.ref tb), .val (.int tx), .val (.ref b22), .val (.ref b29), .val (.int (3 : Int32)), .val (.int (0 : Int32)), .unset, .unset, .unset, .unset] []) _ _ _
          refine Ends.go (fun _ k => XS.iconst X53.here hx rfl (hb hby at_338) k) ?_
          show Ends p e below s T53 (mkF m 339 #[.val (.int p0), .val (.int p1), .val (.int p2), .val (.int p3), .val (.int p4), .val (.int p5), .val (.int c0), .val (.int c1), .val (.int d0), .val (.int d1), .val (.int md), .val (.ref ta), .val (.ref tb), .val (.int tx), .val (.ref b22), .val (.ref b29), .val (.int (3 : Int32)), .val (.int (0 : Int32)), .unset, .unset, .unset, .unset] [(.int (0 : Int32))]) _ _ _
          refine Ends.go (fun _ k => XS.istore X53.here hx rfl (hb hby at_339) rfl (l' := #[.val (.int p0), .val (.int p1), .val (.int p2), .val (.int p3), .val (.int p4), .val (.int p5), .val (.int c0), .val (.int c1), .val (.int d0), .val (.int d1), .val (.int md), .val (.ref ta), .val (.ref tb), .val (.int tx), .val (.ref b22), .val (.ref b29), .val (.int (3 : Int32)), .val (.int (0 : Int32)), .val (.int (0 : Int32)), .unset, .unset, .unset]) rfl k) ?_
          show Ends p e below s T53 (mkF m 341 #[.val (.int p0), .val (.int p1), .val (.int p2), .val (.int p3), .val (.int p4), .val (.int p5), .val (.int c0), .val (.int c1), .val (.int d0), .val (.int d1), .val (.int md), .val (.ref ta), .val (.ref tb), .val (.int tx), .val (.ref b22), .val (.ref b29), .val (.int (3 : Int32)), .val (.int (0 : Int32)), .val (.int (0 : Int32)), .unset, .unset, .unset] []) _ _ _
          exact J341 _ _ _ _ _ _ _ _ _ _ p2 p3 (p2 ^^^ (-1 : Int32)) ((p3 ^^^ (-1 : Int32)) + p5) (p2 ^^^ p3) (p2 - p3) X53 e53 O53 N53 K53 ⟨(((((((((((((((Ea.ext E22).wr W23).wr W24).wr W25).wr W26).wr W27).wr W28).ext E29).wr W30).wr W31).wr W32).wr W33).wr W34).wr W35).wr W53), (((((((((((((((Va.ext E22).other W23 (Or.inl ne_ta_b22)).other W24 (Or.inl ne_ta_b22)).other W25 (Or.inl ne_ta_b22)).other W26 (Or.inl ne_ta_b22)).other W27 (Or.inl ne_ta_b22)).other W28 (Or.inl ne_ta_b22)).ext E29).other W30 (Or.inl ne_ta_b29)).other W31 (Or.inl ne_ta_b29)).other W32 (Or.inl ne_ta_b29)).other W33 (Or.inl ne_ta_b29)).other W34 (Or.inl ne_ta_b29)).other W35 (Or.inl ne_ta_b29)).other W53 (Or.inl ne_ta_b29)), (((((((((((((((Ca.ext E22).other W23 (Or.inl ne_ta_b22)).other W24 (Or.inl ne_ta_b22)).other W25 (Or.inl ne_ta_b22)).other W26 (Or.inl ne_ta_b22)).other W27 (Or.inl ne_ta_b22)).other W28 (Or.inl ne_ta_b22)).ext E29).other W30 (Or.inl ne_ta_b29)).other W31 (Or.inl ne_ta_b29)).other W32 (Or.inl ne_ta_b29)).other W33 (Or.inl ne_ta_b29)).other W34 (Or.inl ne_ta_b29)).other W35 (Or.inl ne_ta_b29)).other W53 (Or.inl ne_ta_b29)), (((((((((((((((Aa.ext E22).other W23 ne_t1_b22).other W24 ne_t1_b22).other W25 ne_t1_b22).other W26 ne_t1_b22).other W27 ne_t1_b22).other W28 ne_t1_b22).ext E29).other W30 ne_t1_b29).other W31 ne_t1_b29).other W32 ne_t1_b29).other W33 ne_t1_b29).other W34 ne_t1_b29).other W35 ne_t1_b29).other W53 ne_t1_b29), SA.2.2.2.2⟩ ⟨(((((((((((((((Eb.ext E22).wr W23).wr W24).wr W25).wr W26).wr W27).wr W28).ext E29).wr W30).wr W31).wr W32).wr W33).wr W34).wr W35).wr W53), (((((((((((((((Vb.ext E22).other W23 (Or.inl ne_tb_b22)).other W24 (Or.inl ne_tb_b22)).other W25 (Or.inl ne_tb_b22)).other W26 (Or.inl ne_tb_b22)).other W27 (Or.inl ne_tb_b22)).other W28 (Or.inl ne_tb_b22)).ext E29).other W30 (Or.inl ne_tb_b29)).other W31 (Or.inl ne_tb_b29)).other W32 (Or.inl ne_tb_b29)).other W33 (Or.inl ne_tb_b29)).other W34 (Or.inl ne_tb_b29)).other W35 (Or.inl ne_tb_b29)).other W53 (Or.inl ne_tb_b29)), (((((((((((((((Cb.ext E22).other W23 (Or.inl ne_tb_b22)).other W24 (Or.inl ne_tb_b22)).other W25 (Or.inl ne_tb_b22)).other W26 (Or.inl ne_tb_b22)).other W27 (Or.inl ne_tb_b22)).other W28 (Or.inl ne_tb_b22)).ext E29).other W30 (Or.inl ne_tb_b29)).other W31 (Or.inl ne_tb_b29)).other W32 (Or.inl ne_tb_b29)).other W33 (Or.inl ne_tb_b29)).other W34 (Or.inl ne_tb_b29)).other W35 (Or.inl ne_tb_b29)).other W53 (Or.inl ne_tb_b29)), (((((((((((((((Ab.ext E22).other W23 ne_t2_b22).other W24 ne_t2_b22).other W25 ne_t2_b22).other W26 ne_t2_b22).other W27 ne_t2_b22).other W28 ne_t2_b22).ext E29).other W30 ne_t2_b29).other W31 ne_t2_b29).other W32 ne_t2_b29).other W33 ne_t2_b29).other W34 ne_t2_b29).other W35 ne_t2_b29).other W53 ne_t2_b29), SB.2.2.2.2⟩ ((((((((V28.ext E29).other W30 ne_b22_b29).other W31 ne_b22_b29).other W32 ne_b22_b29).other W33 ne_b22_b29).other W34 ne_b22_b29).other W35 ne_b22_b29).other W53 ne_b22_b29) V53 (Or.inr ⟨rfl, fun q => own_tx0 htx hc326_56 q.1⟩)
        · refine Ends.go (fun _ k => XS.ifNo X53.here hx rfl (hb hby at_326) rfl ((if0 _ _).trans (feq hc326_56).1) k) ?_
          show Ends p e below s T53 (mkF m 329 #[.val (.int p0), .val (.int p1), .val (.int p2), .val (.int p3), .val (.int p4), .val (.int p5), .val (.int c0), .val (.int c1), .val (.int d0), .val (.int d1), .val (.int md), .val (.ref ta), .val (.ref tb), .val (.int tx), .val (.ref b22), .val (.ref b29), .val (.int (3 : Int32)), .val (.int (0 : Int32)), .unset, .unset, .unset, .unset] []) _ _ _
          refine Ends.go (fun _ k => XS.iload X53.here hx rfl (hb hby at_329) rfl k) ?_
          show Ends p e below s T53 (mkF m 331 #[.val (.int p0), .val (.int p1), .val (.int p2), .val (.int p3), .val (.int p4), .val (.int p5), .val (.int c0), .val (.int c1), .val (.int d0), .val (.int d1), .val (.int md), .val (.ref ta), .val (.ref tb), .val (.int tx), .val (.ref b22), .val (.ref b29), .val (.int (3 : Int32)), .val (.int (0 : Int32)), .unset, .unset, .unset, .unset] [(.int (0 : Int32))]) _ _ _
          refine Ends.go (fun _ k => XS.ifYes X53.here hx rfl (pc0 := 331) (pc' := 338) rfl (hb hby at_331) rfl ((if0 _ _).trans (teq (by decide : (0 : Int32) = (0 : Int32))).1) (by decide) (by decide) k) ?_
          show Ends p e below s T53 (mkF m 338 #[.val (.int p0), .val (.int p1), .val (.int p2), .val (.int p3), .val (.int p4), .val (.int p5), .val (.int c0), .val (.int c1), .val (.int d0), .val (.int d1), .val (.int md), .val (.ref ta), .val (.ref tb), .val (.int tx), .val (.ref b22), .val (.ref b29), .val (.int (3 : Int32)), .val (.int (0 : Int32)), .unset, .unset, .unset, .unset] []) _ _ _
          refine Ends.go (fun _ k => XS.iconst X53.here hx rfl (hb hby at_338) k) ?_
          show Ends p e below s T53 (mkF m 339 #[.val (.int p0), .val (.int p1), .val (.int p2), .val (.int p3), .val (.int p4), .val (.int p5), .val (.int c0), .val (.int c1), .val (.int d0), .val (.int d1), .val (.int md), .val (.ref ta), .val (.ref tb), .val (.int tx), .val (.ref b22), .val (.ref b29), .val (.int (3 : Int32)), .val (.int (0 : Int32)), .unset, .unset, .unset, .unset] [(.int (0 : Int32))]) _ _ _
          refine Ends.go (fun _ k => XS.istore X53.here hx rfl (hb hby at_339) rfl (l' := #[.val (.int p0), .val (.int p1), .val (.int p2), .val (.int p3), .val (.int p4), .val (.int p5), .val (.int c0), .val (.int c1), .val (.int d0), .val (.int d1), .val (.int md), .val (.ref ta), .val (.ref tb), .val (.int tx), .val (.ref b22), .val (.ref b29), .val (.int (3 : Int32)), .val (.int (0 : Int32)), .val (.int (0 : Int32)), .unset, .unset, .unset]) rfl k) ?_
          show Ends p e below s T53 (mkF m 341 #[.val (.int p0), .val (.int p1), .val (.int p2), .val (.int p3), .val (.int p4), .val (.int p5), .val (.int c0), .val (.int c1), .val (.int d0), .val (.int d1), .val (.int md), .val (.ref ta), .val (.ref tb), .val (.int tx), .val (.ref b22), .val (.ref b29), .val (.int (3 : Int32)), .val (.int (0 : Int32)), .val (.int (0 : Int32)), .unset, .unset, .unset] []) _ _ _
          exact J341 _ _ _ _ _ _ _ _ _ _ p2 p3 (p2 ^^^ (-1 : Int32)) ((p3 ^^^ (-1 : Int32)) + p5) (p2 ^^^ p3) (p2 - p3) X53 e53 O53 N53 K53 ⟨(((((((((((((((Ea.ext E22).wr W23).wr W24).wr W25).wr W26).wr W27).wr W28).ext E29).wr W30).wr W31).wr W32).wr W33).wr W34).wr W35).wr W53), (((((((((((((((Va.ext E22).other W23 (Or.inl ne_ta_b22)).other W24 (Or.inl ne_ta_b22)).other W25 (Or.inl ne_ta_b22)).other W26 (Or.inl ne_ta_b22)).other W27 (Or.inl ne_ta_b22)).other W28 (Or.inl ne_ta_b22)).ext E29).other W30 (Or.inl ne_ta_b29)).other W31 (Or.inl ne_ta_b29)).other W32 (Or.inl ne_ta_b29)).other W33 (Or.inl ne_ta_b29)).other W34 (Or.inl ne_ta_b29)).other W35 (Or.inl ne_ta_b29)).other W53 (Or.inl ne_ta_b29)), (((((((((((((((Ca.ext E22).other W23 (Or.inl ne_ta_b22)).other W24 (Or.inl ne_ta_b22)).other W25 (Or.inl ne_ta_b22)).other W26 (Or.inl ne_ta_b22)).other W27 (Or.inl ne_ta_b22)).other W28 (Or.inl ne_ta_b22)).ext E29).other W30 (Or.inl ne_ta_b29)).other W31 (Or.inl ne_ta_b29)).other W32 (Or.inl ne_ta_b29)).other W33 (Or.inl ne_ta_b29)).other W34 (Or.inl ne_ta_b29)).other W35 (Or.inl ne_ta_b29)).other W53 (Or.inl ne_ta_b29)), (((((((((((((((Aa.ext E22).other W23 ne_t1_b22).other W24 ne_t1_b22).other W25 ne_t1_b22).other W26 ne_t1_b22).other W27 ne_t1_b22).other W28 ne_t1_b22).ext E29).other W30 ne_t1_b29).other W31 ne_t1_b29).other W32 ne_t1_b29).other W33 ne_t1_b29).other W34 ne_t1_b29).other W35 ne_t1_b29).other W53 ne_t1_b29), SA.2.2.2.2⟩ ⟨(((((((((((((((Eb.ext E22).wr W23).wr W24).wr W25).wr W26).wr W27).wr W28).ext E29).wr W30).wr W31).wr W32).wr W33).wr W34).wr W35).wr W53), (((((((((((((((Vb.ext E22).other W23 (Or.inl ne_tb_b22)).other W24 (Or.inl ne_tb_b22)).other W25 (Or.inl ne_tb_b22)).other W26 (Or.inl ne_tb_b22)).other W27 (Or.inl ne_tb_b22)).other W28 (Or.inl ne_tb_b22)).ext E29).other W30 (Or.inl ne_tb_b29)).other W31 (Or.inl ne_tb_b29)).other W32 (Or.inl ne_tb_b29)).other W33 (Or.inl ne_tb_b29)).other W34 (Or.inl ne_tb_b29)).other W35 (Or.inl ne_tb_b29)).other W53 (Or.inl ne_tb_b29)), (((((((((((((((Cb.ext E22).other W23 (Or.inl ne_tb_b22)).other W24 (Or.inl ne_tb_b22)).other W25 (Or.inl ne_tb_b22)).other W26 (Or.inl ne_tb_b22)).other W27 (Or.inl ne_tb_b22)).other W28 (Or.inl ne_tb_b22)).ext E29).other W30 (Or.inl ne_tb_b29)).other W31 (Or.inl ne_tb_b29)).other W32 (Or.inl ne_tb_b29)).other W33 (Or.inl ne_tb_b29)).other W34 (Or.inl ne_tb_b29)).other W35 (Or.inl ne_tb_b29)).other W53 (Or.inl ne_tb_b29)), (((((((((((((((Ab.ext E22).other W23 ne_t2_b22).other W24 ne_t2_b22).other W25 ne_t2_b22).other W26 ne_t2_b22).other W27 ne_t2_b22).other W28 ne_t2_b22).ext E29).other W30 ne_t2_b29).other W31 ne_t2_b29).other W32 ne_t2_b29).other W33 ne_t2_b29).other W34 ne_t2_b29).other W35 ne_t2_b29).other W53 ne_t2_b29), SB.2.2.2.2⟩ ((((((((V28.ext E29).other W30 ne_b22_b29).other W31 ne_b22_b29).other W32 ne_b22_b29).other W33 ne_b22_b29).other W34 ne_b22_b29).other W35 ne_b22_b29).other W53 ne_b22_b29) V53 (Or.inr ⟨rfl, fun ⟨zz, z0, z1, z2, z3, z4, z5⟩ => own_addne hc314_54 z3⟩)
    · show Ends p e below s T35 (mkF m 283 #[.val (.int p0), .val (.int p1), .val (.int p2), .val (.int p3), .val (.int p4), .val (.int p5), .val (.int c0), .val (.int c1), .val (.int d0), .val (.int d1), .val (.int md), .val (.ref ta), .val (.ref tb), .val (.int tx), .val (.ref b22), .val (.ref b29), .unset, .unset, .unset, .unset, .unset, .unset] [(.int (4 : Int32))]) _ _ _
      refine Ends.go (fun _ k => XS.istore X35.here hx rfl (hb hby at_283) rfl (l' := #[.val (.int p0), .val (.int p1), .val (.int p2), .val (.int p3), .val (.int p4), .val (.int p5), .val (.int c0), .val (.int c1), .val (.int d0), .val (.int d1), .val (.int md), .val (.ref ta), .val (.ref tb), .val (.int tx), .val (.ref b22), .val (.ref b29), .val (.int (4 : Int32)), .unset, .unset, .unset, .unset, .unset]) rfl k) ?_
      show Ends p e below s T35 (mkF m 285 #[.val (.int p0), .val (.int p1), .val (.int p2), .val (.int p3), .val (.int p4), .val (.int p5), .val (.int c0), .val (.int c1), .val (.int d0), .val (.int d1), .val (.int md), .val (.ref ta), .val (.ref tb), .val (.int tx), .val (.ref b22), .val (.ref b29), .val (.int (4 : Int32)), .unset, .unset, .unset, .unset, .unset] []) _ _ _
      refine Ends.go (fun _ k => XS.iload X35.here hx rfl (hb hby at_285) rfl k) ?_
      show Ends p e below s T35 (mkF m 287 #[.val (.int p0), .val (.int p1), .val (.int p2), .val (.int p3), .val (.int p4), .val (.int p5), .val (.int c0), .val (.int c1), .val (.int d0), .val (.int d1), .val (.int md), .val (.ref ta), .val (.ref tb), .val (.int tx), .val (.ref b22), .val (.ref b29), .val (.int (4 : Int32)), .unset, .unset, .unset, .unset, .unset] [(.int (4 : Int32))]) _ _ _
      refine Ends.go (fun _ k => XS.bipush X35.here hx rfl (hb hby at_287) k) ?_
      show Ends p e below s T35 (mkF m 289 #[.val (.int p0), .val (.int p1), .val (.int p2), .val (.int p3), .val (.int p4), .val (.int p5), .val (.int c0), .val (.int c1), .val (.int d0), .val (.int d1), .val (.int md), .val (.ref ta), .val (.ref tb), .val (.int tx), .val (.ref b22), .val (.ref b29), .val (.int (4 : Int32)), .unset, .unset, .unset, .unset, .unset] [(.int (6 : Int32)), (.int (4 : Int32))]) _ _ _
      refine Ends.go (fun _ k => XS.icmpNo X35.here hx rfl (hb hby at_289) rfl (tlt (by decide : (4 : Int32) < (6 : Int32))).2.1 k) ?_
      show Ends p e below s T35 (mkF m 292 #[.val (.int p0), .val (.int p1), .val (.int p2), .val (.int p3), .val (.int p4), .val (.int p5), .val (.int c0), .val (.int c1), .val (.int d0), .val (.int d1), .val (.int md), .val (.ref ta), .val (.ref tb), .val (.int tx), .val (.ref b22), .val (.ref b29), .val (.int (4 : Int32)), .unset, .unset, .unset, .unset, .unset] []) _ _ _
      refine Ends.go (fun _ k => XS.aload X35.here hx rfl (hb hby at_292) rfl rfl k) ?_
      show Ends p e below s T35 (mkF m 294 #[.val (.int p0), .val (.int p1), .val (.int p2), .val (.int p3), .val (.int p4), .val (.int p5), .val (.int c0), .val (.int c1), .val (.int d0), .val (.int d1), .val (.int md), .val (.ref ta), .val (.ref tb), .val (.int tx), .val (.ref b22), .val (.ref b29), .val (.int (4 : Int32)), .unset, .unset, .unset, .unset, .unset] [(.ref b29)]) _ _ _
      refine Ends.go (fun _ k => XS.iload X35.here hx rfl (hb hby at_294) rfl k) ?_
      show Ends p e below s T35 (mkF m 296 #[.val (.int p0), .val (.int p1), .val (.int p2), .val (.int p3), .val (.int p4), .val (.int p5), .val (.int c0), .val (.int c1), .val (.int d0), .val (.int d1), .val (.int md), .val (.ref ta), .val (.ref tb), .val (.int tx), .val (.ref b22), .val (.ref b29), .val (.int (4 : Int32)), .unset, .unset, .unset, .unset, .unset] [(.int (4 : Int32)), (.ref b29)]) _ _ _
      refine Ends.go (fun _ k => XS.aload X35.here hx rfl (hb hby at_296) rfl rfl k) ?_
      show Ends p e below s T35 (mkF m 298 #[.val (.int p0), .val (.int p1), .val (.int p2), .val (.int p3), .val (.int p4), .val (.int p5), .val (.int c0), .val (.int c1), .val (.int d0), .val (.int d1), .val (.int md), .val (.ref ta), .val (.ref tb), .val (.int tx), .val (.ref b22), .val (.ref b29), .val (.int (4 : Int32)), .unset, .unset, .unset, .unset, .unset] [(.ref b29), (.int (4 : Int32)), (.ref b29)]) _ _ _
      refine Ends.go (fun _ k => XS.iload X35.here hx rfl (hb hby at_298) rfl k) ?_
      show Ends p e below s T35 (mkF m 300 #[.val (.int p0), .val (.int p1), .val (.int p2), .val (.int p3), .val (.int p4), .val (.int p5), .val (.int c0), .val (.int c1), .val (.int d0), .val (.int d1), .val (.int md), .val (.ref ta), .val (.ref tb), .val (.int tx), .val (.ref b22), .val (.ref b29), .val (.int (4 : Int32)), .unset, .unset, .unset, .unset, .unset] [(.int (4 : Int32)), (.ref b29), (.int (4 : Int32)), (.ref b29)]) _ _ _
      obtain ⟨cl57, Ar57, q57, S57, M57, H57, G57⟩ := id V35
      have hin57 := inb_of (j := (4 : Int32)) S57 ⟨by decide, by decide⟩
      refine Ends.go (X35.iaload hx (j := (4 : Int32)) (v := (.int (p2 ^^^ p3))) (by rw [e35]; exact Ar57.1) (State.isArrayOf_alike hZ.alike Ar57.2.1) Ar57.2.2 hin57 (H57.at hin57 rfl) (g := (mkF m 300 #[.val (.int p0), .val (.int p1), .val (.int p2), .val (.int p3), .val (.int p4), .val (.int p5), .val (.int c0), .val (.int c1), .val (.int d0), .val (.int d1), .val (.int md), .val (.ref ta), .val (.ref tb), .val (.int tx), .val (.ref b22), .val (.ref b29), .val (.int (4 : Int32)), .unset, .unset, .unset, .unset, .unset] [(.int (4 : Int32)), (.ref b29), (.int (4 : Int32)), (.ref b29)])) rfl rfl (hb hby at_300)) ?_
      show Ends p e below s T35 (mkF m 301 #[.val (.int p0), .val (.int p1), .val (.int p2), .val (.int p3), .val (.int p4), .val (.int p5), .val (.int c0), .val (.int c1), .val (.int d0), .val (.int d1), .val (.int md), .val (.ref ta), .val (.ref tb), .val (.int tx), .val (.ref b22), .val (.ref b29), .val (.int (4 : Int32)), .unset, .unset, .unset, .unset, .unset] [(.int (p2 ^^^ p3)), (.int (4 : Int32)), (.ref b29)]) _ _ _
      refine Ends.go (fun _ k => XS.iload X35.here hx rfl (hb hby at_301) rfl k) ?_
      show Ends p e below s T35 (mkF m 303 #[.val (.int p0), .val (.int p1), .val (.int p2), .val (.int p3), .val (.int p4), .val (.int p5), .val (.int c0), .val (.int c1), .val (.int d0), .val (.int d1), .val (.int md), .val (.ref ta), .val (.ref tb), .val (.int tx), .val (.ref b22), .val (.ref b29), .val (.int (4 : Int32)), .unset, .unset, .unset, .unset, .unset] [(.int p5), (.int (p2 ^^^ p3)), (.int (4 : Int32)), (.ref b29)]) _ _ _
      refine Ends.go (fun _ k => XS.iadd X35.here hx rfl (hb hby at_303) rfl k) ?_
      show Ends p e below s T35 (mkF m 304 #[.val (.int p0), .val (.int p1), .val (.int p2), .val (.int p3), .val (.int p4), .val (.int p5), .val (.int c0), .val (.int c1), .val (.int d0), .val (.int d1), .val (.int md), .val (.ref ta), .val (.ref tb), .val (.int tx), .val (.ref b22), .val (.ref b29), .val (.int (4 : Int32)), .unset, .unset, .unset, .unset, .unset] [(.int ((p2 ^^^ p3) + p5)), (.int (4 : Int32)), (.ref b29)]) _ _ _
      obtain ⟨cl58, Ar58, q58, S58, M58, H58, G58⟩ := id V35
      have hin58 := inb_of (j := (4 : Int32)) S58 ⟨by decide, by decide⟩
      obtain ⟨T58, h58, X58, e58, W58, st58⟩ := stI X35 hx hZ e35 Ar58 (j := (4 : Int32)) hin58 (g := (mkF m 304 #[.val (.int p0), .val (.int p1), .val (.int p2), .val (.int p3), .val (.int p4), .val (.int p5), .val (.int c0), .val (.int c1), .val (.int d0), .val (.int d1), .val (.int md), .val (.ref ta), .val (.ref tb), .val (.int tx), .val (.ref b22), .val (.ref b29), .val (.int (4 : Int32)), .unset, .unset, .unset, .unset, .unset] [(.int ((p2 ^^^ p3) + p5)), (.int (4 : Int32)), (.ref b29)])) rfl rfl (hb hby at_304)
      refine Ends.go st58 ?_
      have V58 : Arv Z h58 b29 k29 .int (6 : Int32) [(.int p2), (.int p3), (.int (p2 ^^^ (-1 : Int32))), (.int (p3 ^^^ (-1 : Int32))), (.int ((p2 ^^^ p3) + p5)), (.int (p2 - p3))] (.int (0 : Int32)) := Arv.set Ar58 q58 S58 M58 H58 G58 rfl W58 4 rfl (Nat.le_of_ble_eq_true rfl)
      have K58 := K35.wr W58 (Or.inr sz_b29)
      have O58 := O35.wr W58 g_b29
      have N58 := Fr.snoc X58 N35 g_b29
      show Ends p e below s T58 (mkF m 305 #[.val (.int p0), .val (.int p1), .val (.int p2), .val (.int p3), .val (.int p4), .val (.int p5), .val (.int c0), .val (.int c1), .val (.int d0), .val (.int d1), .val (.int md), .val (.ref ta), .val (.ref tb), .val (.int tx), .val (.ref b22), .val (.ref b29), .val (.int (4 : Int32)), .unset, .unset, .unset, .unset, .unset] []) _ _ _
      refine Ends.go (fun _ k => XS.iload X58.here hx rfl (hb hby at_305) rfl k) ?_
      show Ends p e below s T58 (mkF m 307 #[.val (.int p0), .val (.int p1), .val (.int p2), .val (.int p3), .val (.int p4), .val (.int p5), .val (.int c0), .val (.int c1), .val (.int d0), .val (.int d1), .val (.int md), .val (.ref ta), .val (.ref tb), .val (.int tx), .val (.ref b22), .val (.ref b29), .val (.int (4 : Int32)), .unset, .unset, .unset, .unset, .unset] [(.int (4 : Int32))]) _ _ _
      refine Ends.go (fun _ k => XS.bipush X58.here hx rfl (hb hby at_307) k) ?_
      show Ends p e below s T58 (mkF m 309 #[.val (.int p0), .val (.int p1), .val (.int p2), .val (.int p3), .val (.int p4), .val (.int p5), .val (.int c0), .val (.int c1), .val (.int d0), .val (.int d1), .val (.int md), .val (.ref ta), .val (.ref tb), .val (.int tx), .val (.ref b22), .val (.ref b29), .val (.int (4 : Int32)), .unset, .unset, .unset, .unset, .unset] [(.int (6 : Int32)), (.int (4 : Int32))]) _ _ _
      refine Ends.go (fun _ k => XS.icmpNo X58.here hx rfl (hb hby at_309) rfl (tlt (by decide : (4 : Int32) < (6 : Int32))).2.1 k) ?_
      show Ends p e below s T58 (mkF m 312 #[.val (.int p0), .val (.int p1), .val (.int p2), .val (.int p3), .val (.int p4), .val (.int p5), .val (.int c0), .val (.int c1), .val (.int d0), .val (.int d1), .val (.int md), .val (.ref ta), .val (.ref tb), .val (.int tx), .val (.ref b22), .val (.ref b29), .val (.int (4 : Int32)), .unset, .unset, .unset, .unset, .unset] []) _ _ _
      refine Ends.go (fun _ k => XS.iload X58.here hx rfl (hb hby at_312) rfl k) ?_
      show Ends p e below s T58 (mkF m 314 #[.val (.int p0), .val (.int p1), .val (.int p2), .val (.int p3), .val (.int p4), .val (.int p5), .val (.int c0), .val (.int c1), .val (.int d0), .val (.int d1), .val (.int md), .val (.ref ta), .val (.ref tb), .val (.int tx), .val (.ref b22), .val (.ref b29), .val (.int (4 : Int32)), .unset, .unset, .unset, .unset, .unset] [(.int p5)]) _ _ _
      by_cases hc314_59 : p5 = (0 : Int32)
      · refine Ends.go (fun _ k => XS.ifNo X58.here hx rfl (hb hby at_314) rfl ((if0 _ _).trans (teq hc314_59).2) k) ?_
        show Ends p e below s T58 (mkF m 317 #[.val (.int p0), .val (.int p1), .val (.int p2), .val (.int p3), .val (.int p4), .val (.int p5), .val (.int c0), .val (.int c1), .val (.int d0), .val (.int d1), .val (.int md), .val (.ref ta), .val (.ref tb), .val (.int tx), .val (.ref b22), .val (.ref b29), .val (.int (4 : Int32)), .unset, .unset, .unset, .unset, .unset] []) _ _ _
        refine Ends.go (fun _ k => XS.iconst X58.here hx rfl (hb hby at_317) k) ?_
        show Ends p e below s T58 (mkF m 318 #[.val (.int p0), .val (.int p1), .val (.int p2), .val (.int p3), .val (.int p4), .val (.int p5), .val (.int c0), .val (.int c1), .val (.int d0), .val (.int d1), .val (.int md), .val (.ref ta), .val (.ref tb), .val (.int tx), .val (.ref b22), .val (.ref b29), .val (.int (4 : Int32)), .unset, .unset, .unset, .unset, .unset] [(.int (1 : Int32))]) _ _ _
        refine Ends.go (fun _ k => XS.goto X58.here hx rfl (pc0 := 318) (pc' := 322) rfl (hb hby at_318) (by decide) (by decide) k) ?_
        show Ends p e below s T58 (mkF m 322 #[.val (.int p0), .val (.int p1), .val (.int p2), .val (.int p3), .val (.int p4), .val (.int p5), .val (.int c0), .val (.int c1), .val (.int d0), .val (.int d1), .val (.int md), .val (.ref ta), .val (.ref tb), .val (.int tx), .val (.ref b22), .val (.ref b29), .val (.int (4 : Int32)), .unset, .unset, .unset, .unset, .unset] [(.int (1 : Int32))]) _ _ _
        refine Ends.go (fun _ k => XS.istore X58.here hx rfl (hb hby at_322) rfl (l' := #[.val (.int p0), .val (.int p1), .val (.int p2), .val (.int p3), .val (.int p4), .val (.int p5), .val (.int c0), .val (.int c1), .val (.int d0), .val (.int d1), .val (.int md), .val (.ref ta), .val (.ref tb), .val (.int tx), .val (.ref b22), .val (.ref b29), .val (.int (4 : Int32)), .val (.int (1 : Int32)), .unset, .unset, .unset, .unset]) rfl k) ?_
        show Ends p e below s T58 (mkF m 324 #[.val (.int p0), .val (.int p1), .val (.int p2), .val (.int p3), .val (.int p4), .val (.int p5), .val (.int c0), .val (.int c1), .val (.int d0), .val (.int d1), .val (.int md), .val (.ref ta), .val (.ref tb), .val (.int tx), .val (.ref b22), .val (.ref b29), .val (.int (4 : Int32)), .val (.int (1 : Int32)), .unset, .unset, .unset, .unset] []) _ _ _
        refine Ends.go (fun _ k => XS.iload X58.here hx rfl (hb hby at_324) rfl k) ?_
        show Ends p e below s T58 (mkF m 326 #[.val (.int p0), .val (.int p1), .val (.int p2), .val (.int p3), .val (.int p4), .val (.int p5), .val (.int c0), .val (.int c1), .val (.int d0), .val (.int d1), .val (.int md), .val (.ref ta), .val (.ref tb), .val (.int tx), .val (.ref b22), .val (.ref b29), .val (.int (4 : Int32)), .val (.int (1 : Int32)), .unset, .unset, .unset, .unset] [(.int tx)]) _ _ _
        by_cases hc326_60 : tx = (0 : Int32)
        · refine Ends.go (fun _ k => XS.ifYes X58.here hx rfl (pc0 := 326) (pc' := 338) rfl (hb hby at_326) rfl ((if0 _ _).trans (teq hc326_60).1) (by decide) (by decide) k) ?_
          show Ends p e below s T58 (mkF m 338 #[.val (.int p0), .val (.int p1), .val (.int p2), .val (.int p3), .val (.int p4), .val (.int p5), .val (.int c0), .val (.int c1), .val (.int d0), .val (.int d1), .val (.int md), .val (.ref ta), .val (.ref tb), .val (.int tx), .val (.ref b22), .val (.ref b29), .val (.int (4 : Int32)), .val (.int (1 : Int32)), .unset, .unset, .unset, .unset] []) _ _ _
          refine Ends.go (fun _ k => XS.iconst X58.here hx rfl (hb hby at_338) k) ?_
          show Ends p e below s T58 (mkF m 339 #[.val (.int p0), .val (.int p1), .val (.int p2), .val (.int p3), .val (.int p4), .val (.int p5), .val (.int c0), .val (.int c1), .val (.int d0), .val (.int d1), .val (.int md), .val (.ref ta), .val (.ref tb), .val (.int tx), .val (.ref b22), .val (.ref b29), .val (.int (4 : Int32)), .val (.int (1 : Int32)), .unset, .unset, .unset, .unset] [(.int (0 : Int32))]) _ _ _
          refine Ends.go (fun _ k => XS.istore X58.here hx rfl (hb hby at_339) rfl (l' := #[.val (.int p0), .val (.int p1), .val (.int p2), .val (.int p3), .val (.int p4), .val (.int p5), .val (.int c0), .val (.int c1), .val (.int d0), .val (.int d1), .val (.int md), .val (.ref ta), .val (.ref tb), .val (.int tx), .val (.ref b22), .val (.ref b29), .val (.int (4 : Int32)), .val (.int (1 : Int32)), .val (.int (0 : Int32)), .unset, .unset, .unset]) rfl k) ?_
          show Ends p e below s T58 (mkF m 341 #[.val (.int p0), .val (.int p1), .val (.int p2), .val (.int p3), .val (.int p4), .val (.int p5), .val (.int c0), .val (.int c1), .val (.int d0), .val (.int d1), .val (.int md), .val (.ref ta), .val (.ref tb), .val (.int tx), .val (.ref b22), .val (.ref b29), .val (.int (4 : Int32)), .val (.int (1 : Int32)), .val (.int (0 : Int32)), .unset, .unset, .unset] []) _ _ _
          exact J341 _ _ _ _ _ _ _ _ _ _ p2 p3 (p2 ^^^ (-1 : Int32)) (p3 ^^^ (-1 : Int32)) ((p2 ^^^ p3) + p5) (p2 - p3) X58 e58 O58 N58 K58 ⟨(((((((((((((((Ea.ext E22).wr W23).wr W24).wr W25).wr W26).wr W27).wr W28).ext E29).wr W30).wr W31).wr W32).wr W33).wr W34).wr W35).wr W58), (((((((((((((((Va.ext E22).other W23 (Or.inl ne_ta_b22)).other W24 (Or.inl ne_ta_b22)).other W25 (Or.inl ne_ta_b22)).other W26 (Or.inl ne_ta_b22)).other W27 (Or.inl ne_ta_b22)).other W28 (Or.inl ne_ta_b22)).ext E29).other W30 (Or.inl ne_ta_b29)).other W31 (Or.inl ne_ta_b29)).other W32 (Or.inl ne_ta_b29)).other W33 (Or.inl ne_ta_b29)).other W34 (Or.inl ne_ta_b29)).other W35 (Or.inl ne_ta_b29)).other W58 (Or.inl ne_ta_b29)), (((((((((((((((Ca.ext E22).other W23 (Or.inl ne_ta_b22)).other W24 (Or.inl ne_ta_b22)).other W25 (Or.inl ne_ta_b22)).other W26 (Or.inl ne_ta_b22)).other W27 (Or.inl ne_ta_b22)).other W28 (Or.inl ne_ta_b22)).ext E29).other W30 (Or.inl ne_ta_b29)).other W31 (Or.inl ne_ta_b29)).other W32 (Or.inl ne_ta_b29)).other W33 (Or.inl ne_ta_b29)).other W34 (Or.inl ne_ta_b29)).other W35 (Or.inl ne_ta_b29)).other W58 (Or.inl ne_ta_b29)), (((((((((((((((Aa.ext E22).other W23 ne_t1_b22).other W24 ne_t1_b22).other W25 ne_t1_b22).other W26 ne_t1_b22).other W27 ne_t1_b22).other W28 ne_t1_b22).ext E29).other W30 ne_t1_b29).other W31 ne_t1_b29).other W32 ne_t1_b29).other W33 ne_t1_b29).other W34 ne_t1_b29).other W35 ne_t1_b29).other W58 ne_t1_b29), SA.2.2.2.2⟩ ⟨(((((((((((((((Eb.ext E22).wr W23).wr W24).wr W25).wr W26).wr W27).wr W28).ext E29).wr W30).wr W31).wr W32).wr W33).wr W34).wr W35).wr W58), (((((((((((((((Vb.ext E22).other W23 (Or.inl ne_tb_b22)).other W24 (Or.inl ne_tb_b22)).other W25 (Or.inl ne_tb_b22)).other W26 (Or.inl ne_tb_b22)).other W27 (Or.inl ne_tb_b22)).other W28 (Or.inl ne_tb_b22)).ext E29).other W30 (Or.inl ne_tb_b29)).other W31 (Or.inl ne_tb_b29)).other W32 (Or.inl ne_tb_b29)).other W33 (Or.inl ne_tb_b29)).other W34 (Or.inl ne_tb_b29)).other W35 (Or.inl ne_tb_b29)).other W58 (Or.inl ne_tb_b29)), (((((((((((((((Cb.ext E22).other W23 (Or.inl ne_tb_b22)).other W24 (Or.inl ne_tb_b22)).other W25 (Or.inl ne_tb_b22)).other W26 (Or.inl ne_tb_b22)).other W27 (Or.inl ne_tb_b22)).other W28 (Or.inl ne_tb_b22)).ext E29).other W30 (Or.inl ne_tb_b29)).other W31 (Or.inl ne_tb_b29)).other W32 (Or.inl ne_tb_b29)).other W33 (Or.inl ne_tb_b29)).other W34 (Or.inl ne_tb_b29)).other W35 (Or.inl ne_tb_b29)).other W58 (Or.inl ne_tb_b29)), (((((((((((((((Ab.ext E22).other W23 ne_t2_b22).other W24 ne_t2_b22).other W25 ne_t2_b22).other W26 ne_t2_b22).other W27 ne_t2_b22).other W28 ne_t2_b22).ext E29).other W30 ne_t2_b29).other W31 ne_t2_b29).other W32 ne_t2_b29).other W33 ne_t2_b29).other W34 ne_t2_b29).other W35 ne_t2_b29).other W58 ne_t2_b29), SB.2.2.2.2⟩ ((((((((V28.ext E29).other W30 ne_b22_b29).other W31 ne_b22_b29).other W32 ne_b22_b29).other W33 ne_b22_b29).other W34 ne_b22_b29).other W35 ne_b22_b29).other W58 ne_b22_b29) V58 (Or.inr ⟨rfl, fun q => own_tx0 htx hc326_60 q.1⟩)
        · refine Ends.go (fun _ k => XS.ifNo X58.here hx rfl (hb hby at_326) rfl ((if0 _ _).trans (feq hc326_60).1) k) ?_
          show Ends p e below s T58 (mkF m 329 #[.val (.int p0), .val (.int p1), .val (.int p2), .val (.int p3), .val (.int p4), .val (.int p5), .val (.int c0), .val (.int c1), .val (.int d0), .val (.int d1), .val (.int md), .val (.ref ta), .val (.ref tb), .val (.int tx), .val (.ref b22), .val (.ref b29), .val (.int (4 : Int32)), .val (.int (1 : Int32)), .unset, .unset, .unset, .unset] []) _ _ _
          refine Ends.go (fun _ k => XS.iload X58.here hx rfl (hb hby at_329) rfl k) ?_
          show Ends p e below s T58 (mkF m 331 #[.val (.int p0), .val (.int p1), .val (.int p2), .val (.int p3), .val (.int p4), .val (.int p5), .val (.int c0), .val (.int c1), .val (.int d0), .val (.int d1), .val (.int md), .val (.ref ta), .val (.ref tb), .val (.int tx), .val (.ref b22), .val (.ref b29), .val (.int (4 : Int32)), .val (.int (1 : Int32)), .unset, .unset, .unset, .unset] [(.int (1 : Int32))]) _ _ _
          refine Ends.go (fun _ k => XS.ifNo X58.here hx rfl (hb hby at_331) rfl ((if0 _ _).trans (feq (by decide : ¬ ((1 : Int32) = (0 : Int32)))).1) k) ?_
          show Ends p e below s T58 (mkF m 334 #[.val (.int p0), .val (.int p1), .val (.int p2), .val (.int p3), .val (.int p4), .val (.int p5), .val (.int c0), .val (.int c1), .val (.int d0), .val (.int d1), .val (.int md), .val (.ref ta), .val (.ref tb), .val (.int tx), .val (.ref b22), .val (.ref b29), .val (.int (4 : Int32)), .val (.int (1 : Int32)), .unset, .unset, .unset, .unset] []) _ _ _
          refine Ends.go (fun _ k => XS.iconst X58.here hx rfl (hb hby at_334) k) ?_
          show Ends p e below s T58 (mkF m 335 #[.val (.int p0), .val (.int p1), .val (.int p2), .val (.int p3), .val (.int p4), .val (.int p5), .val (.int c0), .val (.int c1), .val (.int d0), .val (.int d1), .val (.int md), .val (.ref ta), .val (.ref tb), .val (.int tx), .val (.ref b22), .val (.ref b29), .val (.int (4 : Int32)), .val (.int (1 : Int32)), .unset, .unset, .unset, .unset] [(.int (1 : Int32))]) _ _ _
          refine Ends.go (fun _ k => XS.goto X58.here hx rfl (pc0 := 335) (pc' := 339) rfl (hb hby at_335) (by decide) (by decide) k) ?_
          show Ends p e below s T58 (mkF m 339 #[.val (.int p0), .val (.int p1), .val (.int p2), .val (.int p3), .val (.int p4), .val (.int p5), .val (.int c0), .val (.int c1), .val (.int d0), .val (.int d1), .val (.int md), .val (.ref ta), .val (.ref tb), .val (.int tx), .val (.ref b22), .val (.ref b29), .val (.int (4 : Int32)), .val (.int (1 : Int32)), .unset, .unset, .unset, .unset] [(.int (1 : Int32))]) _ _ _
          refine Ends.go (fun _ k => XS.istore X58.here hx rfl (hb hby at_339) rfl (l' := #[.val (.int p0), .val (.int p1), .val (.int p2), .val (.int p3), .val (.int p4), .val (.int p5), .val (.int c0), .val (.int c1), .val (.int d0), .val (.int d1), .val (.int md), .val (.ref ta), .val (.ref tb), .val (.int tx), .val (.ref b22), .val (.ref b29), .val (.int (4 : Int32)), .val (.int (1 : Int32)), .val (.int (1 : Int32)), .unset, .unset, .unset]) rfl k) ?_
          show Ends p e below s T58 (mkF m 341 #[.val (.int p0), .val (.int p1), .val (.int p2), .val (.int p3), .val (.int p4), .val (.int p5), .val (.int c0), .val (.int c1), .val (.int d0), .val (.int d1), .val (.int md), .val (.ref ta), .val (.ref tb), .val (.int tx), .val (.ref b22), .val (.ref b29), .val (.int (4 : Int32)), .val (.int (1 : Int32)), .val (.int (1 : Int32)), .unset, .unset, .unset] []) _ _ _
          exact J341 _ _ _ _ _ _ _ _ _ _ p2 p3 (p2 ^^^ (-1 : Int32)) (p3 ^^^ (-1 : Int32)) ((p2 ^^^ p3) + p5) (p2 - p3) X58 e58 O58 N58 K58 ⟨(((((((((((((((Ea.ext E22).wr W23).wr W24).wr W25).wr W26).wr W27).wr W28).ext E29).wr W30).wr W31).wr W32).wr W33).wr W34).wr W35).wr W58), (((((((((((((((Va.ext E22).other W23 (Or.inl ne_ta_b22)).other W24 (Or.inl ne_ta_b22)).other W25 (Or.inl ne_ta_b22)).other W26 (Or.inl ne_ta_b22)).other W27 (Or.inl ne_ta_b22)).other W28 (Or.inl ne_ta_b22)).ext E29).other W30 (Or.inl ne_ta_b29)).other W31 (Or.inl ne_ta_b29)).other W32 (Or.inl ne_ta_b29)).other W33 (Or.inl ne_ta_b29)).other W34 (Or.inl ne_ta_b29)).other W35 (Or.inl ne_ta_b29)).other W58 (Or.inl ne_ta_b29)), (((((((((((((((Ca.ext E22).other W23 (Or.inl ne_ta_b22)).other W24 (Or.inl ne_ta_b22)).other W25 (Or.inl ne_ta_b22)).other W26 (Or.inl ne_ta_b22)).other W27 (Or.inl ne_ta_b22)).other W28 (Or.inl ne_ta_b22)).ext E29).other W30 (Or.inl ne_ta_b29)).other W31 (Or.inl ne_ta_b29)).other W32 (Or.inl ne_ta_b29)).other W33 (Or.inl ne_ta_b29)).other W34 (Or.inl ne_ta_b29)).other W35 (Or.inl ne_ta_b29)).other W58 (Or.inl ne_ta_b29)), (((((((((((((((Aa.ext E22).other W23 ne_t1_b22).other W24 ne_t1_b22).other W25 ne_t1_b22).other W26 ne_t1_b22).other W27 ne_t1_b22).other W28 ne_t1_b22).ext E29).other W30 ne_t1_b29).other W31 ne_t1_b29).other W32 ne_t1_b29).other W33 ne_t1_b29).other W34 ne_t1_b29).other W35 ne_t1_b29).other W58 ne_t1_b29), SA.2.2.2.2⟩ ⟨(((((((((((((((Eb.ext E22).wr W23).wr W24).wr W25).wr W26).wr W27).wr W28).ext E29).wr W30).wr W31).wr W32).wr W33).wr W34).wr W35).wr W58), (((((((((((((((Vb.ext E22).other W23 (Or.inl ne_tb_b22)).other W24 (Or.inl ne_tb_b22)).other W25 (Or.inl ne_tb_b22)).other W26 (Or.inl ne_tb_b22)).other W27 (Or.inl ne_tb_b22)).other W28 (Or.inl ne_tb_b22)).ext E29).other W30 (Or.inl ne_tb_b29)).other W31 (Or.inl ne_tb_b29)).other W32 (Or.inl ne_tb_b29)).other W33 (Or.inl ne_tb_b29)).other W34 (Or.inl ne_tb_b29)).other W35 (Or.inl ne_tb_b29)).other W58 (Or.inl ne_tb_b29)), (((((((((((((((Cb.ext E22).other W23 (Or.inl ne_tb_b22)).other W24 (Or.inl ne_tb_b22)).other W25 (Or.inl ne_tb_b22)).other W26 (Or.inl ne_tb_b22)).other W27 (Or.inl ne_tb_b22)).other W28 (Or.inl ne_tb_b22)).ext E29).other W30 (Or.inl ne_tb_b29)).other W31 (Or.inl ne_tb_b29)).other W32 (Or.inl ne_tb_b29)).other W33 (Or.inl ne_tb_b29)).other W34 (Or.inl ne_tb_b29)).other W35 (Or.inl ne_tb_b29)).other W58 (Or.inl ne_tb_b29)), (((((((((((((((Ab.ext E22).other W23 ne_t2_b22).other W24 ne_t2_b22).other W25 ne_t2_b22).other W26 ne_t2_b22).other W27 ne_t2_b22).other W28 ne_t2_b22).ext E29).other W30 ne_t2_b29).other W31 ne_t2_b29).other W32 ne_t2_b29).other W33 ne_t2_b29).other W34 ne_t2_b29).other W35 ne_t2_b29).other W58 ne_t2_b29), SB.2.2.2.2⟩ ((((((((V28.ext E29).other W30 ne_b22_b29).other W31 ne_b22_b29).other W32 ne_b22_b29).other W33 ne_b22_b29).other W34 ne_b22_b29).other W35 ne_b22_b29).other W58 ne_b22_b29) V58 (Or.inl ⟨rfl, own_tx1 htx hc326_60, rfl, rfl, rfl, rfl, (own_add0 hc314_59), rfl⟩)
      · refine Ends.go (fun _ k => XS.ifYes X58.here hx rfl (pc0 := 314) (pc' := 321) rfl (hb hby at_314) rfl ((if0 _ _).trans (feq hc314_59).2) (by decide) (by decide) k) ?_
        show Ends p e below s T58 (mkF m 321 #[.val (.int p0), .val (.int p1), .val (.int p2), .val (.int p3), .val (.int p4), .val (.int p5), .val (.int c0), .val (.int c1), .val (.int d0), .val (.int d1), .val (.int md), .val (.ref ta), .val (.ref tb), .val (.int tx), .val (.ref b22), .val (.ref b29), .val (.int (4 : Int32)), .unset, .unset, .unset, .unset, .unset] []) _ _ _
        refine Ends.go (fun _ k => XS.iconst X58.here hx rfl (hb hby at_321) k) ?_
        show Ends p e below s T58 (mkF m 322 #[.val (.int p0), .val (.int p1), .val (.int p2), .val (.int p3), .val (.int p4), .val (.int p5), .val (.int c0), .val (.int c1), .val (.int d0), .val (.int d1), .val (.int md), .val (.ref ta), .val (.ref tb), .val (.int tx), .val (.ref b22), .val (.ref b29), .val (.int (4 : Int32)), .unset, .unset, .unset, .unset, .unset] [(.int (0 : Int32))]) _ _ _
        refine Ends.go (fun _ k => XS.istore X58.here hx rfl (hb hby at_322) rfl (l' := #[.val (.int p0), .val (.int p1), .val (.int p2), .val (.int p3), .val (.int p4), .val (.int p5), .val (.int c0), .val (.int c1), .val (.int d0), .val (.int d1), .val (.int md), .val (.ref ta), .val (.ref tb), .val (.int tx), .val (.ref b22), .val (.ref b29), .val (.int (4 : Int32)), .val (.int (0 : Int32)), .unset, .unset, .unset, .unset]) rfl k) ?_
        show Ends p e below s T58 (mkF m 324 #[.val (.int p0), .val (.int p1), .val (.int p2), .val (.int p3), .val (.int p4), .val (.int p5), .val (.int c0), .val (.int c1), .val (.int d0), .val (.int d1), .val (.int md), .val (.ref ta), .val (.ref tb), .val (.int tx), .val (.ref b22), .val (.ref b29), .val (.int (4 : Int32)), .val (.int (0 : Int32)), .unset, .unset, .unset, .unset] []) _ _ _
        refine Ends.go (fun _ k => XS.iload X58.here hx rfl (hb hby at_324) rfl k) ?_
        show Ends p e below s T58 (mkF m 326 #[.val (.int p0), .val (.int p1), .val (.int p2), .val (.int p3), .val (.int p4), .val (.int p5), .val (.int c0), .val (.int c1), .val (.int d0), .val (.int d1), .val (.int md), .val (.ref ta), .val (.ref tb), .val (.int tx), .val (.ref b22), .val (.ref b29), .val (.int (4 : Int32)), .val (.int (0 : Int32)), .unset, .unset, .unset, .unset] [(.int tx)]) _ _ _
        by_cases hc326_61 : tx = (0 : Int32)
        · refine Ends.go (fun _ k => XS.ifYes X58.here hx rfl (pc0 := 326) (pc' := 338) rfl (hb hby at_326) rfl ((if0 _ _).trans (teq hc326_61).1) (by decide) (by decide) k) ?_
          show Ends p e below s T58 (mkF m 338 #[.val (.int p0), .val (.int p1), .val (.int p2), .val (.int p3), .val (.int p4), .val (.int p5), .val (.int c0), .val (.int c1), .val (.int d0), .val (.int d1), .val (.int md), .val (.ref ta), .val (.ref tb), .val (.int tx), .val (.ref b22), .val (.ref b29), .val (.int (4 : Int32)), .val (.int (0 : Int32)), .unset, .unset, .unset, .unset] []) _ _ _
          refine Ends.go (fun _ k => XS.iconst X58.here hx rfl (hb hby at_338) k) ?_
          show Ends p e below s T58 (mkF m 339 #[.val (.int p0), .val (.int p1), .val (.int p2), .val (.int p3), .val (.int p4), .val (.int p5), .val (.int c0), .val (.int c1), .val (.int d0), .val (.int d1), .val (.int md), .val (.ref ta), .val (.ref tb), .val (.int tx), .val (.ref b22), .val (.ref b29), .val (.int (4 : Int32)), .val (.int (0 : Int32)), .unset, .unset, .unset, .unset] [(.int (0 : Int32))]) _ _ _
          refine Ends.go (fun _ k => XS.istore X58.here hx rfl (hb hby at_339) rfl (l' := #[.val (.int p0), .val (.int p1), .val (.int p2), .val (.int p3), .val (.int p4), .val (.int p5), .val (.int c0), .val (.int c1), .val (.int d0), .val (.int d1), .val (.int md), .val (.ref ta), .val (.ref tb), .val (.int tx), .val (.ref b22), .val (.ref b29), .val (.int (4 : Int32)), .val (.int (0 : Int32)), .val (.int (0 : Int32)), .unset, .unset, .unset]) rfl k) ?_
          show Ends p e below s T58 (mkF m 341 #[.val (.int p0), .val (.int p1), .val (.int p2), .val (.int p3), .val (.int p4), .val (.int p5), .val (.int c0), .val (.int c1), .val (.int d0), .val (.int d1), .val (.int md), .val (.ref ta), .val (.ref tb), .val (.int tx), .val (.ref b22), .val (.ref b29), .val (.int (4 : Int32)), .val (.int (0 : Int32)), .val (.int (0 : Int32)), .unset, .unset, .unset] []) _ _ _
          exact J341 _ _ _ _ _ _ _ _ _ _ p2 p3 (p2 ^^^ (-1 : Int32)) (p3 ^^^ (-1 : Int32)) ((p2 ^^^ p3) + p5) (p2 - p3) X58 e58 O58 N58 K58 ⟨(((((((((((((((Ea.ext E22).wr W23).wr W24).wr W25).wr W26).wr W27).wr W28).ext E29).wr W30).wr W31).wr W32).wr W33).wr W34).wr W35).wr W58), (((((((((((((((Va.ext E22).other W23 (Or.inl ne_ta_b22)).other W24 (Or.inl ne_ta_b22)).other W25 (Or.inl ne_ta_b22)).other W26 (Or.inl ne_ta_b22)).other W27 (Or.inl ne_ta_b22)).other W28 (Or.inl ne_ta_b22)).ext E29).other W30 (Or.inl ne_ta_b29)).other W31 (Or.inl ne_ta_b29)).other W32 (Or.inl ne_ta_b29)).other W33 (Or.inl ne_ta_b29)).other W34 (Or.inl ne_ta_b29)).other W35 (Or.inl ne_ta_b29)).other W58 (Or.inl ne_ta_b29)), (((((((((((((((Ca.ext E22).other W23 (Or.inl ne_ta_b22)).other W24 (Or.inl ne_ta_b22)).other W25 (Or.inl ne_ta_b22)).other W26 (Or.inl ne_ta_b22)).other W27 (Or.inl ne_ta_b22)).other W28 (Or.inl ne_ta_b22)).ext E29).other W30 (Or.inl ne_ta_b29)).other W31 (Or.inl ne_ta_b29)).other W32 (Or.inl ne_ta_b29)).other W33 (Or.inl ne_ta_b29)).other W34 (Or.inl ne_ta_b29)).other W35 (Or.inl ne_ta_b29)).other W58 (Or.inl ne_ta_b29)), (((((((((((((((Aa.ext E22).other W23 ne_t1_b22).other W24 ne_t1_b22).other W25 ne_t1_b22).other W26 ne_t1_b22).other W27 ne_t1_b22).other W28 ne_t1_b22).ext E29).other W30 ne_t1_b29).other W31 ne_t1_b29).other W32 ne_t1_b29).other W33 ne_t1_b29).other W34 ne_t1_b29).other W35 ne_t1_b29).other W58 ne_t1_b29), SA.2.2.2.2⟩ ⟨(((((((((((((((Eb.ext E22).wr W23).wr W24).wr W25).wr W26).wr W27).wr W28).ext E29).wr W30).wr W31).wr W32).wr W33).wr W34).wr W35).wr W58), (((((((((((((((Vb.ext E22).other W23 (Or.inl ne_tb_b22)).other W24 (Or.inl ne_tb_b22)).other W25 (Or.inl ne_tb_b22)).other W26 (Or.inl ne_tb_b22)).other W27 (Or.inl ne_tb_b22)).other W28 (Or.inl ne_tb_b22)).ext E29).other W30 (Or.inl ne_tb_b29)).other W31 (Or.inl ne_tb_b29)).other W32 (Or.inl ne_tb_b29)).other W33 (Or.inl ne_tb_b29)).other W34 (Or.inl ne_tb_b29)).other W35 (Or.inl ne_tb_b29)).other W58 (Or.inl ne_tb_b29)), (((((((((((((((Cb.ext E22).other W23 (Or.inl ne_tb_b22)).other W24 (Or.inl ne_tb_b22)).other W25 (Or.inl ne_tb_b22)).other W26 (Or.inl ne_tb_b22)).other W27 (Or.inl ne_tb_b22)).other W28 (Or.inl ne_tb_b22)).ext E29).other W30 (Or.inl ne_tb_b29)).other W31 (Or.inl ne_tb_b29)).other W32 (Or.inl ne_tb_b29)).other W33 (Or.inl ne_tb_b29)).other W34 (Or.inl ne_tb_b29)).other W35 (Or.inl ne_tb_b29)).other W58 (Or.inl ne_tb_b29)), (((((((((((((((Ab.ext E22).other W23 ne_t2_b22).other W24 ne_t2_b22).other W25 ne_t2_b22).other W26 ne_t2_b22).other W27 ne_t2_b22).other W28 ne_t2_b22).ext E29).other W30 ne_t2_b29).other W31 ne_t2_b29).other W32 ne_t2_b29).other W33 ne_t2_b29).other W34 ne_t2_b29).other W35 ne_t2_b29).other W58 ne_t2_b29), SB.2.2.2.2⟩ ((((((((V28.ext E29).other W30 ne_b22_b29).other W31 ne_b22_b29).other W32 ne_b22_b29).other W33 ne_b22_b29).other W34 ne_b22_b29).other W35 ne_b22_b29).other W58 ne_b22_b29) V58 (Or.inr ⟨rfl, fun q => own_tx0 htx hc326_61 q.1⟩)
        · refine Ends.go (fun _ k => XS.ifNo X58.here hx rfl (hb hby at_326) rfl ((if0 _ _).trans (feq hc326_61).1) k) ?_
          show Ends p e below s T58 (mkF m 329 #[.val (.int p0), .val (.int p1), .val (.int p2), .val (.int p3), .val (.int p4), .val (.int p5), .val (.int c0), .val (.int c1), .val (.int d0), .val (.int d1), .val (.int md), .val (.ref ta), .val (.ref tb), .val (.int tx), .val (.ref b22), .val (.ref b29), .val (.int (4 : Int32)), .val (.int (0 : Int32)), .unset, .unset, .unset, .unset] []) _ _ _
          refine Ends.go (fun _ k => XS.iload X58.here hx rfl (hb hby at_329) rfl k) ?_
          show Ends p e below s T58 (mkF m 331 #[.val (.int p0), .val (.int p1), .val (.int p2), .val (.int p3), .val (.int p4), .val (.int p5), .val (.int c0), .val (.int c1), .val (.int d0), .val (.int d1), .val (.int md), .val (.ref ta), .val (.ref tb), .val (.int tx), .val (.ref b22), .val (.ref b29), .val (.int (4 : Int32)), .val (.int (0 : Int32)), .unset, .unset, .unset, .unset] [(.int (0 : Int32))]) _ _ _
          refine Ends.go (fun _ k => XS.ifYes X58.here hx rfl (pc0 := 331) (pc' := 338) rfl (hb hby at_331) rfl ((if0 _ _).trans (teq (by decide : (0 : Int32) = (0 : Int32))).1) (by decide) (by decide) k) ?_
          show Ends p e below s T58 (mkF m 338 #[.val (.int p0), .val (.int p1), .val (.int p2), .val (.int p3), .val (.int p4), .val (.int p5), .val (.int c0), .val (.int c1), .val (.int d0), .val (.int d1), .val (.int md), .val (.ref ta), .val (.ref tb), .val (.int tx), .val (.ref b22), .val (.ref b29), .val (.int (4 : Int32)), .val (.int (0 : Int32)), .unset, .unset, .unset, .unset] []) _ _ _
          refine Ends.go (fun _ k => XS.iconst X58.here hx rfl (hb hby at_338) k) ?_
          show Ends p e below s T58 (mkF m 339 #[.val (.int p0), .val (.int p1), .val (.int p2), .val (.int p3), .val (.int p4), .val (.int p5), .val (.int c0), .val (.int c1), .val (.int d0), .val (.int d1), .val (.int md), .val (.ref ta), .val (.ref tb), .val (.int tx), .val (.ref b22), .val (.ref b29), .val (.int (4 : Int32)), .val (.int (0 : Int32)), .unset, .unset, .unset, .unset] [(.int (0 : Int32))]) _ _ _
          refine Ends.go (fun _ k => XS.istore X58.here hx rfl (hb hby at_339) rfl (l' := #[.val (.int p0), .val (.int p1), .val (.int p2), .val (.int p3), .val (.int p4), .val (.int p5), .val (.int c0), .val (.int c1), .val (.int d0), .val (.int d1), .val (.int md), .val (.ref ta), .val (.ref tb), .val (.int tx), .val (.ref b22), .val (.ref b29), .val (.int (4 : Int32)), .val (.int (0 : Int32)), .val (.int (0 : Int32)), .unset, .unset, .unset]) rfl k) ?_
          show Ends p e below s T58 (mkF m 341 #[.val (.int p0), .val (.int p1), .val (.int p2), .val (.int p3), .val (.int p4), .val (.int p5), .val (.int c0), .val (.int c1), .val (.int d0), .val (.int d1), .val (.int md), .val (.ref ta), .val (.ref tb), .val (.int tx), .val (.ref b22), .val (.ref b29), .val (.int (4 : Int32)), .val (.int (0 : Int32)), .val (.int (0 : Int32)), .unset, .unset, .unset] []) _ _ _
          exact J341 _ _ _ _ _ _ _ _ _ _ p2 p3 (p2 ^^^ (-1 : Int32)) (p3 ^^^ (-1 : Int32)) ((p2 ^^^ p3) + p5) (p2 - p3) X58 e58 O58 N58 K58 ⟨(((((((((((((((Ea.ext E22).wr W23).wr W24).wr W25).wr W26).wr W27).wr W28).ext E29).wr W30).wr W31).wr W32).wr W33).wr W34).wr W35).wr W58), (((((((((((((((Va.ext E22).other W23 (Or.inl ne_ta_b22)).other W24 (Or.inl ne_ta_b22)).other W25 (Or.inl ne_ta_b22)).other W26 (Or.inl ne_ta_b22)).other W27 (Or.inl ne_ta_b22)).other W28 (Or.inl ne_ta_b22)).ext E29).other W30 (Or.inl ne_ta_b29)).other W31 (Or.inl ne_ta_b29)).other W32 (Or.inl ne_ta_b29)).other W33 (Or.inl ne_ta_b29)).other W34 (Or.inl ne_ta_b29)).other W35 (Or.inl ne_ta_b29)).other W58 (Or.inl ne_ta_b29)), (((((((((((((((Ca.ext E22).other W23 (Or.inl ne_ta_b22)).other W24 (Or.inl ne_ta_b22)).other W25 (Or.inl ne_ta_b22)).other W26 (Or.inl ne_ta_b22)).other W27 (Or.inl ne_ta_b22)).other W28 (Or.inl ne_ta_b22)).ext E29).other W30 (Or.inl ne_ta_b29)).other W31 (Or.inl ne_ta_b29)).other W32 (Or.inl ne_ta_b29)).other W33 (Or.inl ne_ta_b29)).other W34 (Or.inl ne_ta_b29)).other W35 (Or.inl ne_ta_b29)).other W58 (Or.inl ne_ta_b29)), (((((((((((((((Aa.ext E22).other W23 ne_t1_b22).other W24 ne_t1_b22).other W25 ne_t1_b22).other W26 ne_t1_b22).other W27 ne_t1_b22).other W28 ne_t1_b22).ext E29).other W30 ne_t1_b29).other W31 ne_t1_b29).other W32 ne_t1_b29).other W33 ne_t1_b29).other W34 ne_t1_b29).other W35 ne_t1_b29).other W58 ne_t1_b29), SA.2.2.2.2⟩ ⟨(((((((((((((((Eb.ext E22).wr W23).wr W24).wr W25).wr W26).wr W27).wr W28).ext E29).wr W30).wr W31).wr W32).wr W33).wr W34).wr W35).wr W58), (((((((((((((((Vb.ext E22).other W23 (Or.inl ne_tb_b22)).other W24 (Or.inl ne_tb_b22)).other W25 (Or.inl ne_tb_b22)).other W26 (Or.inl ne_tb_b22)).other W27 (Or.inl ne_tb_b22)).other W28 (Or.inl ne_tb_b22)).ext E29).other W30 (Or.inl ne_tb_b29)).other W31 (Or.inl ne_tb_b29)).other W32 (Or.inl ne_tb_b29)).other W33 (Or.inl ne_tb_b29)).other W34 (Or.inl ne_tb_b29)).other W35 (Or.inl ne_tb_b29)).other W58 (Or.inl ne_tb_b29)), (((((((((((((((Cb.ext E22).other W23 (Or.inl ne_tb_b22)).other W24 (Or.inl ne_tb_b22)).other W25 (Or.inl ne_tb_b22)).other W26 (Or.inl ne_tb_b22)).other W27 (Or.inl ne_tb_b22)).other W28 (Or.inl ne_tb_b22)).ext E29).other W30 (Or.inl ne_tb_b29)).other W31 (Or.inl ne_tb_b29)).other W32 (Or.inl ne_tb_b29)).other W33 (Or.inl ne_tb_b29)).other W34 (Or.inl ne_tb_b29)).other W35 (Or.inl ne_tb_b29)).other W58 (Or.inl ne_tb_b29)), (((((((((((((((Ab.ext E22).other W23 ne_t2_b22).other W24 ne_t2_b22).other W25 ne_t2_b22).other W26 ne_t2_b22).other W27 ne_t2_b22).other W28 ne_t2_b22).ext E29).other W30 ne_t2_b29).other W31 ne_t2_b29).other W32 ne_t2_b29).other W33 ne_t2_b29).other W34 ne_t2_b29).other W35 ne_t2_b29).other W58 ne_t2_b29), SB.2.2.2.2⟩ ((((((((V28.ext E29).other W30 ne_b22_b29).other W31 ne_b22_b29).other W32 ne_b22_b29).other W33 ne_b22_b29).other W34 ne_b22_b29).other W35 ne_b22_b29).other W58 ne_b22_b29) V58 (Or.inr ⟨rfl, fun ⟨zz, z0, z1, z2, z3, z4, z5⟩ => own_addne hc314_59 z4⟩)
    · show Ends p e below s T35 (mkF m 283 #[.val (.int p0), .val (.int p1), .val (.int p2), .val (.int p3), .val (.int p4), .val (.int p5), .val (.int c0), .val (.int c1), .val (.int d0), .val (.int d1), .val (.int md), .val (.ref ta), .val (.ref tb), .val (.int tx), .val (.ref b22), .val (.ref b29), .unset, .unset, .unset, .unset, .unset, .unset] [(.int (5 : Int32))]) _ _ _
      refine Ends.go (fun _ k => XS.istore X35.here hx rfl (hb hby at_283) rfl (l' := #[.val (.int p0), .val (.int p1), .val (.int p2), .val (.int p3), .val (.int p4), .val (.int p5), .val (.int c0), .val (.int c1), .val (.int d0), .val (.int d1), .val (.int md), .val (.ref ta), .val (.ref tb), .val (.int tx), .val (.ref b22), .val (.ref b29), .val (.int (5 : Int32)), .unset, .unset, .unset, .unset, .unset]) rfl k) ?_
      show Ends p e below s T35 (mkF m 285 #[.val (.int p0), .val (.int p1), .val (.int p2), .val (.int p3), .val (.int p4), .val (.int p5), .val (.int c0), .val (.int c1), .val (.int d0), .val (.int d1), .val (.int md), .val (.ref ta), .val (.ref tb), .val (.int tx), .val (.ref b22), .val (.ref b29), .val (.int (5 : Int32)), .unset, .unset, .unset, .unset, .unset] []) _ _ _
      refine Ends.go (fun _ k => XS.iload X35.here hx rfl (hb hby at_285) rfl k) ?_
      show Ends p e below s T35 (mkF m 287 #[.val (.int p0), .val (.int p1), .val (.int p2), .val (.int p3), .val (.int p4), .val (.int p5), .val (.int c0), .val (.int c1), .val (.int d0), .val (.int d1), .val (.int md), .val (.ref ta), .val (.ref tb), .val (.int tx), .val (.ref b22), .val (.ref b29), .val (.int (5 : Int32)), .unset, .unset, .unset, .unset, .unset] [(.int (5 : Int32))]) _ _ _
      refine Ends.go (fun _ k => XS.bipush X35.here hx rfl (hb hby at_287) k) ?_
      show Ends p e below s T35 (mkF m 289 #[.val (.int p0), .val (.int p1), .val (.int p2), .val (.int p3), .val (.int p4), .val (.int p5), .val (.int c0), .val (.int c1), .val (.int d0), .val (.int d1), .val (.int md), .val (.ref ta), .val (.ref tb), .val (.int tx), .val (.ref b22), .val (.ref b29), .val (.int (5 : Int32)), .unset, .unset, .unset, .unset, .unset] [(.int (6 : Int32)), (.int (5 : Int32))]) _ _ _
      refine Ends.go (fun _ k => XS.icmpNo X35.here hx rfl (hb hby at_289) rfl (tlt (by decide : (5 : Int32) < (6 : Int32))).2.1 k) ?_
      show Ends p e below s T35 (mkF m 292 #[.val (.int p0), .val (.int p1), .val (.int p2), .val (.int p3), .val (.int p4), .val (.int p5), .val (.int c0), .val (.int c1), .val (.int d0), .val (.int d1), .val (.int md), .val (.ref ta), .val (.ref tb), .val (.int tx), .val (.ref b22), .val (.ref b29), .val (.int (5 : Int32)), .unset, .unset, .unset, .unset, .unset] []) _ _ _
      refine Ends.go (fun _ k => XS.aload X35.here hx rfl (hb hby at_292) rfl rfl k) ?_
      show Ends p e below s T35 (mkF m 294 #[.val (.int p0), .val (.int p1), .val (.int p2), .val (.int p3), .val (.int p4), .val (.int p5), .val (.int c0), .val (.int c1), .val (.int d0), .val (.int d1), .val (.int md), .val (.ref ta), .val (.ref tb), .val (.int tx), .val (.ref b22), .val (.ref b29), .val (.int (5 : Int32)), .unset, .unset, .unset, .unset, .unset] [(.ref b29)]) _ _ _
      refine Ends.go (fun _ k => XS.iload X35.here hx rfl (hb hby at_294) rfl k) ?_
      show Ends p e below s T35 (mkF m 296 #[.val (.int p0), .val (.int p1), .val (.int p2), .val (.int p3), .val (.int p4), .val (.int p5), .val (.int c0), .val (.int c1), .val (.int d0), .val (.int d1), .val (.int md), .val (.ref ta), .val (.ref tb), .val (.int tx), .val (.ref b22), .val (.ref b29), .val (.int (5 : Int32)), .unset, .unset, .unset, .unset, .unset] [(.int (5 : Int32)), (.ref b29)]) _ _ _
      refine Ends.go (fun _ k => XS.aload X35.here hx rfl (hb hby at_296) rfl rfl k) ?_
      show Ends p e below s T35 (mkF m 298 #[.val (.int p0), .val (.int p1), .val (.int p2), .val (.int p3), .val (.int p4), .val (.int p5), .val (.int c0), .val (.int c1), .val (.int d0), .val (.int d1), .val (.int md), .val (.ref ta), .val (.ref tb), .val (.int tx), .val (.ref b22), .val (.ref b29), .val (.int (5 : Int32)), .unset, .unset, .unset, .unset, .unset] [(.ref b29), (.int (5 : Int32)), (.ref b29)]) _ _ _
      refine Ends.go (fun _ k => XS.iload X35.here hx rfl (hb hby at_298) rfl k) ?_
      show Ends p e below s T35 (mkF m 300 #[.val (.int p0), .val (.int p1), .val (.int p2), .val (.int p3), .val (.int p4), .val (.int p5), .val (.int c0), .val (.int c1), .val (.int d0), .val (.int d1), .val (.int md), .val (.ref ta), .val (.ref tb), .val (.int tx), .val (.ref b22), .val (.ref b29), .val (.int (5 : Int32)), .unset, .unset, .unset, .unset, .unset] [(.int (5 : Int32)), (.ref b29), (.int (5 : Int32)), (.ref b29)]) _ _ _
      obtain ⟨cl62, Ar62, q62, S62, M62, H62, G62⟩ := id V35
      have hin62 := inb_of (j := (5 : Int32)) S62 ⟨by decide, by decide⟩
      refine Ends.go (X35.iaload hx (j := (5 : Int32)) (v := (.int (p2 - p3))) (by rw [e35]; exact Ar62.1) (State.isArrayOf_alike hZ.alike Ar62.2.1) Ar62.2.2 hin62 (H62.at hin62 rfl) (g := (mkF m 300 #[.val (.int p0), .val (.int p1), .val (.int p2), .val (.int p3), .val (.int p4), .val (.int p5), .val (.int c0), .val (.int c1), .val (.int d0), .val (.int d1), .val (.int md), .val (.ref ta), .val (.ref tb), .val (.int tx), .val (.ref b22), .val (.ref b29), .val (.int (5 : Int32)), .unset, .unset, .unset, .unset, .unset] [(.int (5 : Int32)), (.ref b29), (.int (5 : Int32)), (.ref b29)])) rfl rfl (hb hby at_300)) ?_
      show Ends p e below s T35 (mkF m 301 #[.val (.int p0), .val (.int p1), .val (.int p2), .val (.int p3), .val (.int p4), .val (.int p5), .val (.int c0), .val (.int c1), .val (.int d0), .val (.int d1), .val (.int md), .val (.ref ta), .val (.ref tb), .val (.int tx), .val (.ref b22), .val (.ref b29), .val (.int (5 : Int32)), .unset, .unset, .unset, .unset, .unset] [(.int (p2 - p3)), (.int (5 : Int32)), (.ref b29)]) _ _ _
      refine Ends.go (fun _ k => XS.iload X35.here hx rfl (hb hby at_301) rfl k) ?_
      show Ends p e below s T35 (mkF m 303 #[.val (.int p0), .val (.int p1), .val (.int p2), .val (.int p3), .val (.int p4), .val (.int p5), .val (.int c0), .val (.int c1), .val (.int d0), .val (.int d1), .val (.int md), .val (.ref ta), .val (.ref tb), .val (.int tx), .val (.ref b22), .val (.ref b29), .val (.int (5 : Int32)), .unset, .unset, .unset, .unset, .unset] [(.int p5), (.int (p2 - p3)), (.int (5 : Int32)), (.ref b29)]) _ _ _
      refine Ends.go (fun _ k => XS.iadd X35.here hx rfl (hb hby at_303) rfl k) ?_
      show Ends p e below s T35 (mkF m 304 #[.val (.int p0), .val (.int p1), .val (.int p2), .val (.int p3), .val (.int p4), .val (.int p5), .val (.int c0), .val (.int c1), .val (.int d0), .val (.int d1), .val (.int md), .val (.ref ta), .val (.ref tb), .val (.int tx), .val (.ref b22), .val (.ref b29), .val (.int (5 : Int32)), .unset, .unset, .unset, .unset, .unset] [(.int ((p2 - p3) + p5)), (.int (5 : Int32)), (.ref b29)]) _ _ _
      obtain ⟨cl63, Ar63, q63, S63, M63, H63, G63⟩ := id V35
      have hin63 := inb_of (j := (5 : Int32)) S63 ⟨by decide, by decide⟩
      obtain ⟨T63, h63, X63, e63, W63, st63⟩ := stI X35 hx hZ e35 Ar63 (j := (5 : Int32)) hin63 (g := (mkF m 304 #[.val (.int p0), .val (.int p1), .val (.int p2), .val (.int p3), .val (.int p4), .val (.int p5), .val (.int c0), .val (.int c1), .val (.int d0), .val (.int d1), .val (.int md), .val (.ref ta), .val (.ref tb), .val (.int tx), .val (.ref b22), .val (.ref b29), .val (.int (5 : Int32)), .unset, .unset, .unset, .unset, .unset] [(.int ((p2 - p3) + p5)), (.int (5 : Int32)), (.ref b29)])) rfl rfl (hb hby at_304)
      refine Ends.go st63 ?_
      have V63 : Arv Z h63 b29 k29 .int (6 : Int32) [(.int p2), (.int p3), (.int (p2 ^^^ (-1 : Int32))), (.int (p3 ^^^ (-1 : Int32))), (.int (p2 ^^^ p3)), (.int ((p2 - p3) + p5))] (.int (0 : Int32)) := Arv.set Ar63 q63 S63 M63 H63 G63 rfl W63 5 rfl (Nat.le_of_ble_eq_true rfl)
      have K63 := K35.wr W63 (Or.inr sz_b29)
      have O63 := O35.wr W63 g_b29
      have N63 := Fr.snoc X63 N35 g_b29
      show Ends p e below s T63 (mkF m 305 #[.val (.int p0), .val (.int p1), .val (.int p2), .val (.int p3), .val (.int p4), .val (.int p5), .val (.int c0), .val (.int c1), .val (.int d0), .val (.int d1), .val (.int md), .val (.ref ta), .val (.ref tb), .val (.int tx), .val (.ref b22), .val (.ref b29), .val (.int (5 : Int32)), .unset, .unset, .unset, .unset, .unset] []) _ _ _
      refine Ends.go (fun _ k => XS.iload X63.here hx rfl (hb hby at_305) rfl k) ?_
      show Ends p e below s T63 (mkF m 307 #[.val (.int p0), .val (.int p1), .val (.int p2), .val (.int p3), .val (.int p4), .val (.int p5), .val (.int c0), .val (.int c1), .val (.int d0), .val (.int d1), .val (.int md), .val (.ref ta), .val (.ref tb), .val (.int tx), .val (.ref b22), .val (.ref b29), .val (.int (5 : Int32)), .unset, .unset, .unset, .unset, .unset] [(.int (5 : Int32))]) _ _ _
      refine Ends.go (fun _ k => XS.bipush X63.here hx rfl (hb hby at_307) k) ?_
      show Ends p e below s T63 (mkF m 309 #[.val (.int p0), .val (.int p1), .val (.int p2), .val (.int p3), .val (.int p4), .val (.int p5), .val (.int c0), .val (.int c1), .val (.int d0), .val (.int d1), .val (.int md), .val (.ref ta), .val (.ref tb), .val (.int tx), .val (.ref b22), .val (.ref b29), .val (.int (5 : Int32)), .unset, .unset, .unset, .unset, .unset] [(.int (6 : Int32)), (.int (5 : Int32))]) _ _ _
      refine Ends.go (fun _ k => XS.icmpNo X63.here hx rfl (hb hby at_309) rfl (tlt (by decide : (5 : Int32) < (6 : Int32))).2.1 k) ?_
      show Ends p e below s T63 (mkF m 312 #[.val (.int p0), .val (.int p1), .val (.int p2), .val (.int p3), .val (.int p4), .val (.int p5), .val (.int c0), .val (.int c1), .val (.int d0), .val (.int d1), .val (.int md), .val (.ref ta), .val (.ref tb), .val (.int tx), .val (.ref b22), .val (.ref b29), .val (.int (5 : Int32)), .unset, .unset, .unset, .unset, .unset] []) _ _ _
      refine Ends.go (fun _ k => XS.iload X63.here hx rfl (hb hby at_312) rfl k) ?_
      show Ends p e below s T63 (mkF m 314 #[.val (.int p0), .val (.int p1), .val (.int p2), .val (.int p3), .val (.int p4), .val (.int p5), .val (.int c0), .val (.int c1), .val (.int d0), .val (.int d1), .val (.int md), .val (.ref ta), .val (.ref tb), .val (.int tx), .val (.ref b22), .val (.ref b29), .val (.int (5 : Int32)), .unset, .unset, .unset, .unset, .unset] [(.int p5)]) _ _ _
      by_cases hc314_64 : p5 = (0 : Int32)
      · refine Ends.go (fun _ k => XS.ifNo X63.here hx rfl (hb hby at_314) rfl ((if0 _ _).trans (teq hc314_64).2) k) ?_
        show Ends p e below s T63 (mkF m 317 #[.val (.int p0), .val (.int p1), .val (.int p2), .val (.int p3), .val (.int p4), .val (.int p5), .val (.int c0), .val (.int c1), .val (.int d0), .val (.int d1), .val (.int md), .val (.ref ta), .val (.ref tb), .val (.int tx), .val (.ref b22), .val (.ref b29), .val (.int (5 : Int32)), .unset, .unset, .unset, .unset, .unset] []) _ _ _
        refine Ends.go (fun _ k => XS.iconst X63.here hx rfl (hb hby at_317) k) ?_
        show Ends p e below s T63 (mkF m 318 #[.val (.int p0), .val (.int p1), .val (.int p2), .val (.int p3), .val (.int p4), .val (.int p5), .val (.int c0), .val (.int c1), .val (.int d0), .val (.int d1), .val (.int md), .val (.ref ta), .val (.ref tb), .val (.int tx), .val (.ref b22), .val (.ref b29), .val (.int (5 : Int32)), .unset, .unset, .unset, .unset, .unset] [(.int (1 : Int32))]) _ _ _
        refine Ends.go (fun _ k => XS.goto X63.here hx rfl (pc0 := 318) (pc' := 322) rfl (hb hby at_318) (by decide) (by decide) k) ?_
        show Ends p e below s T63 (mkF m 322 #[.val (.int p0), .val (.int p1), .val (.int p2), .val (.int p3), .val (.int p4), .val (.int p5), .val (.int c0), .val (.int c1), .val (.int d0), .val (.int d1), .val (.int md), .val (.ref ta), .val (.ref tb), .val (.int tx), .val (.ref b22), .val (.ref b29), .val (.int (5 : Int32)), .unset, .unset, .unset, .unset, .unset] [(.int (1 : Int32))]) _ _ _
        refine Ends.go (fun _ k => XS.istore X63.here hx rfl (hb hby at_322) rfl (l' := #[.val (.int p0), .val (.int p1), .val (.int p2), .val (.int p3), .val (.int p4), .val (.int p5), .val (.int c0), .val (.int c1), .val (.int d0), .val (.int d1), .val (.int md), .val (.ref ta), .val (.ref tb), .val (.int tx), .val (.ref b22), .val (.ref b29), .val (.int (5 : Int32)), .val (.int (1 : Int32)), .unset, .unset, .unset, .unset]) rfl k) ?_
        show Ends p e below s T63 (mkF m 324 #[.val (.int p0), .val (.int p1), .val (.int p2), .val (.int p3), .val (.int p4), .val (.int p5), .val (.int c0), .val (.int c1), .val (.int d0), .val (.int d1), .val (.int md), .val (.ref ta), .val (.ref tb), .val (.int tx), .val (.ref b22), .val (.ref b29), .val (.int (5 : Int32)), .val (.int (1 : Int32)), .unset, .unset, .unset, .unset] []) _ _ _
        refine Ends.go (fun _ k => XS.iload X63.here hx rfl (hb hby at_324) rfl k) ?_
        show Ends p e below s T63 (mkF m 326 #[.val (.int p0), .val (.int p1), .val (.int p2), .val (.int p3), .val (.int p4), .val (.int p5), .val (.int c0), .val (.int c1), .val (.int d0), .val (.int d1), .val (.int md), .val (.ref ta), .val (.ref tb), .val (.int tx), .val (.ref b22), .val (.ref b29), .val (.int (5 : Int32)), .val (.int (1 : Int32)), .unset, .unset, .unset, .unset] [(.int tx)]) _ _ _
        by_cases hc326_65 : tx = (0 : Int32)
        · refine Ends.go (fun _ k => XS.ifYes X63.here hx rfl (pc0 := 326) (pc' := 338) rfl (hb hby at_326) rfl ((if0 _ _).trans (teq hc326_65).1) (by decide) (by decide) k) ?_
          show Ends p e below s T63 (mkF m 338 #[.val (.int p0), .val (.int p1), .val (.int p2), .val (.int p3), .val (.int p4), .val (.int p5), .val (.int c0), .val (.int c1), .val (.int d0), .val (.int d1), .val (.int md), .val (.ref ta), .val (.ref tb), .val (.int tx), .val (.ref b22), .val (.ref b29), .val (.int (5 : Int32)), .val (.int (1 : Int32)), .unset, .unset, .unset, .unset] []) _ _ _
          refine Ends.go (fun _ k => XS.iconst X63.here hx rfl (hb hby at_338) k) ?_
          show Ends p e below s T63 (mkF m 339 #[.val (.int p0), .val (.int p1), .val (.int p2), .val (.int p3), .val (.int p4), .val (.int p5), .val (.int c0), .val (.int c1), .val (.int d0), .val (.int d1), .val (.int md), .val (.ref ta), .val (.ref tb), .val (.int tx), .val (.ref b22), .val (.ref b29), .val (.int (5 : Int32)), .val (.int (1 : Int32)), .unset, .unset, .unset, .unset] [(.int (0 : Int32))]) _ _ _
          refine Ends.go (fun _ k => XS.istore X63.here hx rfl (hb hby at_339) rfl (l' := #[.val (.int p0), .val (.int p1), .val (.int p2), .val (.int p3), .val (.int p4), .val (.int p5), .val (.int c0), .val (.int c1), .val (.int d0), .val (.int d1), .val (.int md), .val (.ref ta), .val (.ref tb), .val (.int tx), .val (.ref b22), .val (.ref b29), .val (.int (5 : Int32)), .val (.int (1 : Int32)), .val (.int (0 : Int32)), .unset, .unset, .unset]) rfl k) ?_
          show Ends p e below s T63 (mkF m 341 #[.val (.int p0), .val (.int p1), .val (.int p2), .val (.int p3), .val (.int p4), .val (.int p5), .val (.int c0), .val (.int c1), .val (.int d0), .val (.int d1), .val (.int md), .val (.ref ta), .val (.ref tb), .val (.int tx), .val (.ref b22), .val (.ref b29), .val (.int (5 : Int32)), .val (.int (1 : Int32)), .val (.int (0 : Int32)), .unset, .unset, .unset] []) _ _ _
          exact J341 _ _ _ _ _ _ _ _ _ _ p2 p3 (p2 ^^^ (-1 : Int32)) (p3 ^^^ (-1 : Int32)) (p2 ^^^ p3) ((p2 - p3) + p5) X63 e63 O63 N63 K63 ⟨(((((((((((((((Ea.ext E22).wr W23).wr W24).wr W25).wr W26).wr W27).wr W28).ext E29).wr W30).wr W31).wr W32).wr W33).wr W34).wr W35).wr W63), (((((((((((((((Va.ext E22).other W23 (Or.inl ne_ta_b22)).other W24 (Or.inl ne_ta_b22)).other W25 (Or.inl ne_ta_b22)).other W26 (Or.inl ne_ta_b22)).other W27 (Or.inl ne_ta_b22)).other W28 (Or.inl ne_ta_b22)).ext E29).other W30 (Or.inl ne_ta_b29)).other W31 (Or.inl ne_ta_b29)).other W32 (Or.inl ne_ta_b29)).other W33 (Or.inl ne_ta_b29)).other W34 (Or.inl ne_ta_b29)).other W35 (Or.inl ne_ta_b29)).other W63 (Or.inl ne_ta_b29)), (((((((((((((((Ca.ext E22).other W23 (Or.inl ne_ta_b22)).other W24 (Or.inl ne_ta_b22)).other W25 (Or.inl ne_ta_b22)).other W26 (Or.inl ne_ta_b22)).other W27 (Or.inl ne_ta_b22)).other W28 (Or.inl ne_ta_b22)).ext E29).other W30 (Or.inl ne_ta_b29)).other W31 (Or.inl ne_ta_b29)).other W32 (Or.inl ne_ta_b29)).other W33 (Or.inl ne_ta_b29)).other W34 (Or.inl ne_ta_b29)).other W35 (Or.inl ne_ta_b29)).other W63 (Or.inl ne_ta_b29)), (((((((((((((((Aa.ext E22).other W23 ne_t1_b22).other W24 ne_t1_b22).other W25 ne_t1_b22).other W26 ne_t1_b22).other W27 ne_t1_b22).other W28 ne_t1_b22).ext E29).other W30 ne_t1_b29).other W31 ne_t1_b29).other W32 ne_t1_b29).other W33 ne_t1_b29).other W34 ne_t1_b29).other W35 ne_t1_b29).other W63 ne_t1_b29), SA.2.2.2.2⟩ ⟨(((((((((((((((Eb.ext E22).wr W23).wr W24).wr W25).wr W26).wr W27).wr W28).ext E29).wr W30).wr W31).wr W32).wr W33).wr W34).wr W35).wr W63), (((((((((((((((Vb.ext E22).other W23 (Or.inl ne_tb_b22)).other W24 (Or.inl ne_tb_b22)).other W25 (Or.inl ne_tb_b22)).other W26 (Or.inl ne_tb_b22)).other W27 (Or.inl ne_tb_b22)).other W28 (Or.inl ne_tb_b22)).ext E29).other W30 (Or.inl ne_tb_b29)).other W31 (Or.inl ne_tb_b29)).other W32 (Or.inl ne_tb_b29)).other W33 (Or.inl ne_tb_b29)).other W34 (Or.inl ne_tb_b29)).other W35 (Or.inl ne_tb_b29)).other W63 (Or.inl ne_tb_b29)), (((((((((((((((Cb.ext E22).other W23 (Or.inl ne_tb_b22)).other W24 (Or.inl ne_tb_b22)).other W25 (Or.inl ne_tb_b22)).other W26 (Or.inl ne_tb_b22)).other W27 (Or.inl ne_tb_b22)).other W28 (Or.inl ne_tb_b22)).ext E29).other W30 (Or.inl ne_tb_b29)).other W31 (Or.inl ne_tb_b29)).other W32 (Or.inl ne_tb_b29)).other W33 (Or.inl ne_tb_b29)).other W34 (Or.inl ne_tb_b29)).other W35 (Or.inl ne_tb_b29)).other W63 (Or.inl ne_tb_b29)), (((((((((((((((Ab.ext E22).other W23 ne_t2_b22).other W24 ne_t2_b22).other W25 ne_t2_b22).other W26 ne_t2_b22).other W27 ne_t2_b22).other W28 ne_t2_b22).ext E29).other W30 ne_t2_b29).other W31 ne_t2_b29).other W32 ne_t2_b29).other W33 ne_t2_b29).other W34 ne_t2_b29).other W35 ne_t2_b29).other W63 ne_t2_b29), SB.2.2.2.2⟩ ((((((((V28.ext E29).other W30 ne_b22_b29).other W31 ne_b22_b29).other W32 ne_b22_b29).other W33 ne_b22_b29).other W34 ne_b22_b29).other W35 ne_b22_b29).other W63 ne_b22_b29) V63 (Or.inr ⟨rfl, fun q => own_tx0 htx hc326_65 q.1⟩)
        · refine Ends.go (fun _ k => XS.ifNo X63.here hx rfl (hb hby at_326) rfl ((if0 _ _).trans (feq hc326_65).1) k) ?_
          show Ends p e below s T63 (mkF m 329 #[.val (.int p0), .val (.int p1), .val (.int p2), .val (.int p3), .val (.int p4), .val (.int p5), .val (.int c0), .val (.int c1), .val (.int d0), .val (.int d1), .val (.int md), .val (.ref ta), .val (.ref tb), .val (.int tx), .val (.ref b22), .val (.ref b29), .val (.int (5 : Int32)), .val (.int (1 : Int32)), .unset, .unset, .unset, .unset] []) _ _ _
          refine Ends.go (fun _ k => XS.iload X63.here hx rfl (hb hby at_329) rfl k) ?_
          show Ends p e below s T63 (mkF m 331 #[.val (.int p0), .val (.int p1), .val (.int p2), .val (.int p3), .val (.int p4), .val (.int p5), .val (.int c0), .val (.int c1), .val (.int d0), .val (.int d1), .val (.int md), .val (.ref ta), .val (.ref tb), .val (.int tx), .val (.ref b22), .val (.ref b29), .val (.int (5 : Int32)), .val (.int (1 : Int32)), .unset, .unset, .unset, .unset] [(.int (1 : Int32))]) _ _ _
          refine Ends.go (fun _ k => XS.ifNo X63.here hx rfl (hb hby at_331) rfl ((if0 _ _).trans (feq (by decide : ¬ ((1 : Int32) = (0 : Int32)))).1) k) ?_
          show Ends p e below s T63 (mkF m 334 #[.val (.int p0), .val (.int p1), .val (.int p2), .val (.int p3), .val (.int p4), .val (.int p5), .val (.int c0), .val (.int c1), .val (.int d0), .val (.int d1), .val (.int md), .val (.ref ta), .val (.ref tb), .val (.int tx), .val (.ref b22), .val (.ref b29), .val (.int (5 : Int32)), .val (.int (1 : Int32)), .unset, .unset, .unset, .unset] []) _ _ _
          refine Ends.go (fun _ k => XS.iconst X63.here hx rfl (hb hby at_334) k) ?_
          show Ends p e below s T63 (mkF m 335 #[.val (.int p0), .val (.int p1), .val (.int p2), .val (.int p3), .val (.int p4), .val (.int p5), .val (.int c0), .val (.int c1), .val (.int d0), .val (.int d1), .val (.int md), .val (.ref ta), .val (.ref tb), .val (.int tx), .val (.ref b22), .val (.ref b29), .val (.int (5 : Int32)), .val (.int (1 : Int32)), .unset, .unset, .unset, .unset] [(.int (1 : Int32))]) _ _ _
          refine Ends.go (fun _ k => XS.goto X63.here hx rfl (pc0 := 335) (pc' := 339) rfl (hb hby at_335) (by decide) (by decide) k) ?_
          show Ends p e below s T63 (mkF m 339 #[.val (.int p0), .val (.int p1), .val (.int p2), .val (.int p3), .val (.int p4), .val (.int p5), .val (.int c0), .val (.int c1), .val (.int d0), .val (.int d1), .val (.int md), .val (.ref ta), .val (.ref tb), .val (.int tx), .val (.ref b22), .val (.ref b29), .val (.int (5 : Int32)), .val (.int (1 : Int32)), .unset, .unset, .unset, .unset] [(.int (1 : Int32))]) _ _ _
          refine Ends.go (fun _ k => XS.istore X63.here hx rfl (hb hby at_339) rfl (l' := #[.val (.int p0), .val (.int p1), .val (.int p2), .val (.int p3), .val (.int p4), .val (.int p5), .val (.int c0), .val (.int c1), .val (.int d0), .val (.int d1), .val (.int md), .val (.ref ta), .val (.ref tb), .val (.int tx), .val (.ref b22), .val (.ref b29), .val (.int (5 : Int32)), .val (.int (1 : Int32)), .val (.int (1 : Int32)), .unset, .unset, .unset]) rfl k) ?_
          show Ends p e below s T63 (mkF m 341 #[.val (.int p0), .val (.int p1), .val (.int p2), .val (.int p3), .val (.int p4), .val (.int p5), .val (.int c0), .val (.int c1), .val (.int d0), .val (.int d1), .val (.int md), .val (.ref ta), .val (.ref tb), .val (.int tx), .val (.ref b22), .val (.ref b29), .val (.int (5 : Int32)), .val (.int (1 : Int32)), .val (.int (1 : Int32)), .unset, .unset, .unset] []) _ _ _
          exact J341 _ _ _ _ _ _ _ _ _ _ p2 p3 (p2 ^^^ (-1 : Int32)) (p3 ^^^ (-1 : Int32)) (p2 ^^^ p3) ((p2 - p3) + p5) X63 e63 O63 N63 K63 ⟨(((((((((((((((Ea.ext E22).wr W23).wr W24).wr W25).wr W26).wr W27).wr W28).ext E29).wr W30).wr W31).wr W32).wr W33).wr W34).wr W35).wr W63), (((((((((((((((Va.ext E22).other W23 (Or.inl ne_ta_b22)).other W24 (Or.inl ne_ta_b22)).other W25 (Or.inl ne_ta_b22)).other W26 (Or.inl ne_ta_b22)).other W27 (Or.inl ne_ta_b22)).other W28 (Or.inl ne_ta_b22)).ext E29).other W30 (Or.inl ne_ta_b29)).other W31 (Or.inl ne_ta_b29)).other W32 (Or.inl ne_ta_b29)).other W33 (Or.inl ne_ta_b29)).other W34 (Or.inl ne_ta_b29)).other W35 (Or.inl ne_ta_b29)).other W63 (Or.inl ne_ta_b29)), (((((((((((((((Ca.ext E22).other W23 (Or.inl ne_ta_b22)).other W24 (Or.inl ne_ta_b22)).other W25 (Or.inl ne_ta_b22)).other W26 (Or.inl ne_ta_b22)).other W27 (Or.inl ne_ta_b22)).other W28 (Or.inl ne_ta_b22)).ext E29).other W30 (Or.inl ne_ta_b29)).other W31 (Or.inl ne_ta_b29)).other W32 (Or.inl ne_ta_b29)).other W33 (Or.inl ne_ta_b29)).other W34 (Or.inl ne_ta_b29)).other W35 (Or.inl ne_ta_b29)).other W63 (Or.inl ne_ta_b29)), (((((((((((((((Aa.ext E22).other W23 ne_t1_b22).other W24 ne_t1_b22).other W25 ne_t1_b22).other W26 ne_t1_b22).other W27 ne_t1_b22).other W28 ne_t1_b22).ext E29).other W30 ne_t1_b29).other W31 ne_t1_b29).other W32 ne_t1_b29).other W33 ne_t1_b29).other W34 ne_t1_b29).other W35 ne_t1_b29).other W63 ne_t1_b29), SA.2.2.2.2⟩ ⟨(((((((((((((((Eb.ext E22).wr W23).wr W24).wr W25).wr W26).wr W27).wr W28).ext E29).wr W30).wr W31).wr W32).wr W33).wr W34).wr W35).wr W63), (((((((((((((((Vb.ext E22).other W23 (Or.inl ne_tb_b22)).other W24 (Or.inl ne_tb_b22)).other W25 (Or.inl ne_tb_b22)).other W26 (Or.inl ne_tb_b22)).other W27 (Or.inl ne_tb_b22)).other W28 (Or.inl ne_tb_b22)).ext E29).other W30 (Or.inl ne_tb_b29)).other W31 (Or.inl ne_tb_b29)).other W32 (Or.inl ne_tb_b29)).other W33 (Or.inl ne_tb_b29)).other W34 (Or.inl ne_tb_b29)).other W35 (Or.inl ne_tb_b29)).other W63 (Or.inl ne_tb_b29)), (((((((((((((((Cb.ext E22).other W23 (Or.inl ne_tb_b22)).other W24 (Or.inl ne_tb_b22)).other W25 (Or.inl ne_tb_b22)).other W26 (Or.inl ne_tb_b22)).other W27 (Or.inl ne_tb_b22)).other W28 (Or.inl ne_tb_b22)).ext E29).other W30 (Or.inl ne_tb_b29)).other W31 (Or.inl ne_tb_b29)).other W32 (Or.inl ne_tb_b29)).other W33 (Or.inl ne_tb_b29)).other W34 (Or.inl ne_tb_b29)).other W35 (Or.inl ne_tb_b29)).other W63 (Or.inl ne_tb_b29)), (((((((((((((((Ab.ext E22).other W23 ne_t2_b22).other W24 ne_t2_b22).other W25 ne_t2_b22).other W26 ne_t2_b22).other W27 ne_t2_b22).other W28 ne_t2_b22).ext E29).other W30 ne_t2_b29).other W31 ne_t2_b29).other W32 ne_t2_b29).other W33 ne_t2_b29).other W34 ne_t2_b29).other W35 ne_t2_b29).other W63 ne_t2_b29), SB.2.2.2.2⟩ ((((((((V28.ext E29).other W30 ne_b22_b29).other W31 ne_b22_b29).other W32 ne_b22_b29).other W33 ne_b22_b29).other W34 ne_b22_b29).other W35 ne_b22_b29).other W63 ne_b22_b29) V63 (Or.inl ⟨rfl, own_tx1 htx hc326_65, rfl, rfl, rfl, rfl, rfl, (own_add0 hc314_64)⟩)
      · refine Ends.go (fun _ k => XS.ifYes X63.here hx rfl (pc0 := 314) (pc' := 321) rfl (hb hby at_314) rfl ((if0 _ _).trans (feq hc314_64).2) (by decide) (by decide) k) ?_
        show Ends p e below s T63 (mkF m 321 #[.val (.int p0), .val (.int p1), .val (.int p2), .val (.int p3), .val (.int p4), .val (.int p5), .val (.int c0), .val (.int c1), .val (.int d0), .val (.int d1), .val (.int md), .val (.ref ta), .val (.ref tb), .val (.int tx), .val (.ref b22), .val (.ref b29), .val (.int (5 : Int32)), .unset, .unset, .unset, .unset, .unset] []) _ _ _
        refine Ends.go (fun _ k => XS.iconst X63.here hx rfl (hb hby at_321) k) ?_
        show Ends p e below s T63 (mkF m 322 #[.val (.int p0), .val (.int p1), .val (.int p2), .val (.int p3), .val (.int p4), .val (.int p5), .val (.int c0), .val (.int c1), .val (.int d0), .val (.int d1), .val (.int md), .val (.ref ta), .val (.ref tb), .val (.int tx), .val (.ref b22), .val (.ref b29), .val (.int (5 : Int32)), .unset, .unset, .unset, .unset, .unset] [(.int (0 : Int32))]) _ _ _
        refine Ends.go (fun _ k => XS.istore X63.here hx rfl (hb hby at_322) rfl (l' := #[.val (.int p0), .val (.int p1), .val (.int p2), .val (.int p3), .val (.int p4), .val (.int p5), .val (.int c0), .val (.int c1), .val (.int d0), .val (.int d1), .val (.int md), .val (.ref ta), .val (.ref tb), .val (.int tx), .val (.ref b22), .val (.ref b29), .val (.int (5 : Int32)), .val (.int (0 : Int32)), .unset, .unset, .unset, .unset]) rfl k) ?_
        show Ends p e below s T63 (mkF m 324 #[.val (.int p0), .val (.int p1), .val (.int p2), .val (.int p3), .val (.int p4), .val (.int p5), .val (.int c0), .val (.int c1), .val (.int d0), .val (.int d1), .val (.int md), .val (.ref ta), .val (.ref tb), .val (.int tx), .val (.ref b22), .val (.ref b29), .val (.int (5 : Int32)), .val (.int (0 : Int32)), .unset, .unset, .unset, .unset] []) _ _ _
        refine Ends.go (fun _ k => XS.iload X63.here hx rfl (hb hby at_324) rfl k) ?_
        show Ends p e below s T63 (mkF m 326 #[.val (.int p0), .val (.int p1), .val (.int p2), .val (.int p3), .val (.int p4), .val (.int p5), .val (.int c0), .val (.int c1), .val (.int d0), .val (.int d1), .val (.int md), .val (.ref ta), .val (.ref tb), .val (.int tx), .val (.ref b22), .val (.ref b29), .val (.int (5 : Int32)), .val (.int (0 : Int32)), .unset, .unset, .unset, .unset] [(.int tx)]) _ _ _
        by_cases hc326_66 : tx = (0 : Int32)
        · refine Ends.go (fun _ k => XS.ifYes X63.here hx rfl (pc0 := 326) (pc' := 338) rfl (hb hby at_326) rfl ((if0 _ _).trans (teq hc326_66).1) (by decide) (by decide) k) ?_
          show Ends p e below s T63 (mkF m 338 #[.val (.int p0), .val (.int p1), .val (.int p2), .val (.int p3), .val (.int p4), .val (.int p5), .val (.int c0), .val (.int c1), .val (.int d0), .val (.int d1), .val (.int md), .val (.ref ta), .val (.ref tb), .val (.int tx), .val (.ref b22), .val (.ref b29), .val (.int (5 : Int32)), .val (.int (0 : Int32)), .unset, .unset, .unset, .unset] []) _ _ _
          refine Ends.go (fun _ k => XS.iconst X63.here hx rfl (hb hby at_338) k) ?_
          show Ends p e below s T63 (mkF m 339 #[.val (.int p0), .val (.int p1), .val (.int p2), .val (.int p3), .val (.int p4), .val (.int p5), .val (.int c0), .val (.int c1), .val (.int d0), .val (.int d1), .val (.int md), .val (.ref ta), .val (.ref tb), .val (.int tx), .val (.ref b22), .val (.ref b29), .val (.int (5 : Int32)), .val (.int (0 : Int32)), .unset, .unset, .unset, .unset] [(.int (0 : Int32))]) _ _ _
          refine Ends.go (fun _ k => XS.istore X63.here hx rfl (hb hby at_339) rfl (l' := #[.val (.int p0), .val (.int p1), .val (.int p2), .val (.int p3), .val (.int p4), .val (.int p5), .val (.int c0), .val (.int c1), .val (.int d0), .val (.int d1), .val (.int md), .val (.ref ta), .val (.ref tb), .val (.int tx), .val (.ref b22), .val (.ref b29), .val (.int (5 : Int32)), .val (.int (0 : Int32)), .val (.int (0 : Int32)), .unset, .unset, .unset]) rfl k) ?_
          show Ends p e below s T63 (mkF m 341 #[.val (.int p0), .val (.int p1), .val (.int p2), .val (.int p3), .val (.int p4), .val (.int p5), .val (.int c0), .val (.int c1), .val (.int d0), .val (.int d1), .val (.int md), .val (.ref ta), .val (.ref tb), .val (.int tx), .val (.ref b22), .val (.ref b29), .val (.int (5 : Int32)), .val (.int (0 : Int32)), .val (.int (0 : Int32)), .unset, .unset, .unset] []) _ _ _
          exact J341 _ _ _ _ _ _ _ _ _ _ p2 p3 (p2 ^^^ (-1 : Int32)) (p3 ^^^ (-1 : Int32)) (p2 ^^^ p3) ((p2 - p3) + p5) X63 e63 O63 N63 K63 ⟨(((((((((((((((Ea.ext E22).wr W23).wr W24).wr W25).wr W26).wr W27).wr W28).ext E29).wr W30).wr W31).wr W32).wr W33).wr W34).wr W35).wr W63), (((((((((((((((Va.ext E22).other W23 (Or.inl ne_ta_b22)).other W24 (Or.inl ne_ta_b22)).other W25 (Or.inl ne_ta_b22)).other W26 (Or.inl ne_ta_b22)).other W27 (Or.inl ne_ta_b22)).other W28 (Or.inl ne_ta_b22)).ext E29).other W30 (Or.inl ne_ta_b29)).other W31 (Or.inl ne_ta_b29)).other W32 (Or.inl ne_ta_b29)).other W33 (Or.inl ne_ta_b29)).other W34 (Or.inl ne_ta_b29)).other W35 (Or.inl ne_ta_b29)).other W63 (Or.inl ne_ta_b29)), (((((((((((((((Ca.ext E22).other W23 (Or.inl ne_ta_b22)).other W24 (Or.inl ne_ta_b22)).other W25 (Or.inl ne_ta_b22)).other W26 (Or.inl ne_ta_b22)).other W27 (Or.inl ne_ta_b22)).other W28 (Or.inl ne_ta_b22)).ext E29).other W30 (Or.inl ne_ta_b29)).other W31 (Or.inl ne_ta_b29)).other W32 (Or.inl ne_ta_b29)).other W33 (Or.inl ne_ta_b29)).other W34 (Or.inl ne_ta_b29)).other W35 (Or.inl ne_ta_b29)).other W63 (Or.inl ne_ta_b29)), (((((((((((((((Aa.ext E22).other W23 ne_t1_b22).other W24 ne_t1_b22).other W25 ne_t1_b22).other W26 ne_t1_b22).other W27 ne_t1_b22).other W28 ne_t1_b22).ext E29).other W30 ne_t1_b29).other W31 ne_t1_b29).other W32 ne_t1_b29).other W33 ne_t1_b29).other W34 ne_t1_b29).other W35 ne_t1_b29).other W63 ne_t1_b29), SA.2.2.2.2⟩ ⟨(((((((((((((((Eb.ext E22).wr W23).wr W24).wr W25).wr W26).wr W27).wr W28).ext E29).wr W30).wr W31).wr W32).wr W33).wr W34).wr W35).wr W63), (((((((((((((((Vb.ext E22).other W23 (Or.inl ne_tb_b22)).other W24 (Or.inl ne_tb_b22)).other W25 (Or.inl ne_tb_b22)).other W26 (Or.inl ne_tb_b22)).other W27 (Or.inl ne_tb_b22)).other W28 (Or.inl ne_tb_b22)).ext E29).other W30 (Or.inl ne_tb_b29)).other W31 (Or.inl ne_tb_b29)).other W32 (Or.inl ne_tb_b29)).other W33 (Or.inl ne_tb_b29)).other W34 (Or.inl ne_tb_b29)).other W35 (Or.inl ne_tb_b29)).other W63 (Or.inl ne_tb_b29)), (((((((((((((((Cb.ext E22).other W23 (Or.inl ne_tb_b22)).other W24 (Or.inl ne_tb_b22)).other W25 (Or.inl ne_tb_b22)).other W26 (Or.inl ne_tb_b22)).other W27 (Or.inl ne_tb_b22)).other W28 (Or.inl ne_tb_b22)).ext E29).other W30 (Or.inl ne_tb_b29)).other W31 (Or.inl ne_tb_b29)).other W32 (Or.inl ne_tb_b29)).other W33 (Or.inl ne_tb_b29)).other W34 (Or.inl ne_tb_b29)).other W35 (Or.inl ne_tb_b29)).other W63 (Or.inl ne_tb_b29)), (((((((((((((((Ab.ext E22).other W23 ne_t2_b22).other W24 ne_t2_b22).other W25 ne_t2_b22).other W26 ne_t2_b22).other W27 ne_t2_b22).other W28 ne_t2_b22).ext E29).other W30 ne_t2_b29).other W31 ne_t2_b29).other W32 ne_t2_b29).other W33 ne_t2_b29).other W34 ne_t2_b29).other W35 ne_t2_b29).other W63 ne_t2_b29), SB.2.2.2.2⟩ ((((((((V28.ext E29).other W30 ne_b22_b29).other W31 ne_b22_b29).other W32 ne_b22_b29).other W33 ne_b22_b29).other W34 ne_b22_b29).other W35 ne_b22_b29).other W63 ne_b22_b29) V63 (Or.inr ⟨rfl, fun q => own_tx0 htx hc326_66 q.1⟩)
        · refine Ends.go (fun _ k => XS.ifNo X63.here hx rfl (hb hby at_326) rfl ((if0 _ _).trans (feq hc326_66).1) k) ?_
          show Ends p e below s T63 (mkF m 329 #[.val (.int p0), .val (.int p1), .val (.int p2), .val (.int p3), .val (.int p4), .val (.int p5), .val (.int c0), .val (.int c1), .val (.int d0), .val (.int d1), .val (.int md), .val (.ref ta), .val (.ref tb), .val (.int tx), .val (.ref b22), .val (.ref b29), .val (.int (5 : Int32)), .val (.int (0 : Int32)), .unset, .unset, .unset, .unset] []) _ _ _
          refine Ends.go (fun _ k => XS.iload X63.here hx rfl (hb hby at_329) rfl k) ?_
          show Ends p e below s T63 (mkF m 331 #[.val (.int p0), .val (.int p1), .val (.int p2), .val (.int p3), .val (.int p4), .val (.int p5), .val (.int c0), .val (.int c1), .val (.int d0), .val (.int d1), .val (.int md), .val (.ref ta), .val (.ref tb), .val (.int tx), .val (.ref b22), .val (.ref b29), .val (.int (5 : Int32)), .val (.int (0 : Int32)), .unset, .unset, .unset, .unset] [(.int (0 : Int32))]) _ _ _
          refine Ends.go (fun _ k => XS.ifYes X63.here hx rfl (pc0 := 331) (pc' := 338) rfl (hb hby at_331) rfl ((if0 _ _).trans (teq (by decide : (0 : Int32) = (0 : Int32))).1) (by decide) (by decide) k) ?_
          show Ends p e below s T63 (mkF m 338 #[.val (.int p0), .val (.int p1), .val (.int p2), .val (.int p3), .val (.int p4), .val (.int p5), .val (.int c0), .val (.int c1), .val (.int d0), .val (.int d1), .val (.int md), .val (.ref ta), .val (.ref tb), .val (.int tx), .val (.ref b22), .val (.ref b29), .val (.int (5 : Int32)), .val (.int (0 : Int32)), .unset, .unset, .unset, .unset] []) _ _ _
          refine Ends.go (fun _ k => XS.iconst X63.here hx rfl (hb hby at_338) k) ?_
          show Ends p e below s T63 (mkF m 339 #[.val (.int p0), .val (.int p1), .val (.int p2), .val (.int p3), .val (.int p4), .val (.int p5), .val (.int c0), .val (.int c1), .val (.int d0), .val (.int d1), .val (.int md), .val (.ref ta), .val (.ref tb), .val (.int tx), .val (.ref b22), .val (.ref b29), .val (.int (5 : Int32)), .val (.int (0 : Int32)), .unset, .unset, .unset, .unset] [(.int (0 : Int32))]) _ _ _
          refine Ends.go (fun _ k => XS.istore X63.here hx rfl (hb hby at_339) rfl (l' := #[.val (.int p0), .val (.int p1), .val (.int p2), .val (.int p3), .val (.int p4), .val (.int p5), .val (.int c0), .val (.int c1), .val (.int d0), .val (.int d1), .val (.int md), .val (.ref ta), .val (.ref tb), .val (.int tx), .val (.ref b22), .val (.ref b29), .val (.int (5 : Int32)), .val (.int (0 : Int32)), .val (.int (0 : Int32)), .unset, .unset, .unset]) rfl k) ?_
          show Ends p e below s T63 (mkF m 341 #[.val (.int p0), .val (.int p1), .val (.int p2), .val (.int p3), .val (.int p4), .val (.int p5), .val (.int c0), .val (.int c1), .val (.int d0), .val (.int d1), .val (.int md), .val (.ref ta), .val (.ref tb), .val (.int tx), .val (.ref b22), .val (.ref b29), .val (.int (5 : Int32)), .val (.int (0 : Int32)), .val (.int (0 : Int32)), .unset, .unset, .unset] []) _ _ _
          exact J341 _ _ _ _ _ _ _ _ _ _ p2 p3 (p2 ^^^ (-1 : Int32)) (p3 ^^^ (-1 : Int32)) (p2 ^^^ p3) ((p2 - p3) + p5) X63 e63 O63 N63 K63 ⟨(((((((((((((((Ea.ext E22).wr W23).wr W24).wr W25).wr W26).wr W27).wr W28).ext E29).wr W30).wr W31).wr W32).wr W33).wr W34).wr W35).wr W63), (((((((((((((((Va.ext E22).other W23 (Or.inl ne_ta_b22)).other W24 (Or.inl ne_ta_b22)).other W25 (Or.inl ne_ta_b22)).other W26 (Or.inl ne_ta_b22)).other W27 (Or.inl ne_ta_b22)).other W28 (Or.inl ne_ta_b22)).ext E29).other W30 (Or.inl ne_ta_b29)).other W31 (Or.inl ne_ta_b29)).other W32 (Or.inl ne_ta_b29)).other W33 (Or.inl ne_ta_b29)).other W34 (Or.inl ne_ta_b29)).other W35 (Or.inl ne_ta_b29)).other W63 (Or.inl ne_ta_b29)), (((((((((((((((Ca.ext E22).other W23 (Or.inl ne_ta_b22)).other W24 (Or.inl ne_ta_b22)).other W25 (Or.inl ne_ta_b22)).other W26 (Or.inl ne_ta_b22)).other W27 (Or.inl ne_ta_b22)).other W28 (Or.inl ne_ta_b22)).ext E29).other W30 (Or.inl ne_ta_b29)).other W31 (Or.inl ne_ta_b29)).other W32 (Or.inl ne_ta_b29)).other W33 (Or.inl ne_ta_b29)).other W34 (Or.inl ne_ta_b29)).other W35 (Or.inl ne_ta_b29)).other W63 (Or.inl ne_ta_b29)), (((((((((((((((Aa.ext E22).other W23 ne_t1_b22).other W24 ne_t1_b22).other W25 ne_t1_b22).other W26 ne_t1_b22).other W27 ne_t1_b22).other W28 ne_t1_b22).ext E29).other W30 ne_t1_b29).other W31 ne_t1_b29).other W32 ne_t1_b29).other W33 ne_t1_b29).other W34 ne_t1_b29).other W35 ne_t1_b29).other W63 ne_t1_b29), SA.2.2.2.2⟩ ⟨(((((((((((((((Eb.ext E22).wr W23).wr W24).wr W25).wr W26).wr W27).wr W28).ext E29).wr W30).wr W31).wr W32).wr W33).wr W34).wr W35).wr W63), (((((((((((((((Vb.ext E22).other W23 (Or.inl ne_tb_b22)).other W24 (Or.inl ne_tb_b22)).other W25 (Or.inl ne_tb_b22)).other W26 (Or.inl ne_tb_b22)).other W27 (Or.inl ne_tb_b22)).other W28 (Or.inl ne_tb_b22)).ext E29).other W30 (Or.inl ne_tb_b29)).other W31 (Or.inl ne_tb_b29)).other W32 (Or.inl ne_tb_b29)).other W33 (Or.inl ne_tb_b29)).other W34 (Or.inl ne_tb_b29)).other W35 (Or.inl ne_tb_b29)).other W63 (Or.inl ne_tb_b29)), (((((((((((((((Cb.ext E22).other W23 (Or.inl ne_tb_b22)).other W24 (Or.inl ne_tb_b22)).other W25 (Or.inl ne_tb_b22)).other W26 (Or.inl ne_tb_b22)).other W27 (Or.inl ne_tb_b22)).other W28 (Or.inl ne_tb_b22)).ext E29).other W30 (Or.inl ne_tb_b29)).other W31 (Or.inl ne_tb_b29)).other W32 (Or.inl ne_tb_b29)).other W33 (Or.inl ne_tb_b29)).other W34 (Or.inl ne_tb_b29)).other W35 (Or.inl ne_tb_b29)).other W63 (Or.inl ne_tb_b29)), (((((((((((((((Ab.ext E22).other W23 ne_t2_b22).other W24 ne_t2_b22).other W25 ne_t2_b22).other W26 ne_t2_b22).other W27 ne_t2_b22).other W28 ne_t2_b22).ext E29).other W30 ne_t2_b29).other W31 ne_t2_b29).other W32 ne_t2_b29).other W33 ne_t2_b29).other W34 ne_t2_b29).other W35 ne_t2_b29).other W63 ne_t2_b29), SB.2.2.2.2⟩ ((((((((V28.ext E29).other W30 ne_b22_b29).other W31 ne_b22_b29).other W32 ne_b22_b29).other W33 ne_b22_b29).other W34 ne_b22_b29).other W35 ne_b22_b29).other W63 ne_b22_b29) V63 (Or.inr ⟨rfl, fun ⟨zz, z0, z1, z2, z3, z4, z5⟩ => own_addne hc314_64 z5⟩)
    · show Ends p e below s T35 (mkF m 283 #[.val (.int p0), .val (.int p1), .val (.int p2), .val (.int p3), .val (.int p4), .val (.int p5), .val (.int c0), .val (.int c1), .val (.int d0), .val (.int d1), .val (.int md), .val (.ref ta), .val (.ref tb), .val (.int tx), .val (.ref b22), .val (.ref b29), .unset, .unset, .unset, .unset, .unset, .unset] [(.int (6 : Int32))]) _ _ _
      refine Ends.go (fun _ k => XS.istore X35.here hx rfl (hb hby at_283) rfl (l' := #[.val (.int p0), .val (.int p1), .val (.int p2), .val (.int p3), .val (.int p4), .val (.int p5), .val (.int c0), .val (.int c1), .val (.int d0), .val (.int d1), .val (.int md), .val (.ref ta), .val (.ref tb), .val (.int tx), .val (.ref b22), .val (.ref b29), .val (.int (6 : Int32)), .unset, .unset, .unset, .unset, .unset]) rfl k) ?_
      show Ends p e below s T35 (mkF m 285 #[.val (.int p0), .val (.int p1), .val (.int p2), .val (.int p3), .val (.int p4), .val (.int p5), .val (.int c0), .val (.int c1), .val (.int d0), .val (.int d1), .val (.int md), .val (.ref ta), .val (.ref tb), .val (.int tx), .val (.ref b22), .val (.ref b29), .val (.int (6 : Int32)), .unset, .unset, .unset, .unset, .unset] []) _ _ _
      refine Ends.go (fun _ k => XS.iload X35.here hx rfl (hb hby at_285) rfl k) ?_
      show Ends p e below s T35 (mkF m 287 #[.val (.int p0), .val (.int p1), .val (.int p2), .val (.int p3), .val (.int p4), .val (.int p5), .val (.int c0), .val (.int c1), .val (.int d0), .val (.int d1), .val (.int md), .val (.ref ta), .val (.ref tb), .val (.int tx), .val (.ref b22), .val (.ref b29), .val (.int (6 : Int32)), .unset, .unset, .unset, .unset, .unset] [(.int (6 : Int32))]) _ _ _
      refine Ends.go (fun _ k => XS.bipush X35.here hx rfl (hb hby at_287) k) ?_
      show Ends p e below s T35 (mkF m 289 #[.val (.int p0), .val (.int p1), .val (.int p2), .val (.int p3), .val (.int p4), .val (.int p5), .val (.int c0), .val (.int c1), .val (.int d0), .val (.int d1), .val (.int md), .val (.ref ta), .val (.ref tb), .val (.int tx), .val (.ref b22), .val (.ref b29), .val (.int (6 : Int32)), .unset, .unset, .unset, .unset, .unset] [(.int (6 : Int32)), (.int (6 : Int32))]) _ _ _
      refine Ends.go (fun _ k => XS.icmpYes X35.here hx rfl (pc0 := 289) (pc' := 305) rfl (hb hby at_289) rfl (flt (by decide : ¬ ((6 : Int32) < (6 : Int32)))).2.1 (by decide) (by decide) k) ?_
      show Ends p e below s T35 (mkF m 305 #[.val (.int p0), .val (.int p1), .val (.int p2), .val (.int p3), .val (.int p4), .val (.int p5), .val (.int c0), .val (.int c1), .val (.int d0), .val (.int d1), .val (.int md), .val (.ref ta), .val (.ref tb), .val (.int tx), .val (.ref b22), .val (.ref b29), .val (.int (6 : Int32)), .unset, .unset, .unset, .unset, .unset] []) _ _ _
      refine Ends.go (fun _ k => XS.iload X35.here hx rfl (hb hby at_305) rfl k) ?_
      show Ends p e below s T35 (mkF m 307 #[.val (.int p0), .val (.int p1), .val (.int p2), .val (.int p3), .val (.int p4), .val (.int p5), .val (.int c0), .val (.int c1), .val (.int d0), .val (.int d1), .val (.int md), .val (.ref ta), .val (.ref tb), .val (.int tx), .val (.ref b22), .val (.ref b29), .val (.int (6 : Int32)), .unset, .unset, .unset, .unset, .unset] [(.int (6 : Int32))]) _ _ _
      refine Ends.go (fun _ k => XS.bipush X35.here hx rfl (hb hby at_307) k) ?_
      show Ends p e below s T35 (mkF m 309 #[.val (.int p0), .val (.int p1), .val (.int p2), .val (.int p3), .val (.int p4), .val (.int p5), .val (.int c0), .val (.int c1), .val (.int d0), .val (.int d1), .val (.int md), .val (.ref ta), .val (.ref tb), .val (.int tx), .val (.ref b22), .val (.ref b29), .val (.int (6 : Int32)), .unset, .unset, .unset, .unset, .unset] [(.int (6 : Int32)), (.int (6 : Int32))]) _ _ _
      refine Ends.go (fun _ k => XS.icmpYes X35.here hx rfl (pc0 := 309) (pc' := 317) rfl (hb hby at_309) rfl (flt (by decide : ¬ ((6 : Int32) < (6 : Int32)))).2.1 (by decide) (by decide) k) ?_
      show Ends p e below s T35 (mkF m 317 #[.val (.int p0), .val (.int p1), .val (.int p2), .val (.int p3), .val (.int p4), .val (.int p5), .val (.int c0), .val (.int c1), .val (.int d0), .val (.int d1), .val (.int md), .val (.ref ta), .val (.ref tb), .val (.int tx), .val (.ref b22), .val (.ref b29), .val (.int (6 : Int32)), .unset, .unset, .unset, .unset, .unset] []) _ _ _
      refine Ends.go (fun _ k => XS.iconst X35.here hx rfl (hb hby at_317) k) ?_
      show Ends p e below s T35 (mkF m 318 #[.val (.int p0), .val (.int p1), .val (.int p2), .val (.int p3), .val (.int p4), .val (.int p5), .val (.int c0), .val (.int c1), .val (.int d0), .val (.int d1), .val (.int md), .val (.ref ta), .val (.ref tb), .val (.int tx), .val (.ref b22), .val (.ref b29), .val (.int (6 : Int32)), .unset, .unset, .unset, .unset, .unset] [(.int (1 : Int32))]) _ _ _
      refine Ends.go (fun _ k => XS.goto X35.here hx rfl (pc0 := 318) (pc' := 322) rfl (hb hby at_318) (by decide) (by decide) k) ?_
      show Ends p e below s T35 (mkF m 322 #[.val (.int p0), .val (.int p1), .val (.int p2), .val (.int p3), .val (.int p4), .val (.int p5), .val (.int c0), .val (.int c1), .val (.int d0), .val (.int d1), .val (.int md), .val (.ref ta), .val (.ref tb), .val (.int tx), .val (.ref b22), .val (.ref b29), .val (.int (6 : Int32)), .unset, .unset, .unset, .unset, .unset] [(.int (1 : Int32))]) _ _ _
      refine Ends.go (fun _ k => XS.istore X35.here hx rfl (hb hby at_322) rfl (l' := #[.val (.int p0), .val (.int p1), .val (.int p2), .val (.int p3), .val (.int p4), .val (.int p5), .val (.int c0), .val (.int c1), .val (.int d0), .val (.int d1), .val (.int md), .val (.ref ta), .val (.ref tb), .val (.int tx), .val (.ref b22), .val (.ref b29), .val (.int (6 : Int32)), .val (.int (1 : Int32)), .unset, .unset, .unset, .unset]) rfl k) ?_
      show Ends p e below s T35 (mkF m 324 #[.val (.int p0), .val (.int p1), .val (.int p2), .val (.int p3), .val (.int p4), .val (.int p5), .val (.int c0), .val (.int c1), .val (.int d0), .val (.int d1), .val (.int md), .val (.ref ta), .val (.ref tb), .val (.int tx), .val (.ref b22), .val (.ref b29), .val (.int (6 : Int32)), .val (.int (1 : Int32)), .unset, .unset, .unset, .unset] []) _ _ _
      refine Ends.go (fun _ k => XS.iload X35.here hx rfl (hb hby at_324) rfl k) ?_
      show Ends p e below s T35 (mkF m 326 #[.val (.int p0), .val (.int p1), .val (.int p2), .val (.int p3), .val (.int p4), .val (.int p5), .val (.int c0), .val (.int c1), .val (.int d0), .val (.int d1), .val (.int md), .val (.ref ta), .val (.ref tb), .val (.int tx), .val (.ref b22), .val (.ref b29), .val (.int (6 : Int32)), .val (.int (1 : Int32)), .unset, .unset, .unset, .unset] [(.int tx)]) _ _ _
      by_cases hc326_67 : tx = (0 : Int32)
      · refine Ends.go (fun _ k => XS.ifYes X35.here hx rfl (pc0 := 326) (pc' := 338) rfl (hb hby at_326) rfl ((if0 _ _).trans (teq hc326_67).1) (by decide) (by decide) k) ?_
        show Ends p e below s T35 (mkF m 338 #[.val (.int p0), .val (.int p1), .val (.int p2), .val (.int p3), .val (.int p4), .val (.int p5), .val (.int c0), .val (.int c1), .val (.int d0), .val (.int d1), .val (.int md), .val (.ref ta), .val (.ref tb), .val (.int tx), .val (.ref b22), .val (.ref b29), .val (.int (6 : Int32)), .val (.int (1 : Int32)), .unset, .unset, .unset, .unset] []) _ _ _
        refine Ends.go (fun _ k => XS.iconst X35.here hx rfl (hb hby at_338) k) ?_
        show Ends p e below s T35 (mkF m 339 #[.val (.int p0), .val (.int p1), .val (.int p2), .val (.int p3), .val (.int p4), .val (.int p5), .val (.int c0), .val (.int c1), .val (.int d0), .val (.int d1), .val (.int md), .val (.ref ta), .val (.ref tb), .val (.int tx), .val (.ref b22), .val (.ref b29), .val (.int (6 : Int32)), .val (.int (1 : Int32)), .unset, .unset, .unset, .unset] [(.int (0 : Int32))]) _ _ _
        refine Ends.go (fun _ k => XS.istore X35.here hx rfl (hb hby at_339) rfl (l' := #[.val (.int p0), .val (.int p1), .val (.int p2), .val (.int p3), .val (.int p4), .val (.int p5), .val (.int c0), .val (.int c1), .val (.int d0), .val (.int d1), .val (.int md), .val (.ref ta), .val (.ref tb), .val (.int tx), .val (.ref b22), .val (.ref b29), .val (.int (6 : Int32)), .val (.int (1 : Int32)), .val (.int (0 : Int32)), .unset, .unset, .unset]) rfl k) ?_
        show Ends p e below s T35 (mkF m 341 #[.val (.int p0), .val (.int p1), .val (.int p2), .val (.int p3), .val (.int p4), .val (.int p5), .val (.int c0), .val (.int c1), .val (.int d0), .val (.int d1), .val (.int md), .val (.ref ta), .val (.ref tb), .val (.int tx), .val (.ref b22), .val (.ref b29), .val (.int (6 : Int32)), .val (.int (1 : Int32)), .val (.int (0 : Int32)), .unset, .unset, .unset] []) _ _ _
        exact J341 _ _ _ _ _ _ _ _ _ _ p2 p3 (p2 ^^^ (-1 : Int32)) (p3 ^^^ (-1 : Int32)) (p2 ^^^ p3) (p2 - p3) X35 e35 O35 N35 K35 ⟨((((((((((((((Ea.ext E22).wr W23).wr W24).wr W25).wr W26).wr W27).wr W28).ext E29).wr W30).wr W31).wr W32).wr W33).wr W34).wr W35), ((((((((((((((Va.ext E22).other W23 (Or.inl ne_ta_b22)).other W24 (Or.inl ne_ta_b22)).other W25 (Or.inl ne_ta_b22)).other W26 (Or.inl ne_ta_b22)).other W27 (Or.inl ne_ta_b22)).other W28 (Or.inl ne_ta_b22)).ext E29).other W30 (Or.inl ne_ta_b29)).other W31 (Or.inl ne_ta_b29)).other W32 (Or.inl ne_ta_b29)).other W33 (Or.inl ne_ta_b29)).other W34 (Or.inl ne_ta_b29)).other W35 (Or.inl ne_ta_b29)), ((((((((((((((Ca.ext E22).other W23 (Or.inl ne_ta_b22)).other W24 (Or.inl ne_ta_b22)).other W25 (Or.inl ne_ta_b22)).other W26 (Or.inl ne_ta_b22)).other W27 (Or.inl ne_ta_b22)).other W28 (Or.inl ne_ta_b22)).ext E29).other W30 (Or.inl ne_ta_b29)).other W31 (Or.inl ne_ta_b29)).other W32 (Or.inl ne_ta_b29)).other W33 (Or.inl ne_ta_b29)).other W34 (Or.inl ne_ta_b29)).other W35 (Or.inl ne_ta_b29)), ((((((((((((((Aa.ext E22).other W23 ne_t1_b22).other W24 ne_t1_b22).other W25 ne_t1_b22).other W26 ne_t1_b22).other W27 ne_t1_b22).other W28 ne_t1_b22).ext E29).other W30 ne_t1_b29).other W31 ne_t1_b29).other W32 ne_t1_b29).other W33 ne_t1_b29).other W34 ne_t1_b29).other W35 ne_t1_b29), SA.2.2.2.2⟩ ⟨((((((((((((((Eb.ext E22).wr W23).wr W24).wr W25).wr W26).wr W27).wr W28).ext E29).wr W30).wr W31).wr W32).wr W33).wr W34).wr W35), ((((((((((((((Vb.ext E22).other W23 (Or.inl ne_tb_b22)).other W24 (Or.inl ne_tb_b22)).other W25 (Or.inl ne_tb_b22)).other W26 (Or.inl ne_tb_b22)).other W27 (Or.inl ne_tb_b22)).other W28 (Or.inl ne_tb_b22)).ext E29).other W30 (Or.inl ne_tb_b29)).other W31 (Or.inl ne_tb_b29)).other W32 (Or.inl ne_tb_b29)).other W33 (Or.inl ne_tb_b29)).other W34 (Or.inl ne_tb_b29)).other W35 (Or.inl ne_tb_b29)), ((((((((((((((Cb.ext E22).other W23 (Or.inl ne_tb_b22)).other W24 (Or.inl ne_tb_b22)).other W25 (Or.inl ne_tb_b22)).other W26 (Or.inl ne_tb_b22)).other W27 (Or.inl ne_tb_b22)).other W28 (Or.inl ne_tb_b22)).ext E29).other W30 (Or.inl ne_tb_b29)).other W31 (Or.inl ne_tb_b29)).other W32 (Or.inl ne_tb_b29)).other W33 (Or.inl ne_tb_b29)).other W34 (Or.inl ne_tb_b29)).other W35 (Or.inl ne_tb_b29)), ((((((((((((((Ab.ext E22).other W23 ne_t2_b22).other W24 ne_t2_b22).other W25 ne_t2_b22).other W26 ne_t2_b22).other W27 ne_t2_b22).other W28 ne_t2_b22).ext E29).other W30 ne_t2_b29).other W31 ne_t2_b29).other W32 ne_t2_b29).other W33 ne_t2_b29).other W34 ne_t2_b29).other W35 ne_t2_b29), SB.2.2.2.2⟩ (((((((V28.ext E29).other W30 ne_b22_b29).other W31 ne_b22_b29).other W32 ne_b22_b29).other W33 ne_b22_b29).other W34 ne_b22_b29).other W35 ne_b22_b29) V35 (Or.inr ⟨rfl, fun q => own_tx0 htx hc326_67 q.1⟩)
      · refine Ends.go (fun _ k => XS.ifNo X35.here hx rfl (hb hby at_326) rfl ((if0 _ _).trans (feq hc326_67).1) k) ?_
        show Ends p e below s T35 (mkF m 329 #[.val (.int p0), .val (.int p1), .val (.int p2), .val (.int p3), .val (.int p4), .val (.int p5), .val (.int c0), .val (.int c1), .val (.int d0), .val (.int d1), .val (.int md), .val (.ref ta), .val (.ref tb), .val (.int tx), .val (.ref b22), .val (.ref b29), .val (.int (6 : Int32)), .val (.int (1 : Int32)), .unset, .unset, .unset, .unset] []) _ _ _
        refine Ends.go (fun _ k => XS.iload X35.here hx rfl (hb hby at_329) rfl k) ?_
        show Ends p e below s T35 (mkF m 331 #[.val (.int p0), .val (.int p1), .val (.int p2), .val (.int p3), .val (.int p4), .val (.int p5), .val (.int c0), .val (.int c1), .val (.int d0), .val (.int d1), .val (.int md), .val (.ref ta), .val (.ref tb), .val (.int tx), .val (.ref b22), .val (.ref b29), .val (.int (6 : Int32)), .val (.int (1 : Int32)), .unset, .unset, .unset, .unset] [(.int (1 : Int32))]) _ _ _
        refine Ends.go (fun _ k => XS.ifNo X35.here hx rfl (hb hby at_331) rfl ((if0 _ _).trans (feq (by decide : ¬ ((1 : Int32) = (0 : Int32)))).1) k) ?_
        show Ends p e below s T35 (mkF m 334 #[.val (.int p0), .val (.int p1), .val (.int p2), .val (.int p3), .val (.int p4), .val (.int p5), .val (.int c0), .val (.int c1), .val (.int d0), .val (.int d1), .val (.int md), .val (.ref ta), .val (.ref tb), .val (.int tx), .val (.ref b22), .val (.ref b29), .val (.int (6 : Int32)), .val (.int (1 : Int32)), .unset, .unset, .unset, .unset] []) _ _ _
        refine Ends.go (fun _ k => XS.iconst X35.here hx rfl (hb hby at_334) k) ?_
        show Ends p e below s T35 (mkF m 335 #[.val (.int p0), .val (.int p1), .val (.int p2), .val (.int p3), .val (.int p4), .val (.int p5), .val (.int c0), .val (.int c1), .val (.int d0), .val (.int d1), .val (.int md), .val (.ref ta), .val (.ref tb), .val (.int tx), .val (.ref b22), .val (.ref b29), .val (.int (6 : Int32)), .val (.int (1 : Int32)), .unset, .unset, .unset, .unset] [(.int (1 : Int32))]) _ _ _
        refine Ends.go (fun _ k => XS.goto X35.here hx rfl (pc0 := 335) (pc' := 339) rfl (hb hby at_335) (by decide) (by decide) k) ?_
        show Ends p e below s T35 (mkF m 339 #[.val (.int p0), .val (.int p1), .val (.int p2), .val (.int p3), .val (.int p4), .val (.int p5), .val (.int c0), .val (.int c1), .val (.int d0), .val (.int d1), .val (.int md), .val (.ref ta), .val (.ref tb), .val (.int tx), .val (.ref b22), .val (.ref b29), .val (.int (6 : Int32)), .val (.int (1 : Int32)), .unset, .unset, .unset, .unset] [(.int (1 : Int32))]) _ _ _
        refine Ends.go (fun _ k => XS.istore X35.here hx rfl (hb hby at_339) rfl (l' := #[.val (.int p0), .val (.int p1), .val (.int p2), .val (.int p3), .val (.int p4), .val (.int p5), .val (.int c0), .val (.int c1), .val (.int d0), .val (.int d1), .val (.int md), .val (.ref ta), .val (.ref tb), .val (.int tx), .val (.ref b22), .val (.ref b29), .val (.int (6 : Int32)), .val (.int (1 : Int32)), .val (.int (1 : Int32)), .unset, .unset, .unset]) rfl k) ?_
        show Ends p e below s T35 (mkF m 341 #[.val (.int p0), .val (.int p1), .val (.int p2), .val (.int p3), .val (.int p4), .val (.int p5), .val (.int c0), .val (.int c1), .val (.int d0), .val (.int d1), .val (.int md), .val (.ref ta), .val (.ref tb), .val (.int tx), .val (.ref b22), .val (.ref b29), .val (.int (6 : Int32)), .val (.int (1 : Int32)), .val (.int (1 : Int32)), .unset, .unset, .unset] []) _ _ _
        exact J341 _ _ _ _ _ _ _ _ _ _ p2 p3 (p2 ^^^ (-1 : Int32)) (p3 ^^^ (-1 : Int32)) (p2 ^^^ p3) (p2 - p3) X35 e35 O35 N35 K35 ⟨((((((((((((((Ea.ext E22).wr W23).wr W24).wr W25).wr W26).wr W27).wr W28).ext E29).wr W30).wr W31).wr W32).wr W33).wr W34).wr W35), ((((((((((((((Va.ext E22).other W23 (Or.inl ne_ta_b22)).other W24 (Or.inl ne_ta_b22)).other W25 (Or.inl ne_ta_b22)).other W26 (Or.inl ne_ta_b22)).other W27 (Or.inl ne_ta_b22)).other W28 (Or.inl ne_ta_b22)).ext E29).other W30 (Or.inl ne_ta_b29)).other W31 (Or.inl ne_ta_b29)).other W32 (Or.inl ne_ta_b29)).other W33 (Or.inl ne_ta_b29)).other W34 (Or.inl ne_ta_b29)).other W35 (Or.inl ne_ta_b29)), ((((((((((((((Ca.ext E22).other W23 (Or.inl ne_ta_b22)).other W24 (Or.inl ne_ta_b22)).other W25 (Or.inl ne_ta_b22)).other W26 (Or.inl ne_ta_b22)).other W27 (Or.inl ne_ta_b22)).other W28 (Or.inl ne_ta_b22)).ext E29).other W30 (Or.inl ne_ta_b29)).other W31 (Or.inl ne_ta_b29)).other W32 (Or.inl ne_ta_b29)).other W33 (Or.inl ne_ta_b29)).other W34 (Or.inl ne_ta_b29)).other W35 (Or.inl ne_ta_b29)), ((((((((((((((Aa.ext E22).other W23 ne_t1_b22).other W24 ne_t1_b22).other W25 ne_t1_b22).other W26 ne_t1_b22).other W27 ne_t1_b22).other W28 ne_t1_b22).ext E29).other W30 ne_t1_b29).other W31 ne_t1_b29).other W32 ne_t1_b29).other W33 ne_t1_b29).other W34 ne_t1_b29).other W35 ne_t1_b29), SA.2.2.2.2⟩ ⟨((((((((((((((Eb.ext E22).wr W23).wr W24).wr W25).wr W26).wr W27).wr W28).ext E29).wr W30).wr W31).wr W32).wr W33).wr W34).wr W35), ((((((((((((((Vb.ext E22).other W23 (Or.inl ne_tb_b22)).other W24 (Or.inl ne_tb_b22)).other W25 (Or.inl ne_tb_b22)).other W26 (Or.inl ne_tb_b22)).other W27 (Or.inl ne_tb_b22)).other W28 (Or.inl ne_tb_b22)).ext E29).other W30 (Or.inl ne_tb_b29)).other W31 (Or.inl ne_tb_b29)).other W32 (Or.inl ne_tb_b29)).other W33 (Or.inl ne_tb_b29)).other W34 (Or.inl ne_tb_b29)).other W35 (Or.inl ne_tb_b29)), ((((((((((((((Cb.ext E22).other W23 (Or.inl ne_tb_b22)).other W24 (Or.inl ne_tb_b22)).other W25 (Or.inl ne_tb_b22)).other W26 (Or.inl ne_tb_b22)).other W27 (Or.inl ne_tb_b22)).other W28 (Or.inl ne_tb_b22)).ext E29).other W30 (Or.inl ne_tb_b29)).other W31 (Or.inl ne_tb_b29)).other W32 (Or.inl ne_tb_b29)).other W33 (Or.inl ne_tb_b29)).other W34 (Or.inl ne_tb_b29)).other W35 (Or.inl ne_tb_b29)), ((((((((((((((Ab.ext E22).other W23 ne_t2_b22).other W24 ne_t2_b22).other W25 ne_t2_b22).other W26 ne_t2_b22).other W27 ne_t2_b22).other W28 ne_t2_b22).ext E29).other W30 ne_t2_b29).other W31 ne_t2_b29).other W32 ne_t2_b29).other W33 ne_t2_b29).other W34 ne_t2_b29).other W35 ne_t2_b29), SB.2.2.2.2⟩ (((((((V28.ext E29).other W30 ne_b22_b29).other W31 ne_b22_b29).other W32 ne_b22_b29).other W33 ne_b22_b29).other W34 ne_b22_b29).other W35 ne_b22_b29) V35 (Or.inl ⟨rfl, own_tx1 htx hc326_67, rfl, rfl, rfl, rfl, rfl, rfl⟩)
    · show Ends p e below s T35 (mkF m 283 #[.val (.int p0), .val (.int p1), .val (.int p2), .val (.int p3), .val (.int p4), .val (.int p5), .val (.int c0), .val (.int c1), .val (.int d0), .val (.int d1), .val (.int md), .val (.ref ta), .val (.ref tb), .val (.int tx), .val (.ref b22), .val (.ref b29), .unset, .unset, .unset, .unset, .unset, .unset] [(.int (7 : Int32))]) _ _ _
      refine Ends.go (fun _ k => XS.istore X35.here hx rfl (hb hby at_283) rfl (l' := #[.val (.int p0), .val (.int p1), .val (.int p2), .val (.int p3), .val (.int p4), .val (.int p5), .val (.int c0), .val (.int c1), .val (.int d0), .val (.int d1), .val (.int md), .val (.ref ta), .val (.ref tb), .val (.int tx), .val (.ref b22), .val (.ref b29), .val (.int (7 : Int32)), .unset, .unset, .unset, .unset, .unset]) rfl k) ?_
      show Ends p e below s T35 (mkF m 285 #[.val (.int p0), .val (.int p1), .val (.int p2), .val (.int p3), .val (.int p4), .val (.int p5), .val (.int c0), .val (.int c1), .val (.int d0), .val (.int d1), .val (.int md), .val (.ref ta), .val (.ref tb), .val (.int tx), .val (.ref b22), .val (.ref b29), .val (.int (7 : Int32)), .unset, .unset, .unset, .unset, .unset] []) _ _ _
      refine Ends.go (fun _ k => XS.iload X35.here hx rfl (hb hby at_285) rfl k) ?_
      show Ends p e below s T35 (mkF m 287 #[.val (.int p0), .val (.int p1), .val (.int p2), .val (.int p3), .val (.int p4), .val (.int p5), .val (.int c0), .val (.int c1), .val (.int d0), .val (.int d1), .val (.int md), .val (.ref ta), .val (.ref tb), .val (.int tx), .val (.ref b22), .val (.ref b29), .val (.int (7 : Int32)), .unset, .unset, .unset, .unset, .unset] [(.int (7 : Int32))]) _ _ _
      refine Ends.go (fun _ k => XS.bipush X35.here hx rfl (hb hby at_287) k) ?_
      show Ends p e below s T35 (mkF m 289 #[.val (.int p0), .val (.int p1), .val (.int p2), .val (.int p3), .val (.int p4), .val (.int p5), .val (.int c0), .val (.int c1), .val (.int d0), .val (.int d1), .val (.int md), .val (.ref ta), .val (.ref tb), .val (.int tx), .val (.ref b22), .val (.ref b29), .val (.int (7 : Int32)), .unset, .unset, .unset, .unset, .unset] [(.int (6 : Int32)), (.int (7 : Int32))]) _ _ _
      refine Ends.go (fun _ k => XS.icmpYes X35.here hx rfl (pc0 := 289) (pc' := 305) rfl (hb hby at_289) rfl (flt (by decide : ¬ ((7 : Int32) < (6 : Int32)))).2.1 (by decide) (by decide) k) ?_
      show Ends p e below s T35 (mkF m 305 #[.val (.int p0), .val (.int p1), .val (.int p2), .val (.int p3), .val (.int p4), .val (.int p5), .val (.int c0), .val (.int c1), .val (.int d0), .val (.int d1), .val (.int md), .val (.ref ta), .val (.ref tb), .val (.int tx), .val (.ref b22), .val (.ref b29), .val (.int (7 : Int32)), .unset, .unset, .unset, .unset, .unset] []) _ _ _
      refine Ends.go (fun _ k => XS.iload X35.here hx rfl (hb hby at_305) rfl k) ?_
      show Ends p e below s T35 (mkF m 307 #[.val (.int p0), .val (.int p1), .val (.int p2), .val (.int p3), .val (.int p4), .val (.int p5), .val (.int c0), .val (.int c1), .val (.int d0), .val (.int d1), .val (.int md), .val (.ref ta), .val (.ref tb), .val (.int tx), .val (.ref b22), .val (.ref b29), .val (.int (7 : Int32)), .unset, .unset, .unset, .unset, .unset] [(.int (7 : Int32))]) _ _ _
      refine Ends.go (fun _ k => XS.bipush X35.here hx rfl (hb hby at_307) k) ?_
      show Ends p e below s T35 (mkF m 309 #[.val (.int p0), .val (.int p1), .val (.int p2), .val (.int p3), .val (.int p4), .val (.int p5), .val (.int c0), .val (.int c1), .val (.int d0), .val (.int d1), .val (.int md), .val (.ref ta), .val (.ref tb), .val (.int tx), .val (.ref b22), .val (.ref b29), .val (.int (7 : Int32)), .unset, .unset, .unset, .unset, .unset] [(.int (6 : Int32)), (.int (7 : Int32))]) _ _ _
      refine Ends.go (fun _ k => XS.icmpYes X35.here hx rfl (pc0 := 309) (pc' := 317) rfl (hb hby at_309) rfl (flt (by decide : ¬ ((7 : Int32) < (6 : Int32)))).2.1 (by decide) (by decide) k) ?_
      show Ends p e below s T35 (mkF m 317 #[.val (.int p0), .val (.int p1), .val (.int p2), .val (.int p3), .val (.int p4), .val (.int p5), .val (.int c0), .val (.int c1), .val (.int d0), .val (.int d1), .val (.int md), .val (.ref ta), .val (.ref tb), .val (.int tx), .val (.ref b22), .val (.ref b29), .val (.int (7 : Int32)), .unset, .unset, .unset, .unset, .unset] []) _ _ _
      refine Ends.go (fun _ k => XS.iconst X35.here hx rfl (hb hby at_317) k) ?_
      show Ends p e below s T35 (mkF m 318 #[.val (.int p0), .val (.int p1), .val (.int p2), .val (.int p3), .val (.int p4), .val (.int p5), .val (.int c0), .val (.int c1), .val (.int d0), .val (.int d1), .val (.int md), .val (.ref ta), .val (.ref tb), .val (.int tx), .val (.ref b22), .val (.ref b29), .val (.int (7 : Int32)), .unset, .unset, .unset, .unset, .unset] [(.int (1 : Int32))]) _ _ _
      refine Ends.go (fun _ k => XS.goto X35.here hx rfl (pc0 := 318) (pc' := 322) rfl (hb hby at_318) (by decide) (by decide) k) ?_
      show Ends p e below s T35 (mkF m 322 #[.val (.int p0), .val (.int p1), .val (.int p2), .val (.int p3), .val (.int p4), .val (.int p5), .val (.int c0), .val (.int c1), .val (.int d0), .val (.int d1), .val (.int md), .val (.ref ta), .val (.ref tb), .val (.int tx), .val (.ref b22), .val (.ref b29), .val (.int (7 : Int32)), .unset, .unset, .unset, .unset, .unset] [(.int (1 : Int32))]) _ _ _
      refine Ends.go (fun _ k => XS.istore X35.here hx rfl (hb hby at_322) rfl (l' := #[.val (.int p0), .val (.int p1), .val (.int p2), .val (.int p3), .val (.int p4), .val (.int p5), .val (.int c0), .val (.int c1), .val (.int d0), .val (.int d1), .val (.int md), .val (.ref ta), .val (.ref tb), .val (.int tx), .val (.ref b22), .val (.ref b29), .val (.int (7 : Int32)), .val (.int (1 : Int32)), .unset, .unset, .unset, .unset]) rfl k) ?_
      show Ends p e below s T35 (mkF m 324 #[.val (.int p0), .val (.int p1), .val (.int p2), .val (.int p3), .val (.int p4), .val (.int p5), .val (.int c0), .val (.int c1), .val (.int d0), .val (.int d1), .val (.int md), .val (.ref ta), .val (.ref tb), .val (.int tx), .val (.ref b22), .val (.ref b29), .val (.int (7 : Int32)), .val (.int (1 : Int32)), .unset, .unset, .unset, .unset] []) _ _ _
      refine Ends.go (fun _ k => XS.iload X35.here hx rfl (hb hby at_324) rfl k) ?_
      show Ends p e below s T35 (mkF m 326 #[.val (.int p0), .val (.int p1), .val (.int p2), .val (.int p3), .val (.int p4), .val (.int p5), .val (.int c0), .val (.int c1), .val (.int d0), .val (.int d1), .val (.int md), .val (.ref ta), .val (.ref tb), .val (.int tx), .val (.ref b22), .val (.ref b29), .val (.int (7 : Int32)), .val (.int (1 : Int32)), .unset, .unset, .unset, .unset] [(.int tx)]) _ _ _
      by_cases hc326_68 : tx = (0 : Int32)
      · refine Ends.go (fun _ k => XS.ifYes X35.here hx rfl (pc0 := 326) (pc' := 338) rfl (hb hby at_326) rfl ((if0 _ _).trans (teq hc326_68).1) (by decide) (by decide) k) ?_
        show Ends p e below s T35 (mkF m 338 #[.val (.int p0), .val (.int p1), .val (.int p2), .val (.int p3), .val (.int p4), .val (.int p5), .val (.int c0), .val (.int c1), .val (.int d0), .val (.int d1), .val (.int md), .val (.ref ta), .val (.ref tb), .val (.int tx), .val (.ref b22), .val (.ref b29), .val (.int (7 : Int32)), .val (.int (1 : Int32)), .unset, .unset, .unset, .unset] []) _ _ _
        refine Ends.go (fun _ k => XS.iconst X35.here hx rfl (hb hby at_338) k) ?_
        show Ends p e below s T35 (mkF m 339 #[.val (.int p0), .val (.int p1), .val (.int p2), .val (.int p3), .val (.int p4), .val (.int p5), .val (.int c0), .val (.int c1), .val (.int d0), .val (.int d1), .val (.int md), .val (.ref ta), .val (.ref tb), .val (.int tx), .val (.ref b22), .val (.ref b29), .val (.int (7 : Int32)), .val (.int (1 : Int32)), .unset, .unset, .unset, .unset] [(.int (0 : Int32))]) _ _ _
        refine Ends.go (fun _ k => XS.istore X35.here hx rfl (hb hby at_339) rfl (l' := #[.val (.int p0), .val (.int p1), .val (.int p2), .val (.int p3), .val (.int p4), .val (.int p5), .val (.int c0), .val (.int c1), .val (.int d0), .val (.int d1), .val (.int md), .val (.ref ta), .val (.ref tb), .val (.int tx), .val (.ref b22), .val (.ref b29), .val (.int (7 : Int32)), .val (.int (1 : Int32)), .val (.int (0 : Int32)), .unset, .unset, .unset]) rfl k) ?_
        show Ends p e below s T35 (mkF m 341 #[.val (.int p0), .val (.int p1), .val (.int p2), .val (.int p3), .val (.int p4), .val (.int p5), .val (.int c0), .val (.int c1), .val (.int d0), .val (.int d1), .val (.int md), .val (.ref ta), .val (.ref tb), .val (.int tx), .val (.ref b22), .val (.ref b29), .val (.int (7 : Int32)), .val (.int (1 : Int32)), .val (.int (0 : Int32)), .unset, .unset, .unset] []) _ _ _
        exact J341 _ _ _ _ _ _ _ _ _ _ p2 p3 (p2 ^^^ (-1 : Int32)) (p3 ^^^ (-1 : Int32)) (p2 ^^^ p3) (p2 - p3) X35 e35 O35 N35 K35 ⟨((((((((((((((Ea.ext E22).wr W23).wr W24).wr W25).wr W26).wr W27).wr W28).ext E29).wr W30).wr W31).wr W32).wr W33).wr W34).wr W35), ((((((((((((((Va.ext E22).other W23 (Or.inl ne_ta_b22)).other W24 (Or.inl ne_ta_b22)).other W25 (Or.inl ne_ta_b22)).other W26 (Or.inl ne_ta_b22)).other W27 (Or.inl ne_ta_b22)).other W28 (Or.inl ne_ta_b22)).ext E29).other W30 (Or.inl ne_ta_b29)).other W31 (Or.inl ne_ta_b29)).other W32 (Or.inl ne_ta_b29)).other W33 (Or.inl ne_ta_b29)).other W34 (Or.inl ne_ta_b29)).other W35 (Or.inl ne_ta_b29)), ((((((((((((((Ca.ext E22).other W23 (Or.inl ne_ta_b22)).other W24 (Or.inl ne_ta_b22)).other W25 (Or.inl ne_ta_b22)).other W26 (Or.inl ne_ta_b22)).other W27 (Or.inl ne_ta_b22)).other W28 (Or.inl ne_ta_b22)).ext E29).other W30 (Or.inl ne_ta_b29)).other W31 (Or.inl ne_ta_b29)).other W32 (Or.inl ne_ta_b29)).other W33 (Or.inl ne_ta_b29)).other W34 (Or.inl ne_ta_b29)).other W35 (Or.inl ne_ta_b29)), ((((((((((((((Aa.ext E22).other W23 ne_t1_b22).other W24 ne_t1_b22).other W25 ne_t1_b22).other W26 ne_t1_b22).other W27 ne_t1_b22).other W28 ne_t1_b22).ext E29).other W30 ne_t1_b29).other W31 ne_t1_b29).other W32 ne_t1_b29).other W33 ne_t1_b29).other W34 ne_t1_b29).other W35 ne_t1_b29), SA.2.2.2.2⟩ ⟨((((((((((((((Eb.ext E22).wr W23).wr W24).wr W25).wr W26).wr W27).wr W28).ext E29).wr W30).wr W31).wr W32).wr W33).wr W34).wr W35), ((((((((((((((Vb.ext E22).other W23 (Or.inl ne_tb_b22)).other W24 (Or.inl ne_tb_b22)).other W25 (Or.inl ne_tb_b22)).other W26 (Or.inl ne_tb_b22)).other W27 (Or.inl ne_tb_b22)).other W28 (Or.inl ne_tb_b22)).ext E29).other W30 (Or.inl ne_tb_b29)).other W31 (Or.inl ne_tb_b29)).other W32 (Or.inl ne_tb_b29)).other W33 (Or.inl ne_tb_b29)).other W34 (Or.inl ne_tb_b29)).other W35 (Or.inl ne_tb_b29)), ((((((((((((((Cb.ext E22).other W23 (Or.inl ne_tb_b22)).other W24 (Or.inl ne_tb_b22)).other W25 (Or.inl ne_tb_b22)).other W26 (Or.inl ne_tb_b22)).other W27 (Or.inl ne_tb_b22)).other W28 (Or.inl ne_tb_b22)).ext E29).other W30 (Or.inl ne_tb_b29)).other W31 (Or.inl ne_tb_b29)).other W32 (Or.inl ne_tb_b29)).other W33 (Or.inl ne_tb_b29)).other W34 (Or.inl ne_tb_b29)).other W35 (Or.inl ne_tb_b29)), ((((((((((((((Ab.ext E22).other W23 ne_t2_b22).other W24 ne_t2_b22).other W25 ne_t2_b22).other W26 ne_t2_b22).other W27 ne_t2_b22).other W28 ne_t2_b22).ext E29).other W30 ne_t2_b29).other W31 ne_t2_b29).other W32 ne_t2_b29).other W33 ne_t2_b29).other W34 ne_t2_b29).other W35 ne_t2_b29), SB.2.2.2.2⟩ (((((((V28.ext E29).other W30 ne_b22_b29).other W31 ne_b22_b29).other W32 ne_b22_b29).other W33 ne_b22_b29).other W34 ne_b22_b29).other W35 ne_b22_b29) V35 (Or.inr ⟨rfl, fun q => own_tx0 htx hc326_68 q.1⟩)
      · refine Ends.go (fun _ k => XS.ifNo X35.here hx rfl (hb hby at_326) rfl ((if0 _ _).trans (feq hc326_68).1) k) ?_
        show Ends p e below s T35 (mkF m 329 #[.val (.int p0), .val (.int p1), .val (.int p2), .val (.int p3), .val (.int p4), .val (.int p5), .val (.int c0), .val (.int c1), .val (.int d0), .val (.int d1), .val (.int md), .val (.ref ta), .val (.ref tb), .val (.int tx), .val (.ref b22), .val (.ref b29), .val (.int (7 : Int32)), .val (.int (1 : Int32)), .unset, .unset, .unset, .unset] []) _ _ _
        refine Ends.go (fun _ k => XS.iload X35.here hx rfl (hb hby at_329) rfl k) ?_
        show Ends p e below s T35 (mkF m 331 #[.val (.int p0), .val (.int p1), .val (.int p2), .val (.int p3), .val (.int p4), .val (.int p5), .val (.int c0), .val (.int c1), .val (.int d0), .val (.int d1), .val (.int md), .val (.ref ta), .val (.ref tb), .val (.int tx), .val (.ref b22), .val (.ref b29), .val (.int (7 : Int32)), .val (.int (1 : Int32)), .unset, .unset, .unset, .unset] [(.int (1 : Int32))]) _ _ _
        refine Ends.go (fun _ k => XS.ifNo X35.here hx rfl (hb hby at_331) rfl ((if0 _ _).trans (feq (by decide : ¬ ((1 : Int32) = (0 : Int32)))).1) k) ?_
        show Ends p e below s T35 (mkF m 334 #[.val (.int p0), .val (.int p1), .val (.int p2), .val (.int p3), .val (.int p4), .val (.int p5), .val (.int c0), .val (.int c1), .val (.int d0), .val (.int d1), .val (.int md), .val (.ref ta), .val (.ref tb), .val (.int tx), .val (.ref b22), .val (.ref b29), .val (.int (7 : Int32)), .val (.int (1 : Int32)), .unset, .unset, .unset, .unset] []) _ _ _
        refine Ends.go (fun _ k => XS.iconst X35.here hx rfl (hb hby at_334) k) ?_
        show Ends p e below s T35 (mkF m 335 #[.val (.int p0), .val (.int p1), .val (.int p2), .val (.int p3), .val (.int p4), .val (.int p5), .val (.int c0), .val (.int c1), .val (.int d0), .val (.int d1), .val (.int md), .val (.ref ta), .val (.ref tb), .val (.int tx), .val (.ref b22), .val (.ref b29), .val (.int (7 : Int32)), .val (.int (1 : Int32)), .unset, .unset, .unset, .unset] [(.int (1 : Int32))]) _ _ _
        refine Ends.go (fun _ k => XS.goto X35.here hx rfl (pc0 := 335) (pc' := 339) rfl (hb hby at_335) (by decide) (by decide) k) ?_
        show Ends p e below s T35 (mkF m 339 #[.val (.int p0), .val (.int p1), .val (.int p2), .val (.int p3), .val (.int p4), .val (.int p5), .val (.int c0), .val (.int c1), .val (.int d0), .val (.int d1), .val (.int md), .val (.ref ta), .val (.ref tb), .val (.int tx), .val (.ref b22), .val (.ref b29), .val (.int (7 : Int32)), .val (.int (1 : Int32)), .unset, .unset, .unset, .unset] [(.int (1 : Int32))]) _ _ _
        refine Ends.go (fun _ k => XS.istore X35.here hx rfl (hb hby at_339) rfl (l' := #[.val (.int p0), .val (.int p1), .val (.int p2), .val (.int p3), .val (.int p4), .val (.int p5), .val (.int c0), .val (.int c1), .val (.int d0), .val (.int d1), .val (.int md), .val (.ref ta), .val (.ref tb), .val (.int tx), .val (.ref b22), .val (.ref b29), .val (.int (7 : Int32)), .val (.int (1 : Int32)), .val (.int (1 : Int32)), .unset, .unset, .unset]) rfl k) ?_
        show Ends p e below s T35 (mkF m 341 #[.val (.int p0), .val (.int p1), .val (.int p2), .val (.int p3), .val (.int p4), .val (.int p5), .val (.int c0), .val (.int c1), .val (.int d0), .val (.int d1), .val (.int md), .val (.ref ta), .val (.ref tb), .val (.int tx), .val (.ref b22), .val (.ref b29), .val (.int (7 : Int32)), .val (.int (1 : Int32)), .val (.int (1 : Int32)), .unset, .unset, .unset] []) _ _ _
        exact J341 _ _ _ _ _ _ _ _ _ _ p2 p3 (p2 ^^^ (-1 : Int32)) (p3 ^^^ (-1 : Int32)) (p2 ^^^ p3) (p2 - p3) X35 e35 O35 N35 K35 ⟨((((((((((((((Ea.ext E22).wr W23).wr W24).wr W25).wr W26).wr W27).wr W28).ext E29).wr W30).wr W31).wr W32).wr W33).wr W34).wr W35), ((((((((((((((Va.ext E22).other W23 (Or.inl ne_ta_b22)).other W24 (Or.inl ne_ta_b22)).other W25 (Or.inl ne_ta_b22)).other W26 (Or.inl ne_ta_b22)).other W27 (Or.inl ne_ta_b22)).other W28 (Or.inl ne_ta_b22)).ext E29).other W30 (Or.inl ne_ta_b29)).other W31 (Or.inl ne_ta_b29)).other W32 (Or.inl ne_ta_b29)).other W33 (Or.inl ne_ta_b29)).other W34 (Or.inl ne_ta_b29)).other W35 (Or.inl ne_ta_b29)), ((((((((((((((Ca.ext E22).other W23 (Or.inl ne_ta_b22)).other W24 (Or.inl ne_ta_b22)).other W25 (Or.inl ne_ta_b22)).other W26 (Or.inl ne_ta_b22)).other W27 (Or.inl ne_ta_b22)).other W28 (Or.inl ne_ta_b22)).ext E29).other W30 (Or.inl ne_ta_b29)).other W31 (Or.inl ne_ta_b29)).other W32 (Or.inl ne_ta_b29)).other W33 (Or.inl ne_ta_b29)).other W34 (Or.inl ne_ta_b29)).other W35 (Or.inl ne_ta_b29)), ((((((((((((((Aa.ext E22).other W23 ne_t1_b22).other W24 ne_t1_b22).other W25 ne_t1_b22).other W26 ne_t1_b22).other W27 ne_t1_b22).other W28 ne_t1_b22).ext E29).other W30 ne_t1_b29).other W31 ne_t1_b29).other W32 ne_t1_b29).other W33 ne_t1_b29).other W34 ne_t1_b29).other W35 ne_t1_b29), SA.2.2.2.2⟩ ⟨((((((((((((((Eb.ext E22).wr W23).wr W24).wr W25).wr W26).wr W27).wr W28).ext E29).wr W30).wr W31).wr W32).wr W33).wr W34).wr W35), ((((((((((((((Vb.ext E22).other W23 (Or.inl ne_tb_b22)).other W24 (Or.inl ne_tb_b22)).other W25 (Or.inl ne_tb_b22)).other W26 (Or.inl ne_tb_b22)).other W27 (Or.inl ne_tb_b22)).other W28 (Or.inl ne_tb_b22)).ext E29).other W30 (Or.inl ne_tb_b29)).other W31 (Or.inl ne_tb_b29)).other W32 (Or.inl ne_tb_b29)).other W33 (Or.inl ne_tb_b29)).other W34 (Or.inl ne_tb_b29)).other W35 (Or.inl ne_tb_b29)), ((((((((((((((Cb.ext E22).other W23 (Or.inl ne_tb_b22)).other W24 (Or.inl ne_tb_b22)).other W25 (Or.inl ne_tb_b22)).other W26 (Or.inl ne_tb_b22)).other W27 (Or.inl ne_tb_b22)).other W28 (Or.inl ne_tb_b22)).ext E29).other W30 (Or.inl ne_tb_b29)).other W31 (Or.inl ne_tb_b29)).other W32 (Or.inl ne_tb_b29)).other W33 (Or.inl ne_tb_b29)).other W34 (Or.inl ne_tb_b29)).other W35 (Or.inl ne_tb_b29)), ((((((((((((((Ab.ext E22).other W23 ne_t2_b22).other W24 ne_t2_b22).other W25 ne_t2_b22).other W26 ne_t2_b22).other W27 ne_t2_b22).other W28 ne_t2_b22).ext E29).other W30 ne_t2_b29).other W31 ne_t2_b29).other W32 ne_t2_b29).other W33 ne_t2_b29).other W34 ne_t2_b29).other W35 ne_t2_b29), SB.2.2.2.2⟩ (((((((V28.ext E29).other W30 ne_b22_b29).other W31 ne_b22_b29).other W32 ne_b22_b29).other W33 ne_b22_b29).other W34 ne_b22_b29).other W35 ne_b22_b29) V35 (Or.inl ⟨rfl, own_tx1 htx hc326_68, rfl, rfl, rfl, rfl, rfl, rfl⟩)
  generalize hi69 : (p4 &&& (3 : Int32)) = i69
  rcases own_and3 p4 i69 hi69 with rfl | rfl | rfl | rfl
  · show Ends p e below s s₁ (mkF m 42 #[.val (.int p0), .val (.int p1), .val (.int p2), .val (.int p3), .val (.int p4), .val (.int p5), .val (.int c0), .val (.int c1), .val (.int d0), .val (.int d1), .unset, .unset, .unset, .unset, .unset, .unset, .unset, .unset, .unset, .unset, .unset, .unset] [(.int (0 : Int32))]) _ _ _
    refine Ends.go (fun _ k => XS.istore X0.here hx rfl (hb hby at_42) rfl (l' := #[.val (.int p0), .val (.int p1), .val (.int p2), .val (.int p3), .val (.int p4), .val (.int p5), .val (.int c0), .val (.int c1), .val (.int d0), .val (.int d1), .val (.int (0 : Int32)), .unset, .unset, .unset, .unset, .unset, .unset, .unset, .unset, .unset, .unset, .unset]) rfl k) ?_
    show Ends p e below s s₁ (mkF m 44 #[.val (.int p0), .val (.int p1), .val (.int p2), .val (.int p3), .val (.int p4), .val (.int p5), .val (.int c0), .val (.int c1), .val (.int d0), .val (.int d1), .val (.int (0 : Int32)), .unset, .unset, .unset, .unset, .unset, .unset, .unset, .unset, .unset, .unset, .unset] []) _ _ _
    obtain ⟨T70, h70, X70, e70, E70, A70, D70, -, st70⟩ := newO X0 hx hZ hown (hw _ (List.mem_of_getElem? (i := 0) rfl)) (hw _ (List.mem_of_getElem? (i := 1) rfl)) (hw _ (List.mem_of_getElem? (i := 2) rfl)) e0 (g := (mkF m 44 #[.val (.int p0), .val (.int p1), .val (.int p2), .val (.int p3), .val (.int p4), .val (.int p5), .val (.int c0), .val (.int c1), .val (.int d0), .val (.int d1), .val (.int (0 : Int32)), .unset, .unset, .unset, .unset, .unset, .unset, .unset, .unset, .unset, .unset, .unset] [])) rfl (hb hby at_44) (by decide) (by decide)
    obtain ⟨b70, g70⟩ : ∃ z, z = h0.size := ⟨_, rfl⟩
    rw [← g70] at A70 D70 st70
    refine Ends.go st70 ?_
    have g_b70 : n0 ≤ b70 := Nat.le_trans (own_old_le O0) (Nat.le_of_eq g70.symm)
    have sz_b70 : h0.size ≤ b70 := Nat.le_trans K0.1 (Nat.le_of_eq g70.symm)
    have K70 := K0.ext E70
    have O70 := O0.ext E70
    have F_coder_b70 : Fld Z h70 b70 "java/lang/String" "coder" "B" (.int (0 : Int32)) := D70 (Or.inr (hw _ (List.mem_of_getElem? (i := 27) rfl))) (ty := .byte) (by decide)
    have F_value_b70 : Fld Z h70 b70 "java/lang/String" "value" "[B" .null := D70 (Or.inr (hw _ (List.mem_of_getElem? (i := 29) rfl))) (ty := (.array .byte)) (by decide)
    show Ends p e below s T70 (mkF m 47 #[.val (.int p0), .val (.int p1), .val (.int p2), .val (.int p3), .val (.int p4), .val (.int p5), .val (.int c0), .val (.int c1), .val (.int d0), .val (.int d1), .val (.int (0 : Int32)), .unset, .unset, .unset, .unset, .unset, .unset, .unset, .unset, .unset, .unset, .unset] [(.ref b70)]) _ _ _
    refine Ends.go (fun _ k => XS.dup X70.here hx rfl (hb hby at_47) rfl rfl k) ?_
    show Ends p e below s T70 (mkF m 48 #[.val (.int p0), .val (.int p1), .val (.int p2), .val (.int p3), .val (.int p4), .val (.int p5), .val (.int c0), .val (.int c1), .val (.int d0), .val (.int d1), .val (.int (0 : Int32)), .unset, .unset, .unset, .unset, .unset, .unset, .unset, .unset, .unset, .unset, .unset] [(.ref b70), (.ref b70)]) _ _ _
    refine Ends.go (fun _ k => XS.iconst X70.here hx rfl (hb hby at_48) k) ?_
    show Ends p e below s T70 (mkF m 49 #[.val (.int p0), .val (.int p1), .val (.int p2), .val (.int p3), .val (.int p4), .val (.int p5), .val (.int c0), .val (.int c1), .val (.int d0), .val (.int d1), .val (.int (0 : Int32)), .unset, .unset, .unset, .unset, .unset, .unset, .unset, .unset, .unset, .unset, .unset] [(.int (2 : Int32)), (.ref b70), (.ref b70)]) _ _ _
    obtain ⟨T71, h71, k71, X71, e71, E71, A71, st71⟩ := newP X70 hx hZ (hw _ (List.mem_of_getElem? (i := 3) rfl)) e70 (g := (mkF m 49 #[.val (.int p0), .val (.int p1), .val (.int p2), .val (.int p3), .val (.int p4), .val (.int p5), .val (.int c0), .val (.int c1), .val (.int d0), .val (.int d1), .val (.int (0 : Int32)), .unset, .unset, .unset, .unset, .unset, .unset, .unset, .unset, .unset, .unset, .unset] [(.int (2 : Int32)), (.ref b70), (.ref b70)])) rfl (hb hby at_49) rfl (by decide) (cap := 2) (by decide) (by decide) (by decide) (by decide)
    obtain ⟨b71, g71⟩ : ∃ z, z = h70.size := ⟨_, rfl⟩
    rw [← g71] at A71 st71
    refine Ends.go st71 ?_
    have ne_b70_b71 : b70 ≠ b71 := Nat.ne_of_lt (Nat.lt_of_lt_of_le A70.lt (Nat.le_of_eq g71.symm))
    have g_b71 : n0 ≤ b71 := Nat.le_trans (own_old_le O70) (Nat.le_of_eq g71.symm)
    have sz_b71 : h0.size ≤ b71 := Nat.le_trans K70.1 (Nat.le_of_eq g71.symm)
    have K71 := K70.ext E71
    have O71 := O70.ext E71
    have V_b71 : Arv Z h71 b71 k71 .char (2 : Int32) [(.int (0 : Int32)), (.int (0 : Int32))] (.int (0 : Int32)) := (Arv.new A71 (by decide)).pad (pad_rep [] (.int (0 : Int32)) 2)
    show Ends p e below s T71 (mkF m 51 #[.val (.int p0), .val (.int p1), .val (.int p2), .val (.int p3), .val (.int p4), .val (.int p5), .val (.int c0), .val (.int c1), .val (.int d0), .val (.int d1), .val (.int (0 : Int32)), .unset, .unset, .unset, .unset, .unset, .unset, .unset, .unset, .unset, .unset, .unset] [(.ref b71), (.ref b70), (.ref b70)]) _ _ _
    refine Ends.go (fun _ k => XS.dup X71.here hx rfl (hb hby at_51) rfl rfl k) ?_
    show Ends p e below s T71 (mkF m 52 #[.val (.int p0), .val (.int p1), .val (.int p2), .val (.int p3), .val (.int p4), .val (.int p5), .val (.int c0), .val (.int c1), .val (.int d0), .val (.int d1), .val (.int (0 : Int32)), .unset, .unset, .unset, .unset, .unset, .unset, .unset, .unset, .unset, .unset, .unset] [(.ref b71), (.ref b71), (.ref b70), (.ref b70)]) _ _ _
    refine Ends.go (fun _ k => XS.iconst X71.here hx rfl (hb hby at_52) k) ?_
    show Ends p e below s T71 (mkF m 53 #[.val (.int p0), .val (.int p1), .val (.int p2), .val (.int p3), .val (.int p4), .val (.int p5), .val (.int c0), .val (.int c1), .val (.int d0), .val (.int d1), .val (.int (0 : Int32)), .unset, .unset, .unset, .unset, .unset, .unset, .unset, .unset, .unset, .unset, .unset] [(.int (0 : Int32)), (.ref b71), (.ref b71), (.ref b70), (.ref b70)]) _ _ _
    refine Ends.go (fun _ k => XS.iload X71.here hx rfl (hb hby at_53) rfl k) ?_
    show Ends p e below s T71 (mkF m 55 #[.val (.int p0), .val (.int p1), .val (.int p2), .val (.int p3), .val (.int p4), .val (.int p5), .val (.int c0), .val (.int c1), .val (.int d0), .val (.int d1), .val (.int (0 : Int32)), .unset, .unset, .unset, .unset, .unset, .unset, .unset, .unset, .unset, .unset, .unset] [(.int c0), (.int (0 : Int32)), (.ref b71), (.ref b71), (.ref b70), (.ref b70)]) _ _ _
    obtain ⟨cl72, Ar72, q72, S72, M72, H72, G72⟩ := id V_b71
    have hin72 := inb_of (j := (0 : Int32)) S72 ⟨by decide, by decide⟩
    obtain ⟨T72, h72, X72, e72, W72, st72⟩ := stC X71 hx hZ e71 Ar72 (j := (0 : Int32)) hin72 (g := (mkF m 55 #[.val (.int p0), .val (.int p1), .val (.int p2), .val (.int p3), .val (.int p4), .val (.int p5), .val (.int c0), .val (.int c1), .val (.int d0), .val (.int d1), .val (.int (0 : Int32)), .unset, .unset, .unset, .unset, .unset, .unset, .unset, .unset, .unset, .unset, .unset] [(.int c0), (.int (0 : Int32)), (.ref b71), (.ref b71), (.ref b70), (.ref b70)])) rfl rfl (hb hby at_55)
    refine Ends.go st72 ?_
    have V72 : Arv Z h72 b71 k71 .char (2 : Int32) [(.int (nar .char c0)), (.int (0 : Int32))] (.int (0 : Int32)) := Arv.set Ar72 q72 S72 M72 H72 G72 (fits_nar_char _) W72 0 rfl (Nat.le_of_ble_eq_true rfl)
    rw [own_narc hc0] at V72
    have K72 := K71.wr W72 (Or.inr sz_b71)
    have O72 := O71.wr W72 g_b71
    have N72 := Fr.snoc X72 N0 g_b71
    show Ends p e below s T72 (mkF m 56 #[.val (.int p0), .val (.int p1), .val (.int p2), .val (.int p3), .val (.int p4), .val (.int p5), .val (.int c0), .val (.int c1), .val (.int d0), .val (.int d1), .val (.int (0 : Int32)), .unset, .unset, .unset, .unset, .unset, .unset, .unset, .unset, .unset, .unset, .unset] [(.ref b71), (.ref b70), (.ref b70)]) _ _ _
    refine Ends.go (fun _ k => XS.dup X72.here hx rfl (hb hby at_56) rfl rfl k) ?_
    show Ends p e below s T72 (mkF m 57 #[.val (.int p0), .val (.int p1), .val (.int p2), .val (.int p3), .val (.int p4), .val (.int p5), .val (.int c0), .val (.int c1), .val (.int d0), .val (.int d1), .val (.int (0 : Int32)), .unset, .unset, .unset, .unset, .unset, .unset, .unset, .unset, .unset, .unset, .unset] [(.ref b71), (.ref b71), (.ref b70), (.ref b70)]) _ _ _
    refine Ends.go (fun _ k => XS.iconst X72.here hx rfl (hb hby at_57) k) ?_
    show Ends p e below s T72 (mkF m 58 #[.val (.int p0), .val (.int p1), .val (.int p2), .val (.int p3), .val (.int p4), .val (.int p5), .val (.int c0), .val (.int c1), .val (.int d0), .val (.int d1), .val (.int (0 : Int32)), .unset, .unset, .unset, .unset, .unset, .unset, .unset, .unset, .unset, .unset, .unset] [(.int (1 : Int32)), (.ref b71), (.ref b71), (.ref b70), (.ref b70)]) _ _ _
    refine Ends.go (fun _ k => XS.iload X72.here hx rfl (hb hby at_58) rfl k) ?_
    show Ends p e below s T72 (mkF m 60 #[.val (.int p0), .val (.int p1), .val (.int p2), .val (.int p3), .val (.int p4), .val (.int p5), .val (.int c0), .val (.int c1), .val (.int d0), .val (.int d1), .val (.int (0 : Int32)), .unset, .unset, .unset, .unset, .unset, .unset, .unset, .unset, .unset, .unset, .unset] [(.int c1), (.int (1 : Int32)), (.ref b71), (.ref b71), (.ref b70), (.ref b70)]) _ _ _
    obtain ⟨cl73, Ar73, q73, S73, M73, H73, G73⟩ := id V72
    have hin73 := inb_of (j := (1 : Int32)) S73 ⟨by decide, by decide⟩
    obtain ⟨T73, h73, X73, e73, W73, st73⟩ := stC X72 hx hZ e72 Ar73 (j := (1 : Int32)) hin73 (g := (mkF m 60 #[.val (.int p0), .val (.int p1), .val (.int p2), .val (.int p3), .val (.int p4), .val (.int p5), .val (.int c0), .val (.int c1), .val (.int d0), .val (.int d1), .val (.int (0 : Int32)), .unset, .unset, .unset, .unset, .unset, .unset, .unset, .unset, .unset, .unset, .unset] [(.int c1), (.int (1 : Int32)), (.ref b71), (.ref b71), (.ref b70), (.ref b70)])) rfl rfl (hb hby at_60)
    refine Ends.go st73 ?_
    have V73 : Arv Z h73 b71 k71 .char (2 : Int32) [(.int c0), (.int (nar .char c1))] (.int (0 : Int32)) := Arv.set Ar73 q73 S73 M73 H73 G73 (fits_nar_char _) W73 1 rfl (Nat.le_of_ble_eq_true rfl)
    rw [own_narc hc1] at V73
    have K73 := K72.wr W73 (Or.inr sz_b71)
    have O73 := O72.wr W73 g_b71
    have N73 := Fr.snoc X73 N72 g_b71
    show Ends p e below s T73 (mkF m 61 #[.val (.int p0), .val (.int p1), .val (.int p2), .val (.int p3), .val (.int p4), .val (.int p5), .val (.int c0), .val (.int c1), .val (.int d0), .val (.int d1), .val (.int (0 : Int32)), .unset, .unset, .unset, .unset, .unset, .unset, .unset, .unset, .unset, .unset, .unset] [(.ref b71), (.ref b70), (.ref b70)]) _ _ _
    have hp74 : ∀ c ∈ ([c0, c1] : List Int32), ¬ c < 0 ∧ ¬ (255 : Int32) < c := by
      intro c hc
      simp only [List.mem_cons, List.not_mem_nil, or_false] at hc
      rcases hc with rfl | rfl
      · exact hc0
      · exact hc1
    obtain ⟨_, _, ⟨T74, L74, k74, n74⟩, -, X74, ⟨Lc74, hQ74, l74, y74, z74⟩, st74⟩ := X73.specialBack hx (y := (⟨"java/lang/String", "<init>", "([C)V"⟩ : MethodName)) rfl hown (mvT hZ (hw _ (List.mem_of_getElem? (i := 4) rfl))) (mvT hZ (hw _ (List.mem_of_getElem? (i := 5) rfl))) (mvT hZ (hw _ (List.mem_of_getElem? (i := 6) rfl))) (by decide) (StrChars.Road.backV (W := 1) hZ hws (kI := 4) (hw _ (List.mem_of_getElem? (i := 1) rfl)) (cs := ([c0, c1] : List Int32)) (bs := ([c0, c1] : List Int32).map (fun c => c.toInt8.toInt32)) (n := 2) g_b70 (own_old_le O73) (((A70.ext E71).wr W72).wr W73) (((F_value_b70.ext E71).other W72 (Or.inl ne_b70_b71)).other W73 (Or.inl ne_b70_b71)) (((F_coder_b70.ext E71).other W72 (Or.inl ne_b70_b71)).other W73 (Or.inl ne_b70_b71)) V73 (SCS.ext O73.2) P5 rfl rfl (by decide) (by decide) hp74 rfl (by decide) (by decide)) (g := (mkF m 61 #[.val (.int p0), .val (.int p1), .val (.int p2), .val (.int p3), .val (.int p4), .val (.int p5), .val (.int c0), .val (.int c1), .val (.int d0), .val (.int d1), .val (.int (0 : Int32)), .unset, .unset, .unset, .unset, .unset, .unset, .unset, .unset, .unset, .unset, .unset] [(.ref b71), (.ref b70), (.ref b70)])) rfl (by rw [hml]; rfl) (Steps.refl _) (a := b70) (argsL := [(.ref b71)]) (rest := [(.ref b70)]) (lenOf pd0_2 rfl) rfl (by show 2 * 0 + _ ≤ _; exact Nat.le_of_eq rfl) (hb hby at_61) (fun _ _ => ⟨rfl, e73, (by decide : 2 + 1 ≤ _), (by decide : 6 + 2 ≤ _)⟩)
    dsimp only [Pt.U, Pt.locs, Pt.cells, Pt.slots] at X74 l74 y74 z74 st74 hQ74
    subst l74 y74 z74
    obtain ⟨rfl, N74q, K74c, Eq74, Cq74, t74, kb74, -, ht74, ht74', Vq74, Aq74⟩ := hQ74
    have N74 := Fr.app N73 N74q
    refine Ends.go (fun _ k => st74.trans k) ?_
    have ne_b70_t74 : b70 ≠ t74 := Nat.ne_of_lt (Nat.lt_of_lt_of_le (((A70.ext E71).wr W72).wr W73).lt ht74)
    have ne_b71_t74 : b71 ≠ t74 := Nat.ne_of_lt (Nat.lt_of_lt_of_le V73.lt ht74)
    have g_t74 : n0 ≤ t74 := Nat.le_trans (own_old_le O73) ht74
    have sz_t74 : h0.size ≤ t74 := Nat.le_trans K73.1 ht74
    obtain ⟨h74, e74⟩ : ∃ z, T74.heap = z := ⟨_, rfl⟩
    rw [e74] at K74c Eq74 Cq74 Vq74 Aq74
    have K74 := K73.trans K74c (allS (Or.inr sz_b70) all0)
    have O74 := O73.keep K74c (allS g_b70 all0)
    show Ends p e below s T74 (mkF m 64 #[.val (.int p0), .val (.int p1), .val (.int p2), .val (.int p3), .val (.int p4), .val (.int p5), .val (.int c0), .val (.int c1), .val (.int d0), .val (.int d1), .val (.int (0 : Int32)), .unset, .unset, .unset, .unset, .unset, .unset, .unset, .unset, .unset, .unset, .unset] [(.ref b70)]) _ _ _
    refine Ends.go (fun _ k => XS.astore X74.here hx rfl (hb hby at_64) rfl rfl (l' := #[.val (.int p0), .val (.int p1), .val (.int p2), .val (.int p3), .val (.int p4), .val (.int p5), .val (.int c0), .val (.int c1), .val (.int d0), .val (.int d1), .val (.int (0 : Int32)), .val (.ref b70), .unset, .unset, .unset, .unset, .unset, .unset, .unset, .unset, .unset, .unset]) rfl k) ?_
    show Ends p e below s T74 (mkF m 66 #[.val (.int p0), .val (.int p1), .val (.int p2), .val (.int p3), .val (.int p4), .val (.int p5), .val (.int c0), .val (.int c1), .val (.int d0), .val (.int d1), .val (.int (0 : Int32)), .val (.ref b70), .unset, .unset, .unset, .unset, .unset, .unset, .unset, .unset, .unset, .unset] []) _ _ _
    refine Ends.go (fun _ k => XS.iload X74.here hx rfl (hb hby at_66) rfl k) ?_
    show Ends p e below s T74 (mkF m 68 #[.val (.int p0), .val (.int p1), .val (.int p2), .val (.int p3), .val (.int p4), .val (.int p5), .val (.int c0), .val (.int c1), .val (.int d0), .val (.int d1), .val (.int (0 : Int32)), .val (.ref b70), .unset, .unset, .unset, .unset, .unset, .unset, .unset, .unset, .unset, .unset] [(.int (0 : Int32))]) _ _ _
    refine Ends.go (fun _ k => XS.ifNo X74.here hx rfl (hb hby at_68) rfl ((if0 _ _).trans (teq (by decide : (0 : Int32) = (0 : Int32))).2) k) ?_
    show Ends p e below s T74 (mkF m 71 #[.val (.int p0), .val (.int p1), .val (.int p2), .val (.int p3), .val (.int p4), .val (.int p5), .val (.int c0), .val (.int c1), .val (.int d0), .val (.int d1), .val (.int (0 : Int32)), .val (.ref b70), .unset, .unset, .unset, .unset, .unset, .unset, .unset, .unset, .unset, .unset] []) _ _ _
    obtain ⟨T75, h75, X75, e75, E75, A75, D75, -, st75⟩ := newO X74 hx hZ hown (hw _ (List.mem_of_getElem? (i := 0) rfl)) (hw _ (List.mem_of_getElem? (i := 1) rfl)) (hw _ (List.mem_of_getElem? (i := 2) rfl)) e74 (g := (mkF m 71 #[.val (.int p0), .val (.int p1), .val (.int p2), .val (.int p3), .val (.int p4), .val (.int p5), .val (.int c0), .val (.int c1), .val (.int d0), .val (.int d1), .val (.int (0 : Int32)), .val (.ref b70), .unset, .unset, .unset, .unset, .unset, .unset, .unset, .unset, .unset, .unset] [])) rfl (hb hby at_71) (by decide) (by decide)
    obtain ⟨b75, g75⟩ : ∃ z, z = h74.size := ⟨_, rfl⟩
    rw [← g75] at A75 D75 st75
    refine Ends.go st75 ?_
    have ne_b70_b75 : b70 ≠ b75 := Nat.ne_of_lt (Nat.lt_of_lt_of_le Eq74.lt (Nat.le_of_eq g75.symm))
    have ne_b71_b75 : b71 ≠ b75 := Nat.ne_of_lt (Nat.lt_of_lt_of_le (V73.keep K74c (ninS (Ne.symm ne_b70_b71) nin0)).lt (Nat.le_of_eq g75.symm))
    have ne_t74_b75 : t74 ≠ b75 := Nat.ne_of_lt (Nat.lt_of_lt_of_le Aq74.lt (Nat.le_of_eq g75.symm))
    have g_b75 : n0 ≤ b75 := Nat.le_trans (own_old_le O74) (Nat.le_of_eq g75.symm)
    have sz_b75 : h0.size ≤ b75 := Nat.le_trans K74.1 (Nat.le_of_eq g75.symm)
    have K75 := K74.ext E75
    have O75 := O74.ext E75
    have F_coder_b75 : Fld Z h75 b75 "java/lang/String" "coder" "B" (.int (0 : Int32)) := D75 (Or.inr (hw _ (List.mem_of_getElem? (i := 27) rfl))) (ty := .byte) (by decide)
    have F_value_b75 : Fld Z h75 b75 "java/lang/String" "value" "[B" .null := D75 (Or.inr (hw _ (List.mem_of_getElem? (i := 29) rfl))) (ty := (.array .byte)) (by decide)
    show Ends p e below s T75 (mkF m 74 #[.val (.int p0), .val (.int p1), .val (.int p2), .val (.int p3), .val (.int p4), .val (.int p5), .val (.int c0), .val (.int c1), .val (.int d0), .val (.int d1), .val (.int (0 : Int32)), .val (.ref b70), .unset, .unset, .unset, .unset, .unset, .unset, .unset, .unset, .unset, .unset] [(.ref b75)]) _ _ _
    refine Ends.go (fun _ k => XS.dup X75.here hx rfl (hb hby at_74) rfl rfl k) ?_
    show Ends p e below s T75 (mkF m 75 #[.val (.int p0), .val (.int p1), .val (.int p2), .val (.int p3), .val (.int p4), .val (.int p5), .val (.int c0), .val (.int c1), .val (.int d0), .val (.int d1), .val (.int (0 : Int32)), .val (.ref b70), .unset, .unset, .unset, .unset, .unset, .unset, .unset, .unset, .unset, .unset] [(.ref b75), (.ref b75)]) _ _ _
    refine Ends.go (fun _ k => XS.iconst X75.here hx rfl (hb hby at_75) k) ?_
    show Ends p e below s T75 (mkF m 76 #[.val (.int p0), .val (.int p1), .val (.int p2), .val (.int p3), .val (.int p4), .val (.int p5), .val (.int c0), .val (.int c1), .val (.int d0), .val (.int d1), .val (.int (0 : Int32)), .val (.ref b70), .unset, .unset, .unset, .unset, .unset, .unset, .unset, .unset, .unset, .unset] [(.int (2 : Int32)), (.ref b75), (.ref b75)]) _ _ _
    obtain ⟨T76, h76, k76, X76, e76, E76, A76, st76⟩ := newP X75 hx hZ (hw _ (List.mem_of_getElem? (i := 3) rfl)) e75 (g := (mkF m 76 #[.val (.int p0), .val (.int p1), .val (.int p2), .val (.int p3), .val (.int p4), .val (.int p5), .val (.int c0), .val (.int c1), .val (.int d0), .val (.int d1), .val (.int (0 : Int32)), .val (.ref b70), .unset, .unset, .unset, .unset, .unset, .unset, .unset, .unset, .unset, .unset] [(.int (2 : Int32)), (.ref b75), (.ref b75)])) rfl (hb hby at_76) rfl (by decide) (cap := 2) (by decide) (by decide) (by decide) (by decide)
    obtain ⟨b76, g76⟩ : ∃ z, z = h75.size := ⟨_, rfl⟩
    rw [← g76] at A76 st76
    refine Ends.go st76 ?_
    have ne_b70_b76 : b70 ≠ b76 := Nat.ne_of_lt (Nat.lt_of_lt_of_le (Eq74.ext E75).lt (Nat.le_of_eq g76.symm))
    have ne_b71_b76 : b71 ≠ b76 := Nat.ne_of_lt (Nat.lt_of_lt_of_le ((V73.keep K74c (ninS (Ne.symm ne_b70_b71) nin0)).ext E75).lt (Nat.le_of_eq g76.symm))
    have ne_t74_b76 : t74 ≠ b76 := Nat.ne_of_lt (Nat.lt_of_lt_of_le (Aq74.ext E75).lt (Nat.le_of_eq g76.symm))
    have ne_b75_b76 : b75 ≠ b76 := Nat.ne_of_lt (Nat.lt_of_lt_of_le A75.lt (Nat.le_of_eq g76.symm))
    have g_b76 : n0 ≤ b76 := Nat.le_trans (own_old_le O75) (Nat.le_of_eq g76.symm)
    have sz_b76 : h0.size ≤ b76 := Nat.le_trans K75.1 (Nat.le_of_eq g76.symm)
    have K76 := K75.ext E76
    have O76 := O75.ext E76
    have V_b76 : Arv Z h76 b76 k76 .char (2 : Int32) [(.int (0 : Int32)), (.int (0 : Int32))] (.int (0 : Int32)) := (Arv.new A76 (by decide)).pad (pad_rep [] (.int (0 : Int32)) 2)
    show Ends p e below s T76 (mkF m 78 #[.val (.int p0), .val (.int p1), .val (.int p2), .val (.int p3), .val (.int p4), .val (.int p5), .val (.int c0), .val (.int c1), .val (.int d0), .val (.int d1), .val (.int (0 : Int32)), .val (.ref b70), .unset, .unset, .unset, .unset, .unset, .unset, .unset, .unset, .unset, .unset] [(.ref b76), (.ref b75), (.ref b75)]) _ _ _
    refine Ends.go (fun _ k => XS.dup X76.here hx rfl (hb hby at_78) rfl rfl k) ?_
    show Ends p e below s T76 (mkF m 79 #[.val (.int p0), .val (.int p1), .val (.int p2), .val (.int p3), .val (.int p4), .val (.int p5), .val (.int c0), .val (.int c1), .val (.int d0), .val (.int d1), .val (.int (0 : Int32)), .val (.ref b70), .unset, .unset, .unset, .unset, .unset, .unset, .unset, .unset, .unset, .unset] [(.ref b76), (.ref b76), (.ref b75), (.ref b75)]) _ _ _
    refine Ends.go (fun _ k => XS.iconst X76.here hx rfl (hb hby at_79) k) ?_
    show Ends p e below s T76 (mkF m 80 #[.val (.int p0), .val (.int p1), .val (.int p2), .val (.int p3), .val (.int p4), .val (.int p5), .val (.int c0), .val (.int c1), .val (.int d0), .val (.int d1), .val (.int (0 : Int32)), .val (.ref b70), .unset, .unset, .unset, .unset, .unset, .unset, .unset, .unset, .unset, .unset] [(.int (0 : Int32)), (.ref b76), (.ref b76), (.ref b75), (.ref b75)]) _ _ _
    refine Ends.go (fun _ k => XS.iload X76.here hx rfl (hb hby at_80) rfl k) ?_
    show Ends p e below s T76 (mkF m 82 #[.val (.int p0), .val (.int p1), .val (.int p2), .val (.int p3), .val (.int p4), .val (.int p5), .val (.int c0), .val (.int c1), .val (.int d0), .val (.int d1), .val (.int (0 : Int32)), .val (.ref b70), .unset, .unset, .unset, .unset, .unset, .unset, .unset, .unset, .unset, .unset] [(.int c0), (.int (0 : Int32)), (.ref b76), (.ref b76), (.ref b75), (.ref b75)]) _ _ _
    obtain ⟨cl77, Ar77, q77, S77, M77, H77, G77⟩ := id V_b76
    have hin77 := inb_of (j := (0 : Int32)) S77 ⟨by decide, by decide⟩
    obtain ⟨T77, h77, X77, e77, W77, st77⟩ := stC X76 hx hZ e76 Ar77 (j := (0 : Int32)) hin77 (g := (mkF m 82 #[.val (.int p0), .val (.int p1), .val (.int p2), .val (.int p3), .val (.int p4), .val (.int p5), .val (.int c0), .val (.int c1), .val (.int d0), .val (.int d1), .val (.int (0 : Int32)), .val (.ref b70), .unset, .unset, .unset, .unset, .unset, .unset, .unset, .unset, .unset, .unset] [(.int c0), (.int (0 : Int32)), (.ref b76), (.ref b76), (.ref b75), (.ref b75)])) rfl rfl (hb hby at_82)
    refine Ends.go st77 ?_
    have V77 : Arv Z h77 b76 k76 .char (2 : Int32) [(.int (nar .char c0)), (.int (0 : Int32))] (.int (0 : Int32)) := Arv.set Ar77 q77 S77 M77 H77 G77 (fits_nar_char _) W77 0 rfl (Nat.le_of_ble_eq_true rfl)
    rw [own_narc hc0] at V77
    have K77 := K76.wr W77 (Or.inr sz_b76)
    have O77 := O76.wr W77 g_b76
    have N77 := Fr.snoc X77 N74 g_b76
    show Ends p e below s T77 (mkF m 83 #[.val (.int p0), .val (.int p1), .val (.int p2), .val (.int p3), .val (.int p4), .val (.int p5), .val (.int c0), .val (.int c1), .val (.int d0), .val (.int d1), .val (.int (0 : Int32)), .val (.ref b70), .unset, .unset, .unset, .unset, .unset, .unset, .unset, .unset, .unset, .unset] [(.ref b76), (.ref b75), (.ref b75)]) _ _ _
    refine Ends.go (fun _ k => XS.dup X77.here hx rfl (hb hby at_83) rfl rfl k) ?_
    show Ends p e below s T77 (mkF m 84 #[.val (.int p0), .val (.int p1), .val (.int p2), .val (.int p3), .val (.int p4), .val (.int p5), .val (.int c0), .val (.int c1), .val (.int d0), .val (.int d1), .val (.int (0 : Int32)), .val (.ref b70), .unset, .unset, .unset, .unset, .unset, .unset, .unset, .unset, .unset, .unset] [(.ref b76), (.ref b76), (.ref b75), (.ref b75)]) _ _ _
    refine Ends.go (fun _ k => XS.iconst X77.here hx rfl (hb hby at_84) k) ?_
    show Ends p e below s T77 (mkF m 85 #[.val (.int p0), .val (.int p1), .val (.int p2), .val (.int p3), .val (.int p4), .val (.int p5), .val (.int c0), .val (.int c1), .val (.int d0), .val (.int d1), .val (.int (0 : Int32)), .val (.ref b70), .unset, .unset, .unset, .unset, .unset, .unset, .unset, .unset, .unset, .unset] [(.int (1 : Int32)), (.ref b76), (.ref b76), (.ref b75), (.ref b75)]) _ _ _
    refine Ends.go (fun _ k => XS.iload X77.here hx rfl (hb hby at_85) rfl k) ?_
    show Ends p e below s T77 (mkF m 87 #[.val (.int p0), .val (.int p1), .val (.int p2), .val (.int p3), .val (.int p4), .val (.int p5), .val (.int c0), .val (.int c1), .val (.int d0), .val (.int d1), .val (.int (0 : Int32)), .val (.ref b70), .unset, .unset, .unset, .unset, .unset, .unset, .unset, .unset, .unset, .unset] [(.int c1), (.int (1 : Int32)), (.ref b76), (.ref b76), (.ref b75), (.ref b75)]) _ _ _
    obtain ⟨cl78, Ar78, q78, S78, M78, H78, G78⟩ := id V77
    have hin78 := inb_of (j := (1 : Int32)) S78 ⟨by decide, by decide⟩
    obtain ⟨T78, h78, X78, e78, W78, st78⟩ := stC X77 hx hZ e77 Ar78 (j := (1 : Int32)) hin78 (g := (mkF m 87 #[.val (.int p0), .val (.int p1), .val (.int p2), .val (.int p3), .val (.int p4), .val (.int p5), .val (.int c0), .val (.int c1), .val (.int d0), .val (.int d1), .val (.int (0 : Int32)), .val (.ref b70), .unset, .unset, .unset, .unset, .unset, .unset, .unset, .unset, .unset, .unset] [(.int c1), (.int (1 : Int32)), (.ref b76), (.ref b76), (.ref b75), (.ref b75)])) rfl rfl (hb hby at_87)
    refine Ends.go st78 ?_
    have V78 : Arv Z h78 b76 k76 .char (2 : Int32) [(.int c0), (.int (nar .char c1))] (.int (0 : Int32)) := Arv.set Ar78 q78 S78 M78 H78 G78 (fits_nar_char _) W78 1 rfl (Nat.le_of_ble_eq_true rfl)
    rw [own_narc hc1] at V78
    have K78 := K77.wr W78 (Or.inr sz_b76)
    have O78 := O77.wr W78 g_b76
    have N78 := Fr.snoc X78 N77 g_b76
    show Ends p e below s T78 (mkF m 88 #[.val (.int p0), .val (.int p1), .val (.int p2), .val (.int p3), .val (.int p4), .val (.int p5), .val (.int c0), .val (.int c1), .val (.int d0), .val (.int d1), .val (.int (0 : Int32)), .val (.ref b70), .unset, .unset, .unset, .unset, .unset, .unset, .unset, .unset, .unset, .unset] [(.ref b76), (.ref b75), (.ref b75)]) _ _ _
    have hp79 : ∀ c ∈ ([c0, c1] : List Int32), ¬ c < 0 ∧ ¬ (255 : Int32) < c := by
      intro c hc
      simp only [List.mem_cons, List.not_mem_nil, or_false] at hc
      rcases hc with rfl | rfl
      · exact hc0
      · exact hc1
    obtain ⟨_, _, ⟨T79, L79, k79, n79⟩, -, X79, ⟨Lc79, hQ79, l79, y79, z79⟩, st79⟩ := X78.specialBack hx (y := (⟨"java/lang/String", "<init>", "([C)V"⟩ : MethodName)) rfl hown (mvT hZ (hw _ (List.mem_of_getElem? (i := 4) rfl))) (mvT hZ (hw _ (List.mem_of_getElem? (i := 5) rfl))) (mvT hZ (hw _ (List.mem_of_getElem? (i := 6) rfl))) (by decide) (StrChars.Road.backV (W := 1) hZ hws (kI := 4) (hw _ (List.mem_of_getElem? (i := 1) rfl)) (cs := ([c0, c1] : List Int32)) (bs := ([c0, c1] : List Int32).map (fun c => c.toInt8.toInt32)) (n := 2) g_b75 (own_old_le O78) (((A75.ext E76).wr W77).wr W78) (((F_value_b75.ext E76).other W77 (Or.inl ne_b75_b76)).other W78 (Or.inl ne_b75_b76)) (((F_coder_b75.ext E76).other W77 (Or.inl ne_b75_b76)).other W78 (Or.inl ne_b75_b76)) V78 (SCS.ext O78.2) P5 rfl rfl (by decide) (by decide) hp79 rfl (by decide) (by decide)) (g := (mkF m 88 #[.val (.int p0), .val (.int p1), .val (.int p2), .val (.int p3), .val (.int p4), .val (.int p5), .val (.int c0), .val (.int c1), .val (.int d0), .val (.int d1), .val (.int (0 : Int32)), .val (.ref b70), .unset, .unset, .unset, .unset, .unset, .unset, .unset, .unset, .unset, .unset] [(.ref b76), (.ref b75), (.ref b75)])) rfl (by rw [hml]; rfl) (Steps.refl _) (a := b75) (argsL := [(.ref b76)]) (rest := [(.ref b75)]) (lenOf pd0_2 rfl) rfl (by show 2 * 0 + _ ≤ _; exact Nat.le_of_eq rfl) (hb hby at_88) (fun _ _ => ⟨rfl, e78, (by decide : 5 + 1 ≤ _), (by decide : 14 + 2 ≤ _)⟩)
    dsimp only [Pt.U, Pt.locs, Pt.cells, Pt.slots] at X79 l79 y79 z79 st79 hQ79
    subst l79 y79 z79
    obtain ⟨rfl, N79q, K79c, Eq79, Cq79, t79, kb79, -, ht79, ht79', Vq79, Aq79⟩ := hQ79
    have N79 := Fr.app N78 N79q
    refine Ends.go (fun _ k => st79.trans k) ?_
    have ne_b70_t79 : b70 ≠ t79 := Nat.ne_of_lt (Nat.lt_of_lt_of_le ((((Eq74.ext E75).ext E76).wr W77).wr W78).lt ht79)
    have ne_b71_t79 : b71 ≠ t79 := Nat.ne_of_lt (Nat.lt_of_lt_of_le (((((V73.keep K74c (ninS (Ne.symm ne_b70_b71) nin0)).ext E75).ext E76).other W77 ne_b71_b76).other W78 ne_b71_b76).lt ht79)
    have ne_t74_t79 : t74 ≠ t79 := Nat.ne_of_lt (Nat.lt_of_lt_of_le ((((Aq74.ext E75).ext E76).other W77 ne_t74_b76).other W78 ne_t74_b76).lt ht79)
    have ne_b75_t79 : b75 ≠ t79 := Nat.ne_of_lt (Nat.lt_of_lt_of_le (((A75.ext E76).wr W77).wr W78).lt ht79)
    have ne_b76_t79 : b76 ≠ t79 := Nat.ne_of_lt (Nat.lt_of_lt_of_le V78.lt ht79)
    have g_t79 : n0 ≤ t79 := Nat.le_trans (own_old_le O78) ht79
    have sz_t79 : h0.size ≤ t79 := Nat.le_trans K78.1 ht79
    obtain ⟨h79, e79⟩ : ∃ z, T79.heap = z := ⟨_, rfl⟩
    rw [e79] at K79c Eq79 Cq79 Vq79 Aq79
    have K79 := K78.trans K79c (allS (Or.inr sz_b75) all0)
    have O79 := O78.keep K79c (allS g_b75 all0)
    show Ends p e below s T79 (mkF m 91 #[.val (.int p0), .val (.int p1), .val (.int p2), .val (.int p3), .val (.int p4), .val (.int p5), .val (.int c0), .val (.int c1), .val (.int d0), .val (.int d1), .val (.int (0 : Int32)), .val (.ref b70), .unset, .unset, .unset, .unset, .unset, .unset, .unset, .unset, .unset, .unset] [(.ref b75)]) _ _ _
    refine Ends.go (fun _ k => XS.astore X79.here hx rfl (hb hby at_91) rfl rfl (l' := #[.val (.int p0), .val (.int p1), .val (.int p2), .val (.int p3), .val (.int p4), .val (.int p5), .val (.int c0), .val (.int c1), .val (.int d0), .val (.int d1), .val (.int (0 : Int32)), .val (.ref b70), .val (.ref b75), .unset, .unset, .unset, .unset, .unset, .unset, .unset, .unset, .unset]) rfl k) ?_
    show Ends p e below s T79 (mkF m 93 #[.val (.int p0), .val (.int p1), .val (.int p2), .val (.int p3), .val (.int p4), .val (.int p5), .val (.int c0), .val (.int c1), .val (.int d0), .val (.int d1), .val (.int (0 : Int32)), .val (.ref b70), .val (.ref b75), .unset, .unset, .unset, .unset, .unset, .unset, .unset, .unset, .unset] []) _ _ _
    refine Ends.go (fun _ k => XS.iconst X79.here hx rfl (hb hby at_93) k) ?_
    show Ends p e below s T79 (mkF m 94 #[.val (.int p0), .val (.int p1), .val (.int p2), .val (.int p3), .val (.int p4), .val (.int p5), .val (.int c0), .val (.int c1), .val (.int d0), .val (.int d1), .val (.int (0 : Int32)), .val (.ref b70), .val (.ref b75), .unset, .unset, .unset, .unset, .unset, .unset, .unset, .unset, .unset] [(.int (1 : Int32))]) _ _ _
    refine Ends.go (fun _ k => XS.istore X79.here hx rfl (hb hby at_94) rfl (l' := #[.val (.int p0), .val (.int p1), .val (.int p2), .val (.int p3), .val (.int p4), .val (.int p5), .val (.int c0), .val (.int c1), .val (.int d0), .val (.int d1), .val (.int (0 : Int32)), .val (.ref b70), .val (.ref b75), .val (.int (1 : Int32)), .unset, .unset, .unset, .unset, .unset, .unset, .unset, .unset]) rfl k) ?_
    show Ends p e below s T79 (mkF m 96 #[.val (.int p0), .val (.int p1), .val (.int p2), .val (.int p3), .val (.int p4), .val (.int p5), .val (.int c0), .val (.int c1), .val (.int d0), .val (.int d1), .val (.int (0 : Int32)), .val (.ref b70), .val (.ref b75), .val (.int (1 : Int32)), .unset, .unset, .unset, .unset, .unset, .unset, .unset, .unset] []) _ _ _
    refine Ends.go (fun _ k => XS.goto X79.here hx rfl (pc0 := 96) (pc' := 200) rfl (hb hby at_96) (by decide) (by decide) k) ?_
    show Ends p e below s T79 (mkF m 200 #[.val (.int p0), .val (.int p1), .val (.int p2), .val (.int p3), .val (.int p4), .val (.int p5), .val (.int c0), .val (.int c1), .val (.int d0), .val (.int d1), .val (.int (0 : Int32)), .val (.ref b70), .val (.ref b75), .val (.int (1 : Int32)), .unset, .unset, .unset, .unset, .unset, .unset, .unset, .unset] []) _ _ _
    exact J200 _ _ _ b70 b75 _ _ _ _ ([c0, c1] : List Int32) ([c0, c1] : List Int32) _ _ _ _ _ _ (own_mono X79 (by decide) (by decide)) e79 O79 N79 K79 ⟨(((((Eq74.ext E75).ext E76).wr W77).wr W78).keep K79c), (((((Vq74.ext E75).ext E76).other W77 (Or.inl ne_b70_b76)).other W78 (Or.inl ne_b70_b76)).keep K79c (ninS ne_b70_b75 nin0)), (((((Cq74.ext E75).ext E76).other W77 (Or.inl ne_b70_b76)).other W78 (Or.inl ne_b70_b76)).keep K79c (ninS ne_b70_b75 nin0)), (((((Aq74.ext E75).ext E76).other W77 ne_t74_b76).other W78 ne_t74_b76).keep K79c (ninS ne_t74_b75 nin0)), StrChars.Road.codOf (n := 2) rfl (fun c hc => (hp74 c hc).2), (own_up _ hp74), Nat.le_of_ble_eq_true rfl⟩ ⟨Eq79, Vq79, Cq79, Aq79, StrChars.Road.codOf (n := 2) rfl (fun c hc => (hp79 c hc).2), (own_up _ hp79), Nat.le_of_ble_eq_true rfl⟩ (Or.inl ⟨rfl, rfl⟩)
  · show Ends p e below s s₁ (mkF m 42 #[.val (.int p0), .val (.int p1), .val (.int p2), .val (.int p3), .val (.int p4), .val (.int p5), .val (.int c0), .val (.int c1), .val (.int d0), .val (.int d1), .unset, .unset, .unset, .unset, .unset, .unset, .unset, .unset, .unset, .unset, .unset, .unset] [(.int (1 : Int32))]) _ _ _
    refine Ends.go (fun _ k => XS.istore X0.here hx rfl (hb hby at_42) rfl (l' := #[.val (.int p0), .val (.int p1), .val (.int p2), .val (.int p3), .val (.int p4), .val (.int p5), .val (.int c0), .val (.int c1), .val (.int d0), .val (.int d1), .val (.int (1 : Int32)), .unset, .unset, .unset, .unset, .unset, .unset, .unset, .unset, .unset, .unset, .unset]) rfl k) ?_
    show Ends p e below s s₁ (mkF m 44 #[.val (.int p0), .val (.int p1), .val (.int p2), .val (.int p3), .val (.int p4), .val (.int p5), .val (.int c0), .val (.int c1), .val (.int d0), .val (.int d1), .val (.int (1 : Int32)), .unset, .unset, .unset, .unset, .unset, .unset, .unset, .unset, .unset, .unset, .unset] []) _ _ _
    obtain ⟨T80, h80, X80, e80, E80, A80, D80, -, st80⟩ := newO X0 hx hZ hown (hw _ (List.mem_of_getElem? (i := 0) rfl)) (hw _ (List.mem_of_getElem? (i := 1) rfl)) (hw _ (List.mem_of_getElem? (i := 2) rfl)) e0 (g := (mkF m 44 #[.val (.int p0), .val (.int p1), .val (.int p2), .val (.int p3), .val (.int p4), .val (.int p5), .val (.int c0), .val (.int c1), .val (.int d0), .val (.int d1), .val (.int (1 : Int32)), .unset, .unset, .unset, .unset, .unset, .unset, .unset, .unset, .unset, .unset, .unset] [])) rfl (hb hby at_44) (by decide) (by decide)
    obtain ⟨b80, g80⟩ : ∃ z, z = h0.size := ⟨_, rfl⟩
    rw [← g80] at A80 D80 st80
    refine Ends.go st80 ?_
    have g_b80 : n0 ≤ b80 := Nat.le_trans (own_old_le O0) (Nat.le_of_eq g80.symm)
    have sz_b80 : h0.size ≤ b80 := Nat.le_trans K0.1 (Nat.le_of_eq g80.symm)
    have K80 := K0.ext E80
    have O80 := O0.ext E80
    have F_coder_b80 : Fld Z h80 b80 "java/lang/String" "coder" "B" (.int (0 : Int32)) := D80 (Or.inr (hw _ (List.mem_of_getElem? (i := 27) rfl))) (ty := .byte) (by decide)
    have F_value_b80 : Fld Z h80 b80 "java/lang/String" "value" "[B" .null := D80 (Or.inr (hw _ (List.mem_of_getElem? (i := 29) rfl))) (ty := (.array .byte)) (by decide)
    show Ends p e below s T80 (mkF m 47 #[.val (.int p0), .val (.int p1), .val (.int p2), .val (.int p3), .val (.int p4), .val (.int p5), .val (.int c0), .val (.int c1), .val (.int d0), .val (.int d1), .val (.int (1 : Int32)), .unset, .unset, .unset, .unset, .unset, .unset, .unset, .unset, .unset, .unset, .unset] [(.ref b80)]) _ _ _
    refine Ends.go (fun _ k => XS.dup X80.here hx rfl (hb hby at_47) rfl rfl k) ?_
    show Ends p e below s T80 (mkF m 48 #[.val (.int p0), .val (.int p1), .val (.int p2), .val (.int p3), .val (.int p4), .val (.int p5), .val (.int c0), .val (.int c1), .val (.int d0), .val (.int d1), .val (.int (1 : Int32)), .unset, .unset, .unset, .unset, .unset, .unset, .unset, .unset, .unset, .unset, .unset] [(.ref b80), (.ref b80)]) _ _ _
    refine Ends.go (fun _ k => XS.iconst X80.here hx rfl (hb hby at_48) k) ?_
    show Ends p e below s T80 (mkF m 49 #[.val (.int p0), .val (.int p1), .val (.int p2), .val (.int p3), .val (.int p4), .val (.int p5), .val (.int c0), .val (.int c1), .val (.int d0), .val (.int d1), .val (.int (1 : Int32)), .unset, .unset, .unset, .unset, .unset, .unset, .unset, .unset, .unset, .unset, .unset] [(.int (2 : Int32)), (.ref b80), (.ref b80)]) _ _ _
    obtain ⟨T81, h81, k81, X81, e81, E81, A81, st81⟩ := newP X80 hx hZ (hw _ (List.mem_of_getElem? (i := 3) rfl)) e80 (g := (mkF m 49 #[.val (.int p0), .val (.int p1), .val (.int p2), .val (.int p3), .val (.int p4), .val (.int p5), .val (.int c0), .val (.int c1), .val (.int d0), .val (.int d1), .val (.int (1 : Int32)), .unset, .unset, .unset, .unset, .unset, .unset, .unset, .unset, .unset, .unset, .unset] [(.int (2 : Int32)), (.ref b80), (.ref b80)])) rfl (hb hby at_49) rfl (by decide) (cap := 2) (by decide) (by decide) (by decide) (by decide)
    obtain ⟨b81, g81⟩ : ∃ z, z = h80.size := ⟨_, rfl⟩
    rw [← g81] at A81 st81
    refine Ends.go st81 ?_
    have ne_b80_b81 : b80 ≠ b81 := Nat.ne_of_lt (Nat.lt_of_lt_of_le A80.lt (Nat.le_of_eq g81.symm))
    have g_b81 : n0 ≤ b81 := Nat.le_trans (own_old_le O80) (Nat.le_of_eq g81.symm)
    have sz_b81 : h0.size ≤ b81 := Nat.le_trans K80.1 (Nat.le_of_eq g81.symm)
    have K81 := K80.ext E81
    have O81 := O80.ext E81
    have V_b81 : Arv Z h81 b81 k81 .char (2 : Int32) [(.int (0 : Int32)), (.int (0 : Int32))] (.int (0 : Int32)) := (Arv.new A81 (by decide)).pad (pad_rep [] (.int (0 : Int32)) 2)
    show Ends p e below s T81 (mkF m 51 #[.val (.int p0), .val (.int p1), .val (.int p2), .val (.int p3), .val (.int p4), .val (.int p5), .val (.int c0), .val (.int c1), .val (.int d0), .val (.int d1), .val (.int (1 : Int32)), .unset, .unset, .unset, .unset, .unset, .unset, .unset, .unset, .unset, .unset, .unset] [(.ref b81), (.ref b80), (.ref b80)]) _ _ _
    refine Ends.go (fun _ k => XS.dup X81.here hx rfl (hb hby at_51) rfl rfl k) ?_
    show Ends p e below s T81 (mkF m 52 #[.val (.int p0), .val (.int p1), .val (.int p2), .val (.int p3), .val (.int p4), .val (.int p5), .val (.int c0), .val (.int c1), .val (.int d0), .val (.int d1), .val (.int (1 : Int32)), .unset, .unset, .unset, .unset, .unset, .unset, .unset, .unset, .unset, .unset, .unset] [(.ref b81), (.ref b81), (.ref b80), (.ref b80)]) _ _ _
    refine Ends.go (fun _ k => XS.iconst X81.here hx rfl (hb hby at_52) k) ?_
    show Ends p e below s T81 (mkF m 53 #[.val (.int p0), .val (.int p1), .val (.int p2), .val (.int p3), .val (.int p4), .val (.int p5), .val (.int c0), .val (.int c1), .val (.int d0), .val (.int d1), .val (.int (1 : Int32)), .unset, .unset, .unset, .unset, .unset, .unset, .unset, .unset, .unset, .unset, .unset] [(.int (0 : Int32)), (.ref b81), (.ref b81), (.ref b80), (.ref b80)]) _ _ _
    refine Ends.go (fun _ k => XS.iload X81.here hx rfl (hb hby at_53) rfl k) ?_
    show Ends p e below s T81 (mkF m 55 #[.val (.int p0), .val (.int p1), .val (.int p2), .val (.int p3), .val (.int p4), .val (.int p5), .val (.int c0), .val (.int c1), .val (.int d0), .val (.int d1), .val (.int (1 : Int32)), .unset, .unset, .unset, .unset, .unset, .unset, .unset, .unset, .unset, .unset, .unset] [(.int c0), (.int (0 : Int32)), (.ref b81), (.ref b81), (.ref b80), (.ref b80)]) _ _ _
    obtain ⟨cl82, Ar82, q82, S82, M82, H82, G82⟩ := id V_b81
    have hin82 := inb_of (j := (0 : Int32)) S82 ⟨by decide, by decide⟩
    obtain ⟨T82, h82, X82, e82, W82, st82⟩ := stC X81 hx hZ e81 Ar82 (j := (0 : Int32)) hin82 (g := (mkF m 55 #[.val (.int p0), .val (.int p1), .val (.int p2), .val (.int p3), .val (.int p4), .val (.int p5), .val (.int c0), .val (.int c1), .val (.int d0), .val (.int d1), .val (.int (1 : Int32)), .unset, .unset, .unset, .unset, .unset, .unset, .unset, .unset, .unset, .unset, .unset] [(.int c0), (.int (0 : Int32)), (.ref b81), (.ref b81), (.ref b80), (.ref b80)])) rfl rfl (hb hby at_55)
    refine Ends.go st82 ?_
    have V82 : Arv Z h82 b81 k81 .char (2 : Int32) [(.int (nar .char c0)), (.int (0 : Int32))] (.int (0 : Int32)) := Arv.set Ar82 q82 S82 M82 H82 G82 (fits_nar_char _) W82 0 rfl (Nat.le_of_ble_eq_true rfl)
    rw [own_narc hc0] at V82
    have K82 := K81.wr W82 (Or.inr sz_b81)
    have O82 := O81.wr W82 g_b81
    have N82 := Fr.snoc X82 N0 g_b81
    show Ends p e below s T82 (mkF m 56 #[.val (.int p0), .val (.int p1), .val (.int p2), .val (.int p3), .val (.int p4), .val (.int p5), .val (.int c0), .val (.int c1), .val (.int d0), .val (.int d1), .val (.int (1 : Int32)), .unset, .unset, .unset, .unset, .unset, .unset, .unset, .unset, .unset, .unset, .unset] [(.ref b81), (.ref b80), (.ref b80)]) _ _ _
    refine Ends.go (fun _ k => XS.dup X82.here hx rfl (hb hby at_56) rfl rfl k) ?_
    show Ends p e below s T82 (mkF m 57 #[.val (.int p0), .val (.int p1), .val (.int p2), .val (.int p3), .val (.int p4), .val (.int p5), .val (.int c0), .val (.int c1), .val (.int d0), .val (.int d1), .val (.int (1 : Int32)), .unset, .unset, .unset, .unset, .unset, .unset, .unset, .unset, .unset, .unset, .unset] [(.ref b81), (.ref b81), (.ref b80), (.ref b80)]) _ _ _
    refine Ends.go (fun _ k => XS.iconst X82.here hx rfl (hb hby at_57) k) ?_
    show Ends p e below s T82 (mkF m 58 #[.val (.int p0), .val (.int p1), .val (.int p2), .val (.int p3), .val (.int p4), .val (.int p5), .val (.int c0), .val (.int c1), .val (.int d0), .val (.int d1), .val (.int (1 : Int32)), .unset, .unset, .unset, .unset, .unset, .unset, .unset, .unset, .unset, .unset, .unset] [(.int (1 : Int32)), (.ref b81), (.ref b81), (.ref b80), (.ref b80)]) _ _ _
    refine Ends.go (fun _ k => XS.iload X82.here hx rfl (hb hby at_58) rfl k) ?_
    show Ends p e below s T82 (mkF m 60 #[.val (.int p0), .val (.int p1), .val (.int p2), .val (.int p3), .val (.int p4), .val (.int p5), .val (.int c0), .val (.int c1), .val (.int d0), .val (.int d1), .val (.int (1 : Int32)), .unset, .unset, .unset, .unset, .unset, .unset, .unset, .unset, .unset, .unset, .unset] [(.int c1), (.int (1 : Int32)), (.ref b81), (.ref b81), (.ref b80), (.ref b80)]) _ _ _
    obtain ⟨cl83, Ar83, q83, S83, M83, H83, G83⟩ := id V82
    have hin83 := inb_of (j := (1 : Int32)) S83 ⟨by decide, by decide⟩
    obtain ⟨T83, h83, X83, e83, W83, st83⟩ := stC X82 hx hZ e82 Ar83 (j := (1 : Int32)) hin83 (g := (mkF m 60 #[.val (.int p0), .val (.int p1), .val (.int p2), .val (.int p3), .val (.int p4), .val (.int p5), .val (.int c0), .val (.int c1), .val (.int d0), .val (.int d1), .val (.int (1 : Int32)), .unset, .unset, .unset, .unset, .unset, .unset, .unset, .unset, .unset, .unset, .unset] [(.int c1), (.int (1 : Int32)), (.ref b81), (.ref b81), (.ref b80), (.ref b80)])) rfl rfl (hb hby at_60)
    refine Ends.go st83 ?_
    have V83 : Arv Z h83 b81 k81 .char (2 : Int32) [(.int c0), (.int (nar .char c1))] (.int (0 : Int32)) := Arv.set Ar83 q83 S83 M83 H83 G83 (fits_nar_char _) W83 1 rfl (Nat.le_of_ble_eq_true rfl)
    rw [own_narc hc1] at V83
    have K83 := K82.wr W83 (Or.inr sz_b81)
    have O83 := O82.wr W83 g_b81
    have N83 := Fr.snoc X83 N82 g_b81
    show Ends p e below s T83 (mkF m 61 #[.val (.int p0), .val (.int p1), .val (.int p2), .val (.int p3), .val (.int p4), .val (.int p5), .val (.int c0), .val (.int c1), .val (.int d0), .val (.int d1), .val (.int (1 : Int32)), .unset, .unset, .unset, .unset, .unset, .unset, .unset, .unset, .unset, .unset, .unset] [(.ref b81), (.ref b80), (.ref b80)]) _ _ _
    have hp84 : ∀ c ∈ ([c0, c1] : List Int32), ¬ c < 0 ∧ ¬ (255 : Int32) < c := by
      intro c hc
      simp only [List.mem_cons, List.not_mem_nil, or_false] at hc
      rcases hc with rfl | rfl
      · exact hc0
      · exact hc1
    obtain ⟨_, _, ⟨T84, L84, k84, n84⟩, -, X84, ⟨Lc84, hQ84, l84, y84, z84⟩, st84⟩ := X83.specialBack hx (y := (⟨"java/lang/String", "<init>", "([C)V"⟩ : MethodName)) rfl hown (mvT hZ (hw _ (List.mem_of_getElem? (i := 4) rfl))) (mvT hZ (hw _ (List.mem_of_getElem? (i := 5) rfl))) (mvT hZ (hw _ (List.mem_of_getElem? (i := 6) rfl))) (by decide) (StrChars.Road.backV (W := 1) hZ hws (kI := 4) (hw _ (List.mem_of_getElem? (i := 1) rfl)) (cs := ([c0, c1] : List Int32)) (bs := ([c0, c1] : List Int32).map (fun c => c.toInt8.toInt32)) (n := 2) g_b80 (own_old_le O83) (((A80.ext E81).wr W82).wr W83) (((F_value_b80.ext E81).other W82 (Or.inl ne_b80_b81)).other W83 (Or.inl ne_b80_b81)) (((F_coder_b80.ext E81).other W82 (Or.inl ne_b80_b81)).other W83 (Or.inl ne_b80_b81)) V83 (SCS.ext O83.2) P5 rfl rfl (by decide) (by decide) hp84 rfl (by decide) (by decide)) (g := (mkF m 61 #[.val (.int p0), .val (.int p1), .val (.int p2), .val (.int p3), .val (.int p4), .val (.int p5), .val (.int c0), .val (.int c1), .val (.int d0), .val (.int d1), .val (.int (1 : Int32)), .unset, .unset, .unset, .unset, .unset, .unset, .unset, .unset, .unset, .unset, .unset] [(.ref b81), (.ref b80), (.ref b80)])) rfl (by rw [hml]; rfl) (Steps.refl _) (a := b80) (argsL := [(.ref b81)]) (rest := [(.ref b80)]) (lenOf pd0_2 rfl) rfl (by show 2 * 0 + _ ≤ _; exact Nat.le_of_eq rfl) (hb hby at_61) (fun _ _ => ⟨rfl, e83, (by decide : 2 + 1 ≤ _), (by decide : 6 + 2 ≤ _)⟩)
    dsimp only [Pt.U, Pt.locs, Pt.cells, Pt.slots] at X84 l84 y84 z84 st84 hQ84
    subst l84 y84 z84
    obtain ⟨rfl, N84q, K84c, Eq84, Cq84, t84, kb84, -, ht84, ht84', Vq84, Aq84⟩ := hQ84
    have N84 := Fr.app N83 N84q
    refine Ends.go (fun _ k => st84.trans k) ?_
    have ne_b80_t84 : b80 ≠ t84 := Nat.ne_of_lt (Nat.lt_of_lt_of_le (((A80.ext E81).wr W82).wr W83).lt ht84)
    have ne_b81_t84 : b81 ≠ t84 := Nat.ne_of_lt (Nat.lt_of_lt_of_le V83.lt ht84)
    have g_t84 : n0 ≤ t84 := Nat.le_trans (own_old_le O83) ht84
    have sz_t84 : h0.size ≤ t84 := Nat.le_trans K83.1 ht84
    obtain ⟨h84, e84⟩ : ∃ z, T84.heap = z := ⟨_, rfl⟩
    rw [e84] at K84c Eq84 Cq84 Vq84 Aq84
    have K84 := K83.trans K84c (allS (Or.inr sz_b80) all0)
    have O84 := O83.keep K84c (allS g_b80 all0)
    show Ends p e below s T84 (mkF m 64 #[.val (.int p0), .val (.int p1), .val (.int p2), .val (.int p3), .val (.int p4), .val (.int p5), .val (.int c0), .val (.int c1), .val (.int d0), .val (.int d1), .val (.int (1 : Int32)), .unset, .unset, .unset, .unset, .unset, .unset, .unset, .unset, .unset, .unset, .unset] [(.ref b80)]) _ _ _
    refine Ends.go (fun _ k => XS.astore X84.here hx rfl (hb hby at_64) rfl rfl (l' := #[.val (.int p0), .val (.int p1), .val (.int p2), .val (.int p3), .val (.int p4), .val (.int p5), .val (.int c0), .val (.int c1), .val (.int d0), .val (.int d1), .val (.int (1 : Int32)), .val (.ref b80), .unset, .unset, .unset, .unset, .unset, .unset, .unset, .unset, .unset, .unset]) rfl k) ?_
    show Ends p e below s T84 (mkF m 66 #[.val (.int p0), .val (.int p1), .val (.int p2), .val (.int p3), .val (.int p4), .val (.int p5), .val (.int c0), .val (.int c1), .val (.int d0), .val (.int d1), .val (.int (1 : Int32)), .val (.ref b80), .unset, .unset, .unset, .unset, .unset, .unset, .unset, .unset, .unset, .unset] []) _ _ _
    refine Ends.go (fun _ k => XS.iload X84.here hx rfl (hb hby at_66) rfl k) ?_
    show Ends p e below s T84 (mkF m 68 #[.val (.int p0), .val (.int p1), .val (.int p2), .val (.int p3), .val (.int p4), .val (.int p5), .val (.int c0), .val (.int c1), .val (.int d0), .val (.int d1), .val (.int (1 : Int32)), .val (.ref b80), .unset, .unset, .unset, .unset, .unset, .unset, .unset, .unset, .unset, .unset] [(.int (1 : Int32))]) _ _ _
    refine Ends.go (fun _ k => XS.ifYes X84.here hx rfl (pc0 := 68) (pc' := 99) rfl (hb hby at_68) rfl ((if0 _ _).trans (feq (by decide : ¬ ((1 : Int32) = (0 : Int32)))).2) (by decide) (by decide) k) ?_
    show Ends p e below s T84 (mkF m 99 #[.val (.int p0), .val (.int p1), .val (.int p2), .val (.int p3), .val (.int p4), .val (.int p5), .val (.int c0), .val (.int c1), .val (.int d0), .val (.int d1), .val (.int (1 : Int32)), .val (.ref b80), .unset, .unset, .unset, .unset, .unset, .unset, .unset, .unset, .unset, .unset] []) _ _ _
    refine Ends.go (fun _ k => XS.iload X84.here hx rfl (hb hby at_99) rfl k) ?_
    show Ends p e below s T84 (mkF m 101 #[.val (.int p0), .val (.int p1), .val (.int p2), .val (.int p3), .val (.int p4), .val (.int p5), .val (.int c0), .val (.int c1), .val (.int d0), .val (.int d1), .val (.int (1 : Int32)), .val (.ref b80), .unset, .unset, .unset, .unset, .unset, .unset, .unset, .unset, .unset, .unset] [(.int (1 : Int32))]) _ _ _
    refine Ends.go (fun _ k => XS.iconst X84.here hx rfl (hb hby at_101) k) ?_
    show Ends p e below s T84 (mkF m 102 #[.val (.int p0), .val (.int p1), .val (.int p2), .val (.int p3), .val (.int p4), .val (.int p5), .val (.int c0), .val (.int c1), .val (.int d0), .val (.int d1), .val (.int (1 : Int32)), .val (.ref b80), .unset, .unset, .unset, .unset, .unset, .unset, .unset, .unset, .unset, .unset] [(.int (1 : Int32)), (.int (1 : Int32))]) _ _ _
    refine Ends.go (fun _ k => XS.icmpNo X84.here hx rfl (hb hby at_102) rfl (teq (by decide : (1 : Int32) = (1 : Int32))).2 k) ?_
    show Ends p e below s T84 (mkF m 105 #[.val (.int p0), .val (.int p1), .val (.int p2), .val (.int p3), .val (.int p4), .val (.int p5), .val (.int c0), .val (.int c1), .val (.int d0), .val (.int d1), .val (.int (1 : Int32)), .val (.ref b80), .unset, .unset, .unset, .unset, .unset, .unset, .unset, .unset, .unset, .unset] []) _ _ _
    obtain ⟨T85, h85, X85, e85, E85, A85, D85, -, st85⟩ := newO X84 hx hZ hown (hw _ (List.mem_of_getElem? (i := 0) rfl)) (hw _ (List.mem_of_getElem? (i := 1) rfl)) (hw _ (List.mem_of_getElem? (i := 2) rfl)) e84 (g := (mkF m 105 #[.val (.int p0), .val (.int p1), .val (.int p2), .val (.int p3), .val (.int p4), .val (.int p5), .val (.int c0), .val (.int c1), .val (.int d0), .val (.int d1), .val (.int (1 : Int32)), .val (.ref b80), .unset, .unset, .unset, .unset, .unset, .unset, .unset, .unset, .unset, .unset] [])) rfl (hb hby at_105) (by decide) (by decide)
    obtain ⟨b85, g85⟩ : ∃ z, z = h84.size := ⟨_, rfl⟩
    rw [← g85] at A85 D85 st85
    refine Ends.go st85 ?_
    have ne_b80_b85 : b80 ≠ b85 := Nat.ne_of_lt (Nat.lt_of_lt_of_le Eq84.lt (Nat.le_of_eq g85.symm))
    have ne_b81_b85 : b81 ≠ b85 := Nat.ne_of_lt (Nat.lt_of_lt_of_le (V83.keep K84c (ninS (Ne.symm ne_b80_b81) nin0)).lt (Nat.le_of_eq g85.symm))
    have ne_t84_b85 : t84 ≠ b85 := Nat.ne_of_lt (Nat.lt_of_lt_of_le Aq84.lt (Nat.le_of_eq g85.symm))
    have g_b85 : n0 ≤ b85 := Nat.le_trans (own_old_le O84) (Nat.le_of_eq g85.symm)
    have sz_b85 : h0.size ≤ b85 := Nat.le_trans K84.1 (Nat.le_of_eq g85.symm)
    have K85 := K84.ext E85
    have O85 := O84.ext E85
    have F_coder_b85 : Fld Z h85 b85 "java/lang/String" "coder" "B" (.int (0 : Int32)) := D85 (Or.inr (hw _ (List.mem_of_getElem? (i := 27) rfl))) (ty := .byte) (by decide)
    have F_value_b85 : Fld Z h85 b85 "java/lang/String" "value" "[B" .null := D85 (Or.inr (hw _ (List.mem_of_getElem? (i := 29) rfl))) (ty := (.array .byte)) (by decide)
    show Ends p e below s T85 (mkF m 108 #[.val (.int p0), .val (.int p1), .val (.int p2), .val (.int p3), .val (.int p4), .val (.int p5), .val (.int c0), .val (.int c1), .val (.int d0), .val (.int d1), .val (.int (1 : Int32)), .val (.ref b80), .unset, .unset, .unset, .unset, .unset, .unset, .unset, .unset, .unset, .unset] [(.ref b85)]) _ _ _
    refine Ends.go (fun _ k => XS.dup X85.here hx rfl (hb hby at_108) rfl rfl k) ?_
    show Ends p e below s T85 (mkF m 109 #[.val (.int p0), .val (.int p1), .val (.int p2), .val (.int p3), .val (.int p4), .val (.int p5), .val (.int c0), .val (.int c1), .val (.int d0), .val (.int d1), .val (.int (1 : Int32)), .val (.ref b80), .unset, .unset, .unset, .unset, .unset, .unset, .unset, .unset, .unset, .unset] [(.ref b85), (.ref b85)]) _ _ _
    refine Ends.go (fun _ k => XS.iconst X85.here hx rfl (hb hby at_109) k) ?_
    show Ends p e below s T85 (mkF m 110 #[.val (.int p0), .val (.int p1), .val (.int p2), .val (.int p3), .val (.int p4), .val (.int p5), .val (.int c0), .val (.int c1), .val (.int d0), .val (.int d1), .val (.int (1 : Int32)), .val (.ref b80), .unset, .unset, .unset, .unset, .unset, .unset, .unset, .unset, .unset, .unset] [(.int (2 : Int32)), (.ref b85), (.ref b85)]) _ _ _
    obtain ⟨T86, h86, k86, X86, e86, E86, A86, st86⟩ := newP X85 hx hZ (hw _ (List.mem_of_getElem? (i := 3) rfl)) e85 (g := (mkF m 110 #[.val (.int p0), .val (.int p1), .val (.int p2), .val (.int p3), .val (.int p4), .val (.int p5), .val (.int c0), .val (.int c1), .val (.int d0), .val (.int d1), .val (.int (1 : Int32)), .val (.ref b80), .unset, .unset, .unset, .unset, .unset, .unset, .unset, .unset, .unset, .unset] [(.int (2 : Int32)), (.ref b85), (.ref b85)])) rfl (hb hby at_110) rfl (by decide) (cap := 2) (by decide) (by decide) (by decide) (by decide)
    obtain ⟨b86, g86⟩ : ∃ z, z = h85.size := ⟨_, rfl⟩
    rw [← g86] at A86 st86
    refine Ends.go st86 ?_
    have ne_b80_b86 : b80 ≠ b86 := Nat.ne_of_lt (Nat.lt_of_lt_of_le (Eq84.ext E85).lt (Nat.le_of_eq g86.symm))
    have ne_b81_b86 : b81 ≠ b86 := Nat.ne_of_lt (Nat.lt_of_lt_of_le ((V83.keep K84c (ninS (Ne.symm ne_b80_b81) nin0)).ext E85).lt (Nat.le_of_eq g86.symm))
    have ne_t84_b86 : t84 ≠ b86 := Nat.ne_of_lt (Nat.lt_of_lt_of_le (Aq84.ext E85).lt (Nat.le_of_eq g86.symm))
    have ne_b85_b86 : b85 ≠ b86 := Nat.ne_of_lt (Nat.lt_of_lt_of_le A85.lt (Nat.le_of_eq g86.symm))
    have g_b86 : n0 ≤ b86 := Nat.le_trans (own_old_le O85) (Nat.le_of_eq g86.symm)
    have sz_b86 : h0.size ≤ b86 := Nat.le_trans K85.1 (Nat.le_of_eq g86.symm)
    have K86 := K85.ext E86
    have O86 := O85.ext E86
    have V_b86 : Arv Z h86 b86 k86 .char (2 : Int32) [(.int (0 : Int32)), (.int (0 : Int32))] (.int (0 : Int32)) := (Arv.new A86 (by decide)).pad (pad_rep [] (.int (0 : Int32)) 2)
    show Ends p e below s T86 (mkF m 112 #[.val (.int p0), .val (.int p1), .val (.int p2), .val (.int p3), .val (.int p4), .val (.int p5), .val (.int c0), .val (.int c1), .val (.int d0), .val (.int d1), .val (.int (1 : Int32)), .val (.ref b80), .unset, .unset, .unset, .unset, .unset, .unset, .unset, .unset, .unset, .unset] [(.ref b86), (.ref b85), (.ref b85)]) _ _ _
    refine Ends.go (fun _ k => XS.dup X86.here hx rfl (hb hby at_112) rfl rfl k) ?_
    show Ends p e below s T86 (mkF m 113 #[.val (.int p0), .val (.int p1), .val (.int p2), .val (.int p3), .val (.int p4), .val (.int p5), .val (.int c0), .val (.int c1), .val (.int d0), .val (.int d1), .val (.int (1 : Int32)), .val (.ref b80), .unset, .unset, .unset, .unset, .unset, .unset, .unset, .unset, .unset, .unset] [(.ref b86), (.ref b86), (.ref b85), (.ref b85)]) _ _ _
    refine Ends.go (fun _ k => XS.iconst X86.here hx rfl (hb hby at_113) k) ?_
    show Ends p e below s T86 (mkF m 114 #[.val (.int p0), .val (.int p1), .val (.int p2), .val (.int p3), .val (.int p4), .val (.int p5), .val (.int c0), .val (.int c1), .val (.int d0), .val (.int d1), .val (.int (1 : Int32)), .val (.ref b80), .unset, .unset, .unset, .unset, .unset, .unset, .unset, .unset, .unset, .unset] [(.int (0 : Int32)), (.ref b86), (.ref b86), (.ref b85), (.ref b85)]) _ _ _
    refine Ends.go (fun _ k => XS.iload X86.here hx rfl (hb hby at_114) rfl k) ?_
    show Ends p e below s T86 (mkF m 116 #[.val (.int p0), .val (.int p1), .val (.int p2), .val (.int p3), .val (.int p4), .val (.int p5), .val (.int c0), .val (.int c1), .val (.int d0), .val (.int d1), .val (.int (1 : Int32)), .val (.ref b80), .unset, .unset, .unset, .unset, .unset, .unset, .unset, .unset, .unset, .unset] [(.int d0), (.int (0 : Int32)), (.ref b86), (.ref b86), (.ref b85), (.ref b85)]) _ _ _
    obtain ⟨cl87, Ar87, q87, S87, M87, H87, G87⟩ := id V_b86
    have hin87 := inb_of (j := (0 : Int32)) S87 ⟨by decide, by decide⟩
    obtain ⟨T87, h87, X87, e87, W87, st87⟩ := stC X86 hx hZ e86 Ar87 (j := (0 : Int32)) hin87 (g := (mkF m 116 #[.val (.int p0), .val (.int p1), .val (.int p2), .val (.int p3), .val (.int p4), .val (.int p5), .val (.int c0), .val (.int c1), .val (.int d0), .val (.int d1), .val (.int (1 : Int32)), .val (.ref b80), .unset, .unset, .unset, .unset, .unset, .unset, .unset, .unset, .unset, .unset] [(.int d0), (.int (0 : Int32)), (.ref b86), (.ref b86), (.ref b85), (.ref b85)])) rfl rfl (hb hby at_116)
    refine Ends.go st87 ?_
    have V87 : Arv Z h87 b86 k86 .char (2 : Int32) [(.int (nar .char d0)), (.int (0 : Int32))] (.int (0 : Int32)) := Arv.set Ar87 q87 S87 M87 H87 G87 (fits_nar_char _) W87 0 rfl (Nat.le_of_ble_eq_true rfl)
    rw [own_narc hd0] at V87
    have K87 := K86.wr W87 (Or.inr sz_b86)
    have O87 := O86.wr W87 g_b86
    have N87 := Fr.snoc X87 N84 g_b86
    show Ends p e below s T87 (mkF m 117 #[.val (.int p0), .val (.int p1), .val (.int p2), .val (.int p3), .val (.int p4), .val (.int p5), .val (.int c0), .val (.int c1), .val (.int d0), .val (.int d1), .val (.int (1 : Int32)), .val (.ref b80), .unset, .unset, .unset, .unset, .unset, .unset, .unset, .unset, .unset, .unset] [(.ref b86), (.ref b85), (.ref b85)]) _ _ _
    refine Ends.go (fun _ k => XS.dup X87.here hx rfl (hb hby at_117) rfl rfl k) ?_
    show Ends p e below s T87 (mkF m 118 #[.val (.int p0), .val (.int p1), .val (.int p2), .val (.int p3), .val (.int p4), .val (.int p5), .val (.int c0), .val (.int c1), .val (.int d0), .val (.int d1), .val (.int (1 : Int32)), .val (.ref b80), .unset, .unset, .unset, .unset, .unset, .unset, .unset, .unset, .unset, .unset] [(.ref b86), (.ref b86), (.ref b85), (.ref b85)]) _ _ _
    refine Ends.go (fun _ k => XS.iconst X87.here hx rfl (hb hby at_118) k) ?_
    show Ends p e below s T87 (mkF m 119 #[.val (.int p0), .val (.int p1), .val (.int p2), .val (.int p3), .val (.int p4), .val (.int p5), .val (.int c0), .val (.int c1), .val (.int d0), .val (.int d1), .val (.int (1 : Int32)), .val (.ref b80), .unset, .unset, .unset, .unset, .unset, .unset, .unset, .unset, .unset, .unset] [(.int (1 : Int32)), (.ref b86), (.ref b86), (.ref b85), (.ref b85)]) _ _ _
    refine Ends.go (fun _ k => XS.iload X87.here hx rfl (hb hby at_119) rfl k) ?_
    show Ends p e below s T87 (mkF m 121 #[.val (.int p0), .val (.int p1), .val (.int p2), .val (.int p3), .val (.int p4), .val (.int p5), .val (.int c0), .val (.int c1), .val (.int d0), .val (.int d1), .val (.int (1 : Int32)), .val (.ref b80), .unset, .unset, .unset, .unset, .unset, .unset, .unset, .unset, .unset, .unset] [(.int d1), (.int (1 : Int32)), (.ref b86), (.ref b86), (.ref b85), (.ref b85)]) _ _ _
    obtain ⟨cl88, Ar88, q88, S88, M88, H88, G88⟩ := id V87
    have hin88 := inb_of (j := (1 : Int32)) S88 ⟨by decide, by decide⟩
    obtain ⟨T88, h88, X88, e88, W88, st88⟩ := stC X87 hx hZ e87 Ar88 (j := (1 : Int32)) hin88 (g := (mkF m 121 #[.val (.int p0), .val (.int p1), .val (.int p2), .val (.int p3), .val (.int p4), .val (.int p5), .val (.int c0), .val (.int c1), .val (.int d0), .val (.int d1), .val (.int (1 : Int32)), .val (.ref b80), .unset, .unset, .unset, .unset, .unset, .unset, .unset, .unset, .unset, .unset] [(.int d1), (.int (1 : Int32)), (.ref b86), (.ref b86), (.ref b85), (.ref b85)])) rfl rfl (hb hby at_121)
    refine Ends.go st88 ?_
    have V88 : Arv Z h88 b86 k86 .char (2 : Int32) [(.int d0), (.int (nar .char d1))] (.int (0 : Int32)) := Arv.set Ar88 q88 S88 M88 H88 G88 (fits_nar_char _) W88 1 rfl (Nat.le_of_ble_eq_true rfl)
    rw [own_narc hd1] at V88
    have K88 := K87.wr W88 (Or.inr sz_b86)
    have O88 := O87.wr W88 g_b86
    have N88 := Fr.snoc X88 N87 g_b86
    show Ends p e below s T88 (mkF m 122 #[.val (.int p0), .val (.int p1), .val (.int p2), .val (.int p3), .val (.int p4), .val (.int p5), .val (.int c0), .val (.int c1), .val (.int d0), .val (.int d1), .val (.int (1 : Int32)), .val (.ref b80), .unset, .unset, .unset, .unset, .unset, .unset, .unset, .unset, .unset, .unset] [(.ref b86), (.ref b85), (.ref b85)]) _ _ _
    have hp89 : ∀ c ∈ ([d0, d1] : List Int32), ¬ c < 0 ∧ ¬ (255 : Int32) < c := by
      intro c hc
      simp only [List.mem_cons, List.not_mem_nil, or_false] at hc
      rcases hc with rfl | rfl
      · exact hd0
      · exact hd1
    obtain ⟨_, _, ⟨T89, L89, k89, n89⟩, -, X89, ⟨Lc89, hQ89, l89, y89, z89⟩, st89⟩ := X88.specialBack hx (y := (⟨"java/lang/String", "<init>", "([C)V"⟩ : MethodName)) rfl hown (mvT hZ (hw _ (List.mem_of_getElem? (i := 4) rfl))) (mvT hZ (hw _ (List.mem_of_getElem? (i := 5) rfl))) (mvT hZ (hw _ (List.mem_of_getElem? (i := 6) rfl))) (by decide) (StrChars.Road.backV (W := 1) hZ hws (kI := 4) (hw _ (List.mem_of_getElem? (i := 1) rfl)) (cs := ([d0, d1] : List Int32)) (bs := ([d0, d1] : List Int32).map (fun c => c.toInt8.toInt32)) (n := 2) g_b85 (own_old_le O88) (((A85.ext E86).wr W87).wr W88) (((F_value_b85.ext E86).other W87 (Or.inl ne_b85_b86)).other W88 (Or.inl ne_b85_b86)) (((F_coder_b85.ext E86).other W87 (Or.inl ne_b85_b86)).other W88 (Or.inl ne_b85_b86)) V88 (SCS.ext O88.2) P5 rfl rfl (by decide) (by decide) hp89 rfl (by decide) (by decide)) (g := (mkF m 122 #[.val (.int p0), .val (.int p1), .val (.int p2), .val (.int p3), .val (.int p4), .val (.int p5), .val (.int c0), .val (.int c1), .val (.int d0), .val (.int d1), .val (.int (1 : Int32)), .val (.ref b80), .unset, .unset, .unset, .unset, .unset, .unset, .unset, .unset, .unset, .unset] [(.ref b86), (.ref b85), (.ref b85)])) rfl (by rw [hml]; rfl) (Steps.refl _) (a := b85) (argsL := [(.ref b86)]) (rest := [(.ref b85)]) (lenOf pd0_2 rfl) rfl (by show 2 * 0 + _ ≤ _; exact Nat.le_of_eq rfl) (hb hby at_122) (fun _ _ => ⟨rfl, e88, (by decide : 5 + 1 ≤ _), (by decide : 14 + 2 ≤ _)⟩)
    dsimp only [Pt.U, Pt.locs, Pt.cells, Pt.slots] at X89 l89 y89 z89 st89 hQ89
    subst l89 y89 z89
    obtain ⟨rfl, N89q, K89c, Eq89, Cq89, t89, kb89, -, ht89, ht89', Vq89, Aq89⟩ := hQ89
    have N89 := Fr.app N88 N89q
    refine Ends.go (fun _ k => st89.trans k) ?_
    have ne_b80_t89 : b80 ≠ t89 := Nat.ne_of_lt (Nat.lt_of_lt_of_le ((((Eq84.ext E85).ext E86).wr W87).wr W88).lt ht89)
    have ne_b81_t89 : b81 ≠ t89 := Nat.ne_of_lt (Nat.lt_of_lt_of_le (((((V83.keep K84c (ninS (Ne.symm ne_b80_b81) nin0)).ext E85).ext E86).other W87 ne_b81_b86).other W88 ne_b81_b86).lt ht89)
    have ne_t84_t89 : t84 ≠ t89 := Nat.ne_of_lt (Nat.lt_of_lt_of_le ((((Aq84.ext E85).ext E86).other W87 ne_t84_b86).other W88 ne_t84_b86).lt ht89)
    have ne_b85_t89 : b85 ≠ t89 := Nat.ne_of_lt (Nat.lt_of_lt_of_le (((A85.ext E86).wr W87).wr W88).lt ht89)
    have ne_b86_t89 : b86 ≠ t89 := Nat.ne_of_lt (Nat.lt_of_lt_of_le V88.lt ht89)
    have g_t89 : n0 ≤ t89 := Nat.le_trans (own_old_le O88) ht89
    have sz_t89 : h0.size ≤ t89 := Nat.le_trans K88.1 ht89
    obtain ⟨h89, e89⟩ : ∃ z, T89.heap = z := ⟨_, rfl⟩
    rw [e89] at K89c Eq89 Cq89 Vq89 Aq89
    have K89 := K88.trans K89c (allS (Or.inr sz_b85) all0)
    have O89 := O88.keep K89c (allS g_b85 all0)
    show Ends p e below s T89 (mkF m 125 #[.val (.int p0), .val (.int p1), .val (.int p2), .val (.int p3), .val (.int p4), .val (.int p5), .val (.int c0), .val (.int c1), .val (.int d0), .val (.int d1), .val (.int (1 : Int32)), .val (.ref b80), .unset, .unset, .unset, .unset, .unset, .unset, .unset, .unset, .unset, .unset] [(.ref b85)]) _ _ _
    refine Ends.go (fun _ k => XS.astore X89.here hx rfl (hb hby at_125) rfl rfl (l' := #[.val (.int p0), .val (.int p1), .val (.int p2), .val (.int p3), .val (.int p4), .val (.int p5), .val (.int c0), .val (.int c1), .val (.int d0), .val (.int d1), .val (.int (1 : Int32)), .val (.ref b80), .val (.ref b85), .unset, .unset, .unset, .unset, .unset, .unset, .unset, .unset, .unset]) rfl k) ?_
    show Ends p e below s T89 (mkF m 127 #[.val (.int p0), .val (.int p1), .val (.int p2), .val (.int p3), .val (.int p4), .val (.int p5), .val (.int c0), .val (.int c1), .val (.int d0), .val (.int d1), .val (.int (1 : Int32)), .val (.ref b80), .val (.ref b85), .unset, .unset, .unset, .unset, .unset, .unset, .unset, .unset, .unset] []) _ _ _
    refine Ends.go (fun _ k => XS.iload X89.here hx rfl (hb hby at_127) rfl k) ?_
    show Ends p e below s T89 (mkF m 129 #[.val (.int p0), .val (.int p1), .val (.int p2), .val (.int p3), .val (.int p4), .val (.int p5), .val (.int c0), .val (.int c1), .val (.int d0), .val (.int d1), .val (.int (1 : Int32)), .val (.ref b80), .val (.ref b85), .unset, .unset, .unset, .unset, .unset, .unset, .unset, .unset, .unset] [(.int c0)]) _ _ _
    refine Ends.go (fun _ k => XS.iload X89.here hx rfl (hb hby at_129) rfl k) ?_
    show Ends p e below s T89 (mkF m 131 #[.val (.int p0), .val (.int p1), .val (.int p2), .val (.int p3), .val (.int p4), .val (.int p5), .val (.int c0), .val (.int c1), .val (.int d0), .val (.int d1), .val (.int (1 : Int32)), .val (.ref b80), .val (.ref b85), .unset, .unset, .unset, .unset, .unset, .unset, .unset, .unset, .unset] [(.int d0), (.int c0)]) _ _ _
    by_cases hc131_90 : c0 = d0
    · refine Ends.go (fun _ k => XS.icmpNo X89.here hx rfl (hb hby at_131) rfl (teq hc131_90).2 k) ?_
      show Ends p e below s T89 (mkF m 134 #[.val (.int p0), .val (.int p1), .val (.int p2), .val (.int p3), .val (.int p4), .val (.int p5), .val (.int c0), .val (.int c1), .val (.int d0), .val (.int d1), .val (.int (1 : Int32)), .val (.ref b80), .val (.ref b85), .unset, .unset, .unset, .unset, .unset, .unset, .unset, .unset, .unset] []) _ _ _
      refine Ends.go (fun _ k => XS.iload X89.here hx rfl (hb hby at_134) rfl k) ?_
      show Ends p e below s T89 (mkF m 136 #[.val (.int p0), .val (.int p1), .val (.int p2), .val (.int p3), .val (.int p4), .val (.int p5), .val (.int c0), .val (.int c1), .val (.int d0), .val (.int d1), .val (.int (1 : Int32)), .val (.ref b80), .val (.ref b85), .unset, .unset, .unset, .unset, .unset, .unset, .unset, .unset, .unset] [(.int c1)]) _ _ _
      refine Ends.go (fun _ k => XS.iload X89.here hx rfl (hb hby at_136) rfl k) ?_
      show Ends p e below s T89 (mkF m 138 #[.val (.int p0), .val (.int p1), .val (.int p2), .val (.int p3), .val (.int p4), .val (.int p5), .val (.int c0), .val (.int c1), .val (.int d0), .val (.int d1), .val (.int (1 : Int32)), .val (.ref b80), .val (.ref b85), .unset, .unset, .unset, .unset, .unset, .unset, .unset, .unset, .unset] [(.int d1), (.int c1)]) _ _ _
      by_cases hc138_91 : c1 = d1
      · refine Ends.go (fun _ k => XS.icmpNo X89.here hx rfl (hb hby at_138) rfl (teq hc138_91).2 k) ?_
        show Ends p e below s T89 (mkF m 141 #[.val (.int p0), .val (.int p1), .val (.int p2), .val (.int p3), .val (.int p4), .val (.int p5), .val (.int c0), .val (.int c1), .val (.int d0), .val (.int d1), .val (.int (1 : Int32)), .val (.ref b80), .val (.ref b85), .unset, .unset, .unset, .unset, .unset, .unset, .unset, .unset, .unset] []) _ _ _
        refine Ends.go (fun _ k => XS.iconst X89.here hx rfl (hb hby at_141) k) ?_
        show Ends p e below s T89 (mkF m 142 #[.val (.int p0), .val (.int p1), .val (.int p2), .val (.int p3), .val (.int p4), .val (.int p5), .val (.int c0), .val (.int c1), .val (.int d0), .val (.int d1), .val (.int (1 : Int32)), .val (.ref b80), .val (.ref b85), .unset, .unset, .unset, .unset, .unset, .unset, .unset, .unset, .unset] [(.int (1 : Int32))]) _ _ _
        refine Ends.go (fun _ k => XS.goto X89.here hx rfl (pc0 := 142) (pc' := 146) rfl (hb hby at_142) (by decide) (by decide) k) ?_
        show Ends p e below s T89 (mkF m 146 #[.val (.int p0), .val (.int p1), .val (.int p2), .val (.int p3), .val (.int p4), .val (.int p5), .val (.int c0), .val (.int c1), .val (.int d0), .val (.int d1), .val (.int (1 : Int32)), .val (.ref b80), .val (.ref b85), .unset, .unset, .unset, .unset, .unset, .unset, .unset, .unset, .unset] [(.int (1 : Int32))]) _ _ _
        refine Ends.go (fun _ k => XS.istore X89.here hx rfl (hb hby at_146) rfl (l' := #[.val (.int p0), .val (.int p1), .val (.int p2), .val (.int p3), .val (.int p4), .val (.int p5), .val (.int c0), .val (.int c1), .val (.int d0), .val (.int d1), .val (.int (1 : Int32)), .val (.ref b80), .val (.ref b85), .val (.int (1 : Int32)), .unset, .unset, .unset, .unset, .unset, .unset, .unset, .unset]) rfl k) ?_
        show Ends p e below s T89 (mkF m 148 #[.val (.int p0), .val (.int p1), .val (.int p2), .val (.int p3), .val (.int p4), .val (.int p5), .val (.int c0), .val (.int c1), .val (.int d0), .val (.int d1), .val (.int (1 : Int32)), .val (.ref b80), .val (.ref b85), .val (.int (1 : Int32)), .unset, .unset, .unset, .unset, .unset, .unset, .unset, .unset] []) _ _ _
        refine Ends.go (fun _ k => XS.goto X89.here hx rfl (pc0 := 148) (pc' := 200) rfl (hb hby at_148) (by decide) (by decide) k) ?_
        show Ends p e below s T89 (mkF m 200 #[.val (.int p0), .val (.int p1), .val (.int p2), .val (.int p3), .val (.int p4), .val (.int p5), .val (.int c0), .val (.int c1), .val (.int d0), .val (.int d1), .val (.int (1 : Int32)), .val (.ref b80), .val (.ref b85), .val (.int (1 : Int32)), .unset, .unset, .unset, .unset, .unset, .unset, .unset, .unset] []) _ _ _
        exact J200 _ _ _ b80 b85 _ _ _ _ ([c0, c1] : List Int32) ([d0, d1] : List Int32) _ _ _ _ _ _ (own_mono X89 (by decide) (by decide)) e89 O89 N89 K89 ⟨(((((Eq84.ext E85).ext E86).wr W87).wr W88).keep K89c), (((((Vq84.ext E85).ext E86).other W87 (Or.inl ne_b80_b86)).other W88 (Or.inl ne_b80_b86)).keep K89c (ninS ne_b80_b85 nin0)), (((((Cq84.ext E85).ext E86).other W87 (Or.inl ne_b80_b86)).other W88 (Or.inl ne_b80_b86)).keep K89c (ninS ne_b80_b85 nin0)), (((((Aq84.ext E85).ext E86).other W87 ne_t84_b86).other W88 ne_t84_b86).keep K89c (ninS ne_t84_b85 nin0)), StrChars.Road.codOf (n := 2) rfl (fun c hc => (hp84 c hc).2), (own_up _ hp84), Nat.le_of_ble_eq_true rfl⟩ ⟨Eq89, Vq89, Cq89, Aq89, StrChars.Road.codOf (n := 2) rfl (fun c hc => (hp89 c hc).2), (own_up _ hp89), Nat.le_of_ble_eq_true rfl⟩ (Or.inl ⟨rfl, by rw [hc131_90, hc138_91]⟩)
      · refine Ends.go (fun _ k => XS.icmpYes X89.here hx rfl (pc0 := 138) (pc' := 145) rfl (hb hby at_138) rfl (feq hc138_91).2 (by decide) (by decide) k) ?_
        show Ends p e below s T89 (mkF m 145 #[.val (.int p0), .val (.int p1), .val (.int p2), .val (.int p3), .val (.int p4), .val (.int p5), .val (.int c0), .val (.int c1), .val (.int d0), .val (.int d1), .val (.int (1 : Int32)), .val (.ref b80), .val (.ref b85), .unset, .unset, .unset, .unset, .unset, .unset, .unset, .unset, .unset] []) _ _ _
        refine Ends.go (fun _ k => XS.iconst X89.here hx rfl (hb hby at_145) k) ?_
        show Ends p e below s T89 (mkF m 146 #[.val (.int p0), .val (.int p1), .val (.int p2), .val (.int p3), .val (.int p4), .val (.int p5), .val (.int c0), .val (.int c1), .val (.int d0), .val (.int d1), .val (.int (1 : Int32)), .val (.ref b80), .val (.ref b85), .unset, .unset, .unset, .unset, .unset, .unset, .unset, .unset, .unset] [(.int (0 : Int32))]) _ _ _
        refine Ends.go (fun _ k => XS.istore X89.here hx rfl (hb hby at_146) rfl (l' := #[.val (.int p0), .val (.int p1), .val (.int p2), .val (.int p3), .val (.int p4), .val (.int p5), .val (.int c0), .val (.int c1), .val (.int d0), .val (.int d1), .val (.int (1 : Int32)), .val (.ref b80), .val (.ref b85), .val (.int (0 : Int32)), .unset, .unset, .unset, .unset, .unset, .unset, .unset, .unset]) rfl k) ?_
        show Ends p e below s T89 (mkF m 148 #[.val (.int p0), .val (.int p1), .val (.int p2), .val (.int p3), .val (.int p4), .val (.int p5), .val (.int c0), .val (.int c1), .val (.int d0), .val (.int d1), .val (.int (1 : Int32)), .val (.ref b80), .val (.ref b85), .val (.int (0 : Int32)), .unset, .unset, .unset, .unset, .unset, .unset, .unset, .unset] []) _ _ _
        refine Ends.go (fun _ k => XS.goto X89.here hx rfl (pc0 := 148) (pc' := 200) rfl (hb hby at_148) (by decide) (by decide) k) ?_
        show Ends p e below s T89 (mkF m 200 #[.val (.int p0), .val (.int p1), .val (.int p2), .val (.int p3), .val (.int p4), .val (.int p5), .val (.int c0), .val (.int c1), .val (.int d0), .val (.int d1), .val (.int (1 : Int32)), .val (.ref b80), .val (.ref b85), .val (.int (0 : Int32)), .unset, .unset, .unset, .unset, .unset, .unset, .unset, .unset] []) _ _ _
        exact J200 _ _ _ b80 b85 _ _ _ _ ([c0, c1] : List Int32) ([d0, d1] : List Int32) _ _ _ _ _ _ (own_mono X89 (by decide) (by decide)) e89 O89 N89 K89 ⟨(((((Eq84.ext E85).ext E86).wr W87).wr W88).keep K89c), (((((Vq84.ext E85).ext E86).other W87 (Or.inl ne_b80_b86)).other W88 (Or.inl ne_b80_b86)).keep K89c (ninS ne_b80_b85 nin0)), (((((Cq84.ext E85).ext E86).other W87 (Or.inl ne_b80_b86)).other W88 (Or.inl ne_b80_b86)).keep K89c (ninS ne_b80_b85 nin0)), (((((Aq84.ext E85).ext E86).other W87 ne_t84_b86).other W88 ne_t84_b86).keep K89c (ninS ne_t84_b85 nin0)), StrChars.Road.codOf (n := 2) rfl (fun c hc => (hp84 c hc).2), (own_up _ hp84), Nat.le_of_ble_eq_true rfl⟩ ⟨Eq89, Vq89, Cq89, Aq89, StrChars.Road.codOf (n := 2) rfl (fun c hc => (hp89 c hc).2), (own_up _ hp89), Nat.le_of_ble_eq_true rfl⟩ (Or.inr ⟨rfl, fun q => hc138_91 (by injection q with q1 q2; injection q2 with q3 q4)⟩)
    · refine Ends.go (fun _ k => XS.icmpYes X89.here hx rfl (pc0 := 131) (pc' := 145) rfl (hb hby at_131) rfl (feq hc131_90).2 (by decide) (by decide) k) ?_
      show Ends p e below s T89 (mkF m 145 #[.val (.int p0), .val (.int p1), .val (.int p2), .val (.int p3), .val (.int p4), .val (.int p5), .val (.int c0), .val (.int c1), .val (.int d0), .val (.int d1), .val (.int (1 : Int32)), .val (.ref b80), .val (.ref b85), .unset, .unset, .unset, .unset, .unset, .unset, .unset, .unset, .unset] []) _ _ _
      refine Ends.go (fun _ k => XS.iconst X89.here hx rfl (hb hby at_145) k) ?_
      show Ends p e below s T89 (mkF m 146 #[.val (.int p0), .val (.int p1), .val (.int p2), .val (.int p3), .val (.int p4), .val (.int p5), .val (.int c0), .val (.int c1), .val (.int d0), .val (.int d1), .val (.int (1 : Int32)), .val (.ref b80), .val (.ref b85), .unset, .unset, .unset, .unset, .unset, .unset, .unset, .unset, .unset] [(.int (0 : Int32))]) _ _ _
      refine Ends.go (fun _ k => XS.istore X89.here hx rfl (hb hby at_146) rfl (l' := #[.val (.int p0), .val (.int p1), .val (.int p2), .val (.int p3), .val (.int p4), .val (.int p5), .val (.int c0), .val (.int c1), .val (.int d0), .val (.int d1), .val (.int (1 : Int32)), .val (.ref b80), .val (.ref b85), .val (.int (0 : Int32)), .unset, .unset, .unset, .unset, .unset, .unset, .unset, .unset]) rfl k) ?_
      show Ends p e below s T89 (mkF m 148 #[.val (.int p0), .val (.int p1), .val (.int p2), .val (.int p3), .val (.int p4), .val (.int p5), .val (.int c0), .val (.int c1), .val (.int d0), .val (.int d1), .val (.int (1 : Int32)), .val (.ref b80), .val (.ref b85), .val (.int (0 : Int32)), .unset, .unset, .unset, .unset, .unset, .unset, .unset, .unset] []) _ _ _
      refine Ends.go (fun _ k => XS.goto X89.here hx rfl (pc0 := 148) (pc' := 200) rfl (hb hby at_148) (by decide) (by decide) k) ?_
      show Ends p e below s T89 (mkF m 200 #[.val (.int p0), .val (.int p1), .val (.int p2), .val (.int p3), .val (.int p4), .val (.int p5), .val (.int c0), .val (.int c1), .val (.int d0), .val (.int d1), .val (.int (1 : Int32)), .val (.ref b80), .val (.ref b85), .val (.int (0 : Int32)), .unset, .unset, .unset, .unset, .unset, .unset, .unset, .unset] []) _ _ _
      exact J200 _ _ _ b80 b85 _ _ _ _ ([c0, c1] : List Int32) ([d0, d1] : List Int32) _ _ _ _ _ _ (own_mono X89 (by decide) (by decide)) e89 O89 N89 K89 ⟨(((((Eq84.ext E85).ext E86).wr W87).wr W88).keep K89c), (((((Vq84.ext E85).ext E86).other W87 (Or.inl ne_b80_b86)).other W88 (Or.inl ne_b80_b86)).keep K89c (ninS ne_b80_b85 nin0)), (((((Cq84.ext E85).ext E86).other W87 (Or.inl ne_b80_b86)).other W88 (Or.inl ne_b80_b86)).keep K89c (ninS ne_b80_b85 nin0)), (((((Aq84.ext E85).ext E86).other W87 ne_t84_b86).other W88 ne_t84_b86).keep K89c (ninS ne_t84_b85 nin0)), StrChars.Road.codOf (n := 2) rfl (fun c hc => (hp84 c hc).2), (own_up _ hp84), Nat.le_of_ble_eq_true rfl⟩ ⟨Eq89, Vq89, Cq89, Aq89, StrChars.Road.codOf (n := 2) rfl (fun c hc => (hp89 c hc).2), (own_up _ hp89), Nat.le_of_ble_eq_true rfl⟩ (Or.inr ⟨rfl, fun q => hc131_90 (by injection q with q1 q2)⟩)
  · show Ends p e below s s₁ (mkF m 42 #[.val (.int p0), .val (.int p1), .val (.int p2), .val (.int p3), .val (.int p4), .val (.int p5), .val (.int c0), .val (.int c1), .val (.int d0), .val (.int d1), .unset, .unset, .unset, .unset, .unset, .unset, .unset, .unset, .unset, .unset, .unset, .unset] [(.int (2 : Int32))]) _ _ _
    refine Ends.go (fun _ k => XS.istore X0.here hx rfl (hb hby at_42) rfl (l' := #[.val (.int p0), .val (.int p1), .val (.int p2), .val (.int p3), .val (.int p4), .val (.int p5), .val (.int c0), .val (.int c1), .val (.int d0), .val (.int d1), .val (.int (2 : Int32)), .unset, .unset, .unset, .unset, .unset, .unset, .unset, .unset, .unset, .unset, .unset]) rfl k) ?_
    show Ends p e below s s₁ (mkF m 44 #[.val (.int p0), .val (.int p1), .val (.int p2), .val (.int p3), .val (.int p4), .val (.int p5), .val (.int c0), .val (.int c1), .val (.int d0), .val (.int d1), .val (.int (2 : Int32)), .unset, .unset, .unset, .unset, .unset, .unset, .unset, .unset, .unset, .unset, .unset] []) _ _ _
    obtain ⟨T92, h92, X92, e92, E92, A92, D92, -, st92⟩ := newO X0 hx hZ hown (hw _ (List.mem_of_getElem? (i := 0) rfl)) (hw _ (List.mem_of_getElem? (i := 1) rfl)) (hw _ (List.mem_of_getElem? (i := 2) rfl)) e0 (g := (mkF m 44 #[.val (.int p0), .val (.int p1), .val (.int p2), .val (.int p3), .val (.int p4), .val (.int p5), .val (.int c0), .val (.int c1), .val (.int d0), .val (.int d1), .val (.int (2 : Int32)), .unset, .unset, .unset, .unset, .unset, .unset, .unset, .unset, .unset, .unset, .unset] [])) rfl (hb hby at_44) (by decide) (by decide)
    obtain ⟨b92, g92⟩ : ∃ z, z = h0.size := ⟨_, rfl⟩
    rw [← g92] at A92 D92 st92
    refine Ends.go st92 ?_
    have g_b92 : n0 ≤ b92 := Nat.le_trans (own_old_le O0) (Nat.le_of_eq g92.symm)
    have sz_b92 : h0.size ≤ b92 := Nat.le_trans K0.1 (Nat.le_of_eq g92.symm)
    have K92 := K0.ext E92
    have O92 := O0.ext E92
    have F_coder_b92 : Fld Z h92 b92 "java/lang/String" "coder" "B" (.int (0 : Int32)) := D92 (Or.inr (hw _ (List.mem_of_getElem? (i := 27) rfl))) (ty := .byte) (by decide)
    have F_value_b92 : Fld Z h92 b92 "java/lang/String" "value" "[B" .null := D92 (Or.inr (hw _ (List.mem_of_getElem? (i := 29) rfl))) (ty := (.array .byte)) (by decide)
    show Ends p e below s T92 (mkF m 47 #[.val (.int p0), .val (.int p1), .val (.int p2), .val (.int p3), .val (.int p4), .val (.int p5), .val (.int c0), .val (.int c1), .val (.int d0), .val (.int d1), .val (.int (2 : Int32)), .unset, .unset, .unset, .unset, .unset, .unset, .unset, .unset, .unset, .unset, .unset] [(.ref b92)]) _ _ _
    refine Ends.go (fun _ k => XS.dup X92.here hx rfl (hb hby at_47) rfl rfl k) ?_
    show Ends p e below s T92 (mkF m 48 #[.val (.int p0), .val (.int p1), .val (.int p2), .val (.int p3), .val (.int p4), .val (.int p5), .val (.int c0), .val (.int c1), .val (.int d0), .val (.int d1), .val (.int (2 : Int32)), .unset, .unset, .unset, .unset, .unset, .unset, .unset, .unset, .unset, .unset, .unset] [(.ref b92), (.ref b92)]) _ _ _
    refine Ends.go (fun _ k => XS.iconst X92.here hx rfl (hb hby at_48) k) ?_
    show Ends p e below s T92 (mkF m 49 #[.val (.int p0), .val (.int p1), .val (.int p2), .val (.int p3), .val (.int p4), .val (.int p5), .val (.int c0), .val (.int c1), .val (.int d0), .val (.int d1), .val (.int (2 : Int32)), .unset, .unset, .unset, .unset, .unset, .unset, .unset, .unset, .unset, .unset, .unset] [(.int (2 : Int32)), (.ref b92), (.ref b92)]) _ _ _
    obtain ⟨T93, h93, k93, X93, e93, E93, A93, st93⟩ := newP X92 hx hZ (hw _ (List.mem_of_getElem? (i := 3) rfl)) e92 (g := (mkF m 49 #[.val (.int p0), .val (.int p1), .val (.int p2), .val (.int p3), .val (.int p4), .val (.int p5), .val (.int c0), .val (.int c1), .val (.int d0), .val (.int d1), .val (.int (2 : Int32)), .unset, .unset, .unset, .unset, .unset, .unset, .unset, .unset, .unset, .unset, .unset] [(.int (2 : Int32)), (.ref b92), (.ref b92)])) rfl (hb hby at_49) rfl (by decide) (cap := 2) (by decide) (by decide) (by decide) (by decide)
    obtain ⟨b93, g93⟩ : ∃ z, z = h92.size := ⟨_, rfl⟩
    rw [← g93] at A93 st93
    refine Ends.go st93 ?_
    have ne_b92_b93 : b92 ≠ b93 := Nat.ne_of_lt (Nat.lt_of_lt_of_le A92.lt (Nat.le_of_eq g93.symm))
    have g_b93 : n0 ≤ b93 := Nat.le_trans (own_old_le O92) (Nat.le_of_eq g93.symm)
    have sz_b93 : h0.size ≤ b93 := Nat.le_trans K92.1 (Nat.le_of_eq g93.symm)
    have K93 := K92.ext E93
    have O93 := O92.ext E93
    have V_b93 : Arv Z h93 b93 k93 .char (2 : Int32) [(.int (0 : Int32)), (.int (0 : Int32))] (.int (0 : Int32)) := (Arv.new A93 (by decide)).pad (pad_rep [] (.int (0 : Int32)) 2)
    show Ends p e below s T93 (mkF m 51 #[.val (.int p0), .val (.int p1), .val (.int p2), .val (.int p3), .val (.int p4), .val (.int p5), .val (.int c0), .val (.int c1), .val (.int d0), .val (.int d1), .val (.int (2 : Int32)), .unset, .unset, .unset, .unset, .unset, .unset, .unset, .unset, .unset, .unset, .unset] [(.ref b93), (.ref b92), (.ref b92)]) _ _ _
    refine Ends.go (fun _ k => XS.dup X93.here hx rfl (hb hby at_51) rfl rfl k) ?_
    show Ends p e below s T93 (mkF m 52 #[.val (.int p0), .val (.int p1), .val (.int p2), .val (.int p3), .val (.int p4), .val (.int p5), .val (.int c0), .val (.int c1), .val (.int d0), .val (.int d1), .val (.int (2 : Int32)), .unset, .unset, .unset, .unset, .unset, .unset, .unset, .unset, .unset, .unset, .unset] [(.ref b93), (.ref b93), (.ref b92), (.ref b92)]) _ _ _
    refine Ends.go (fun _ k => XS.iconst X93.here hx rfl (hb hby at_52) k) ?_
    show Ends p e below s T93 (mkF m 53 #[.val (.int p0), .val (.int p1), .val (.int p2), .val (.int p3), .val (.int p4), .val (.int p5), .val (.int c0), .val (.int c1), .val (.int d0), .val (.int d1), .val (.int (2 : Int32)), .unset, .unset, .unset, .unset, .unset, .unset, .unset, .unset, .unset, .unset, .unset] [(.int (0 : Int32)), (.ref b93), (.ref b93), (.ref b92), (.ref b92)]) _ _ _
    refine Ends.go (fun _ k => XS.iload X93.here hx rfl (hb hby at_53) rfl k) ?_
    show Ends p e below s T93 (mkF m 55 #[.val (.int p0), .val (.int p1), .val (.int p2), .val (.int p3), .val (.int p4), .val (.int p5), .val (.int c0), .val (.int c1), .val (.int d0), .val (.int d1), .val (.int (2 : Int32)), .unset, .unset, .unset, .unset, .unset, .unset, .unset, .unset, .unset, .unset, .unset] [(.int c0), (.int (0 : Int32)), (.ref b93), (.ref b93), (.ref b92), (.ref b92)]) _ _ _
    obtain ⟨cl94, Ar94, q94, S94, M94, H94, G94⟩ := id V_b93
    have hin94 := inb_of (j := (0 : Int32)) S94 ⟨by decide, by decide⟩
    obtain ⟨T94, h94, X94, e94, W94, st94⟩ := stC X93 hx hZ e93 Ar94 (j := (0 : Int32)) hin94 (g := (mkF m 55 #[.val (.int p0), .val (.int p1), .val (.int p2), .val (.int p3), .val (.int p4), .val (.int p5), .val (.int c0), .val (.int c1), .val (.int d0), .val (.int d1), .val (.int (2 : Int32)), .unset, .unset, .unset, .unset, .unset, .unset, .unset, .unset, .unset, .unset, .unset] [(.int c0), (.int (0 : Int32)), (.ref b93), (.ref b93), (.ref b92), (.ref b92)])) rfl rfl (hb hby at_55)
    refine Ends.go st94 ?_
    have V94 : Arv Z h94 b93 k93 .char (2 : Int32) [(.int (nar .char c0)), (.int (0 : Int32))] (.int (0 : Int32)) := Arv.set Ar94 q94 S94 M94 H94 G94 (fits_nar_char _) W94 0 rfl (Nat.le_of_ble_eq_true rfl)
    rw [own_narc hc0] at V94
    have K94 := K93.wr W94 (Or.inr sz_b93)
    have O94 := O93.wr W94 g_b93
    have N94 := Fr.snoc X94 N0 g_b93
    show Ends p e below s T94 (mkF m 56 #[.val (.int p0), .val (.int p1), .val (.int p2), .val (.int p3), .val (.int p4), .val (.int p5), .val (.int c0), .val (.int c1), .val (.int d0), .val (.int d1), .val (.int (2 : Int32)), .unset, .unset, .unset, .unset, .unset, .unset, .unset, .unset, .unset, .unset, .unset] [(.ref b93), (.ref b92), (.ref b92)]) _ _ _
    refine Ends.go (fun _ k => XS.dup X94.here hx rfl (hb hby at_56) rfl rfl k) ?_
    show Ends p e below s T94 (mkF m 57 #[.val (.int p0), .val (.int p1), .val (.int p2), .val (.int p3), .val (.int p4), .val (.int p5), .val (.int c0), .val (.int c1), .val (.int d0), .val (.int d1), .val (.int (2 : Int32)), .unset, .unset, .unset, .unset, .unset, .unset, .unset, .unset, .unset, .unset, .unset] [(.ref b93), (.ref b93), (.ref b92), (.ref b92)]) _ _ _
    refine Ends.go (fun _ k => XS.iconst X94.here hx rfl (hb hby at_57) k) ?_
    show Ends p e below s T94 (mkF m 58 #[.val (.int p0), .val (.int p1), .val (.int p2), .val (.int p3), .val (.int p4), .val (.int p5), .val (.int c0), .val (.int c1), .val (.int d0), .val (.int d1), .val (.int (2 : Int32)), .unset, .unset, .unset, .unset, .unset, .unset, .unset, .unset, .unset, .unset, .unset] [(.int (1 : Int32)), (.ref b93), (.ref b93), (.ref b92), (.ref b92)]) _ _ _
    refine Ends.go (fun _ k => XS.iload X94.here hx rfl (hb hby at_58) rfl k) ?_
    show Ends p e below s T94 (mkF m 60 #[.val (.int p0), .val (.int p1), .val (.int p2), .val (.int p3), .val (.int p4), .val (.int p5), .val (.int c0), .val (.int c1), .val (.int d0), .val (.int d1), .val (.int (2 : Int32)), .unset, .unset, .unset, .unset, .unset, .unset, .unset, .unset, .unset, .unset, .unset] [(.int c1), (.int (1 : Int32)), (.ref b93), (.ref b93), (.ref b92), (.ref b92)]) _ _ _
    obtain ⟨cl95, Ar95, q95, S95, M95, H95, G95⟩ := id V94
    have hin95 := inb_of (j := (1 : Int32)) S95 ⟨by decide, by decide⟩
    obtain ⟨T95, h95, X95, e95, W95, st95⟩ := stC X94 hx hZ e94 Ar95 (j := (1 : Int32)) hin95 (g := (mkF m 60 #[.val (.int p0), .val (.int p1), .val (.int p2), .val (.int p3), .val (.int p4), .val (.int p5), .val (.int c0), .val (.int c1), .val (.int d0), .val (.int d1), .val (.int (2 : Int32)), .unset, .unset, .unset, .unset, .unset, .unset, .unset, .unset, .unset, .unset, .unset] [(.int c1), (.int (1 : Int32)), (.ref b93), (.ref b93), (.ref b92), (.ref b92)])) rfl rfl (hb hby at_60)
    refine Ends.go st95 ?_
    have V95 : Arv Z h95 b93 k93 .char (2 : Int32) [(.int c0), (.int (nar .char c1))] (.int (0 : Int32)) := Arv.set Ar95 q95 S95 M95 H95 G95 (fits_nar_char _) W95 1 rfl (Nat.le_of_ble_eq_true rfl)
    rw [own_narc hc1] at V95
    have K95 := K94.wr W95 (Or.inr sz_b93)
    have O95 := O94.wr W95 g_b93
    have N95 := Fr.snoc X95 N94 g_b93
    show Ends p e below s T95 (mkF m 61 #[.val (.int p0), .val (.int p1), .val (.int p2), .val (.int p3), .val (.int p4), .val (.int p5), .val (.int c0), .val (.int c1), .val (.int d0), .val (.int d1), .val (.int (2 : Int32)), .unset, .unset, .unset, .unset, .unset, .unset, .unset, .unset, .unset, .unset, .unset] [(.ref b93), (.ref b92), (.ref b92)]) _ _ _
    have hp96 : ∀ c ∈ ([c0, c1] : List Int32), ¬ c < 0 ∧ ¬ (255 : Int32) < c := by
      intro c hc
      simp only [List.mem_cons, List.not_mem_nil, or_false] at hc
      rcases hc with rfl | rfl
      · exact hc0
      · exact hc1
    obtain ⟨_, _, ⟨T96, L96, k96, n96⟩, -, X96, ⟨Lc96, hQ96, l96, y96, z96⟩, st96⟩ := X95.specialBack hx (y := (⟨"java/lang/String", "<init>", "([C)V"⟩ : MethodName)) rfl hown (mvT hZ (hw _ (List.mem_of_getElem? (i := 4) rfl))) (mvT hZ (hw _ (List.mem_of_getElem? (i := 5) rfl))) (mvT hZ (hw _ (List.mem_of_getElem? (i := 6) rfl))) (by decide) (StrChars.Road.backV (W := 1) hZ hws (kI := 4) (hw _ (List.mem_of_getElem? (i := 1) rfl)) (cs := ([c0, c1] : List Int32)) (bs := ([c0, c1] : List Int32).map (fun c => c.toInt8.toInt32)) (n := 2) g_b92 (own_old_le O95) (((A92.ext E93).wr W94).wr W95) (((F_value_b92.ext E93).other W94 (Or.inl ne_b92_b93)).other W95 (Or.inl ne_b92_b93)) (((F_coder_b92.ext E93).other W94 (Or.inl ne_b92_b93)).other W95 (Or.inl ne_b92_b93)) V95 (SCS.ext O95.2) P5 rfl rfl (by decide) (by decide) hp96 rfl (by decide) (by decide)) (g := (mkF m 61 #[.val (.int p0), .val (.int p1), .val (.int p2), .val (.int p3), .val (.int p4), .val (.int p5), .val (.int c0), .val (.int c1), .val (.int d0), .val (.int d1), .val (.int (2 : Int32)), .unset, .unset, .unset, .unset, .unset, .unset, .unset, .unset, .unset, .unset, .unset] [(.ref b93), (.ref b92), (.ref b92)])) rfl (by rw [hml]; rfl) (Steps.refl _) (a := b92) (argsL := [(.ref b93)]) (rest := [(.ref b92)]) (lenOf pd0_2 rfl) rfl (by show 2 * 0 + _ ≤ _; exact Nat.le_of_eq rfl) (hb hby at_61) (fun _ _ => ⟨rfl, e95, (by decide : 2 + 1 ≤ _), (by decide : 6 + 2 ≤ _)⟩)
    dsimp only [Pt.U, Pt.locs, Pt.cells, Pt.slots] at X96 l96 y96 z96 st96 hQ96
    subst l96 y96 z96
    obtain ⟨rfl, N96q, K96c, Eq96, Cq96, t96, kb96, -, ht96, ht96', Vq96, Aq96⟩ := hQ96
    have N96 := Fr.app N95 N96q
    refine Ends.go (fun _ k => st96.trans k) ?_
    have ne_b92_t96 : b92 ≠ t96 := Nat.ne_of_lt (Nat.lt_of_lt_of_le (((A92.ext E93).wr W94).wr W95).lt ht96)
    have ne_b93_t96 : b93 ≠ t96 := Nat.ne_of_lt (Nat.lt_of_lt_of_le V95.lt ht96)
    have g_t96 : n0 ≤ t96 := Nat.le_trans (own_old_le O95) ht96
    have sz_t96 : h0.size ≤ t96 := Nat.le_trans K95.1 ht96
    obtain ⟨h96, e96⟩ : ∃ z, T96.heap = z := ⟨_, rfl⟩
    rw [e96] at K96c Eq96 Cq96 Vq96 Aq96
    have K96 := K95.trans K96c (allS (Or.inr sz_b92) all0)
    have O96 := O95.keep K96c (allS g_b92 all0)
    show Ends p e below s T96 (mkF m 64 #[.val (.int p0), .val (.int p1), .val (.int p2), .val (.int p3), .val (.int p4), .val (.int p5), .val (.int c0), .val (.int c1), .val (.int d0), .val (.int d1), .val (.int (2 : Int32)), .unset, .unset, .unset, .unset, .unset, .unset, .unset, .unset, .unset, .unset, .unset] [(.ref b92)]) _ _ _
    refine Ends.go (fun _ k => XS.astore X96.here hx rfl (hb hby at_64) rfl rfl (l' := #[.val (.int p0), .val (.int p1), .val (.int p2), .val (.int p3), .val (.int p4), .val (.int p5), .val (.int c0), .val (.int c1), .val (.int d0), .val (.int d1), .val (.int (2 : Int32)), .val (.ref b92), .unset, .unset, .unset, .unset, .unset, .unset, .unset, .unset, .unset, .unset]) rfl k) ?_
    show Ends p e below s T96 (mkF m 66 #[.val (.int p0), .val (.int p1), .val (.int p2), .val (.int p3), .val (.int p4), .val (.int p5), .val (.int c0), .val (.int c1), .val (.int d0), .val (.int d1), .val (.int (2 : Int32)), .val (.ref b92), .unset, .unset, .unset, .unset, .unset, .unset, .unset, .unset, .unset, .unset] []) _ _ _
    refine Ends.go (fun _ k => XS.iload X96.here hx rfl (hb hby at_66) rfl k) ?_
    show Ends p e below s T96 (mkF m 68 #[.val (.int p0), .val (.int p1), .val (.int p2), .val (.int p3), .val (.int p4), .val (.int p5), .val (.int c0), .val (.int c1), .val (.int d0), .val (.int d1), .val (.int (2 : Int32)), .val (.ref b92), .unset, .unset, .unset, .unset, .unset, .unset, .unset, .unset, .unset, .unset] [(.int (2 : Int32))]) _ _ _
    refine Ends.go (fun _ k => XS.ifYes X96.here hx rfl (pc0 := 68) (pc' := 99) rfl (hb hby at_68) rfl ((if0 _ _).trans (feq (by decide : ¬ ((2 : Int32) = (0 : Int32)))).2) (by decide) (by decide) k) ?_
    show Ends p e below s T96 (mkF m 99 #[.val (.int p0), .val (.int p1), .val (.int p2), .val (.int p3), .val (.int p4), .val (.int p5), .val (.int c0), .val (.int c1), .val (.int d0), .val (.int d1), .val (.int (2 : Int32)), .val (.ref b92), .unset, .unset, .unset, .unset, .unset, .unset, .unset, .unset, .unset, .unset] []) _ _ _
    refine Ends.go (fun _ k => XS.iload X96.here hx rfl (hb hby at_99) rfl k) ?_
    show Ends p e below s T96 (mkF m 101 #[.val (.int p0), .val (.int p1), .val (.int p2), .val (.int p3), .val (.int p4), .val (.int p5), .val (.int c0), .val (.int c1), .val (.int d0), .val (.int d1), .val (.int (2 : Int32)), .val (.ref b92), .unset, .unset, .unset, .unset, .unset, .unset, .unset, .unset, .unset, .unset] [(.int (2 : Int32))]) _ _ _
    refine Ends.go (fun _ k => XS.iconst X96.here hx rfl (hb hby at_101) k) ?_
    show Ends p e below s T96 (mkF m 102 #[.val (.int p0), .val (.int p1), .val (.int p2), .val (.int p3), .val (.int p4), .val (.int p5), .val (.int c0), .val (.int c1), .val (.int d0), .val (.int d1), .val (.int (2 : Int32)), .val (.ref b92), .unset, .unset, .unset, .unset, .unset, .unset, .unset, .unset, .unset, .unset] [(.int (1 : Int32)), (.int (2 : Int32))]) _ _ _
    refine Ends.go (fun _ k => XS.icmpYes X96.here hx rfl (pc0 := 102) (pc' := 151) rfl (hb hby at_102) rfl (feq (by decide : ¬ ((2 : Int32) = (1 : Int32)))).2 (by decide) (by decide) k) ?_
    show Ends p e below s T96 (mkF m 151 #[.val (.int p0), .val (.int p1), .val (.int p2), .val (.int p3), .val (.int p4), .val (.int p5), .val (.int c0), .val (.int c1), .val (.int d0), .val (.int d1), .val (.int (2 : Int32)), .val (.ref b92), .unset, .unset, .unset, .unset, .unset, .unset, .unset, .unset, .unset, .unset] []) _ _ _
    refine Ends.go (fun _ k => XS.iload X96.here hx rfl (hb hby at_151) rfl k) ?_
    show Ends p e below s T96 (mkF m 153 #[.val (.int p0), .val (.int p1), .val (.int p2), .val (.int p3), .val (.int p4), .val (.int p5), .val (.int c0), .val (.int c1), .val (.int d0), .val (.int d1), .val (.int (2 : Int32)), .val (.ref b92), .unset, .unset, .unset, .unset, .unset, .unset, .unset, .unset, .unset, .unset] [(.int (2 : Int32))]) _ _ _
    refine Ends.go (fun _ k => XS.iconst X96.here hx rfl (hb hby at_153) k) ?_
    show Ends p e below s T96 (mkF m 154 #[.val (.int p0), .val (.int p1), .val (.int p2), .val (.int p3), .val (.int p4), .val (.int p5), .val (.int c0), .val (.int c1), .val (.int d0), .val (.int d1), .val (.int (2 : Int32)), .val (.ref b92), .unset, .unset, .unset, .unset, .unset, .unset, .unset, .unset, .unset, .unset] [(.int (2 : Int32)), (.int (2 : Int32))]) _ _ _
    refine Ends.go (fun _ k => XS.icmpNo X96.here hx rfl (hb hby at_154) rfl (teq (by decide : (2 : Int32) = (2 : Int32))).2 k) ?_
    show Ends p e below s T96 (mkF m 157 #[.val (.int p0), .val (.int p1), .val (.int p2), .val (.int p3), .val (.int p4), .val (.int p5), .val (.int c0), .val (.int c1), .val (.int d0), .val (.int d1), .val (.int (2 : Int32)), .val (.ref b92), .unset, .unset, .unset, .unset, .unset, .unset, .unset, .unset, .unset, .unset] []) _ _ _
    refine Ends.go (fun _ k => XS.iload X96.here hx rfl (hb hby at_157) rfl k) ?_
    show Ends p e below s T96 (mkF m 159 #[.val (.int p0), .val (.int p1), .val (.int p2), .val (.int p3), .val (.int p4), .val (.int p5), .val (.int c0), .val (.int c1), .val (.int d0), .val (.int d1), .val (.int (2 : Int32)), .val (.ref b92), .unset, .unset, .unset, .unset, .unset, .unset, .unset, .unset, .unset, .unset] [(.int c0)]) _ _ _
    obtain ⟨_, _, ⟨T97, L97, k97, n97⟩, -, X97, ⟨Lc97, hQ97, l97, y97, z97⟩, st97⟩ := Jvm.LawKit.callS X96 hx (y := (⟨"java/lang/String", "valueOf", "(C)Ljava/lang/String;"⟩ : MethodName)) hown (mvT hZ (hw _ (List.mem_of_getElem? (i := 71) rfl))) (mvT hZ (hw _ (List.mem_of_getElem? (i := 72) rfl))) (mvT hZ (hw _ (List.mem_of_getElem? (i := 2) rfl))) (mvT hZ (hw _ (List.mem_of_getElem? (i := 73) rfl))) (by decide) (own_backOf (W := 0) (rmV l Z a0 hw [] n0 h96 O96 c0 G1 SCS P5 hc0) hZ (hw _ (List.mem_of_getElem? (i := 73) rfl)) (hw _ (List.mem_of_getElem? (i := 2) rfl)) (by decide) (by decide)) (g := (mkF m 159 #[.val (.int p0), .val (.int p1), .val (.int p2), .val (.int p3), .val (.int p4), .val (.int p5), .val (.int c0), .val (.int c1), .val (.int d0), .val (.int d1), .val (.int (2 : Int32)), .val (.ref b92), .unset, .unset, .unset, .unset, .unset, .unset, .unset, .unset, .unset, .unset] [(.int c0)])) rfl (by rw [hml]; rfl) (argsL := [(.int c0)]) (rest := []) (lenOf pd0_3 rfl) rfl (by show 2 * 0 + _ ≤ _; exact Nat.le_of_eq rfl) (hb hby at_159) (fun _ _ => ⟨rfl, e96, (by decide : 3 + 2 ≤ _), (by decide : 8 + 5 ≤ _)⟩)
    dsimp only [Pt.U, Pt.locs, Pt.cells, Pt.slots] at X97 l97 y97 z97 st97 hQ97
    subst l97 y97 z97
    obtain ⟨b97, t97, kb97, rfl, N97q, hb97, ht97, hbt97, K97c, Eq97, Vq97, Cq97, Aq97⟩ := hQ97
    have N97 := Fr.app N96 N97q
    refine Ends.go st97 ?_
    have ne_b92_b97 : b92 ≠ b97 := Nat.ne_of_lt (Nat.lt_of_lt_of_le Eq96.lt hb97)
    have ne_b93_b97 : b93 ≠ b97 := Nat.ne_of_lt (Nat.lt_of_lt_of_le (V95.keep K96c (ninS (Ne.symm ne_b92_b93) nin0)).lt hb97)
    have ne_t96_b97 : t96 ≠ b97 := Nat.ne_of_lt (Nat.lt_of_lt_of_le Aq96.lt hb97)
    have g_b97 : n0 ≤ b97 := Nat.le_trans (own_old_le O96) hb97
    have sz_b97 : h0.size ≤ b97 := Nat.le_trans K96.1 hb97
    have ne_b92_t97 : b92 ≠ t97 := Nat.ne_of_lt (Nat.lt_of_lt_of_le Eq96.lt ht97)
    have ne_b93_t97 : b93 ≠ t97 := Nat.ne_of_lt (Nat.lt_of_lt_of_le (V95.keep K96c (ninS (Ne.symm ne_b92_b93) nin0)).lt ht97)
    have ne_t96_t97 : t96 ≠ t97 := Nat.ne_of_lt (Nat.lt_of_lt_of_le Aq96.lt ht97)
    have g_t97 : n0 ≤ t97 := Nat.le_trans (own_old_le O96) ht97
    have sz_t97 : h0.size ≤ t97 := Nat.le_trans K96.1 ht97
    obtain ⟨h97, e97⟩ : ∃ z, T97.heap = z := ⟨_, rfl⟩
    rw [e97] at K97c Eq97 Vq97 Cq97 Aq97
    have K97 := K96.trans K97c all0
    have O97 := O96.keep K97c all0
    show Ends p e below s T97 (mkF m 162 #[.val (.int p0), .val (.int p1), .val (.int p2), .val (.int p3), .val (.int p4), .val (.int p5), .val (.int c0), .val (.int c1), .val (.int d0), .val (.int d1), .val (.int (2 : Int32)), .val (.ref b92), .unset, .unset, .unset, .unset, .unset, .unset, .unset, .unset, .unset, .unset] [(.ref b97)]) _ _ _
    refine Ends.go (fun _ k => XS.astore X97.here hx rfl (hb hby at_162) rfl rfl (l' := #[.val (.int p0), .val (.int p1), .val (.int p2), .val (.int p3), .val (.int p4), .val (.int p5), .val (.int c0), .val (.int c1), .val (.int d0), .val (.int d1), .val (.int (2 : Int32)), .val (.ref b92), .val (.ref b97), .unset, .unset, .unset, .unset, .unset, .unset, .unset, .unset, .unset]) rfl k) ?_
    show Ends p e below s T97 (mkF m 164 #[.val (.int p0), .val (.int p1), .val (.int p2), .val (.int p3), .val (.int p4), .val (.int p5), .val (.int c0), .val (.int c1), .val (.int d0), .val (.int d1), .val (.int (2 : Int32)), .val (.ref b92), .val (.ref b97), .unset, .unset, .unset, .unset, .unset, .unset, .unset, .unset, .unset] []) _ _ _
    refine Ends.go (fun _ k => XS.iconst X97.here hx rfl (hb hby at_164) k) ?_
    show Ends p e below s T97 (mkF m 165 #[.val (.int p0), .val (.int p1), .val (.int p2), .val (.int p3), .val (.int p4), .val (.int p5), .val (.int c0), .val (.int c1), .val (.int d0), .val (.int d1), .val (.int (2 : Int32)), .val (.ref b92), .val (.ref b97), .unset, .unset, .unset, .unset, .unset, .unset, .unset, .unset, .unset] [(.int (0 : Int32))]) _ _ _
    refine Ends.go (fun _ k => XS.istore X97.here hx rfl (hb hby at_165) rfl (l' := #[.val (.int p0), .val (.int p1), .val (.int p2), .val (.int p3), .val (.int p4), .val (.int p5), .val (.int c0), .val (.int c1), .val (.int d0), .val (.int d1), .val (.int (2 : Int32)), .val (.ref b92), .val (.ref b97), .val (.int (0 : Int32)), .unset, .unset, .unset, .unset, .unset, .unset, .unset, .unset]) rfl k) ?_
    show Ends p e below s T97 (mkF m 167 #[.val (.int p0), .val (.int p1), .val (.int p2), .val (.int p3), .val (.int p4), .val (.int p5), .val (.int c0), .val (.int c1), .val (.int d0), .val (.int d1), .val (.int (2 : Int32)), .val (.ref b92), .val (.ref b97), .val (.int (0 : Int32)), .unset, .unset, .unset, .unset, .unset, .unset, .unset, .unset] []) _ _ _
    refine Ends.go (fun _ k => XS.goto X97.here hx rfl (pc0 := 167) (pc' := 200) rfl (hb hby at_167) (by decide) (by decide) k) ?_
    show Ends p e below s T97 (mkF m 200 #[.val (.int p0), .val (.int p1), .val (.int p2), .val (.int p3), .val (.int p4), .val (.int p5), .val (.int c0), .val (.int c1), .val (.int d0), .val (.int d1), .val (.int (2 : Int32)), .val (.ref b92), .val (.ref b97), .val (.int (0 : Int32)), .unset, .unset, .unset, .unset, .unset, .unset, .unset, .unset] []) _ _ _
    exact J200 _ _ _ b92 b97 _ _ _ _ ([c0, c1] : List Int32) ([c0] : List Int32) _ _ _ _ _ _ (own_mono X97 (by decide) (by decide)) e97 O97 N97 K97 ⟨(Eq96.keep K97c), (Vq96.keep K97c nin0), (Cq96.keep K97c nin0), (Aq96.keep K97c nin0), StrChars.Road.codOf (n := 2) rfl (fun c hc => (hp96 c hc).2), (own_up _ hp96), Nat.le_of_ble_eq_true rfl⟩ ⟨Eq97, Vq97, Cq97, Aq97, StrChars.Road.codOf (n := 1) rfl (fun c hc => ((own_one hc0) c hc).2), (own_up _ (own_one hc0)), Nat.le_of_ble_eq_true rfl⟩ (Or.inr ⟨rfl, by simp⟩)
  · show Ends p e below s s₁ (mkF m 42 #[.val (.int p0), .val (.int p1), .val (.int p2), .val (.int p3), .val (.int p4), .val (.int p5), .val (.int c0), .val (.int c1), .val (.int d0), .val (.int d1), .unset, .unset, .unset, .unset, .unset, .unset, .unset, .unset, .unset, .unset, .unset, .unset] [(.int (3 : Int32))]) _ _ _
    refine Ends.go (fun _ k => XS.istore X0.here hx rfl (hb hby at_42) rfl (l' := #[.val (.int p0), .val (.int p1), .val (.int p2), .val (.int p3), .val (.int p4), .val (.int p5), .val (.int c0), .val (.int c1), .val (.int d0), .val (.int d1), .val (.int (3 : Int32)), .unset, .unset, .unset, .unset, .unset, .unset, .unset, .unset, .unset, .unset, .unset]) rfl k) ?_
    show Ends p e below s s₁ (mkF m 44 #[.val (.int p0), .val (.int p1), .val (.int p2), .val (.int p3), .val (.int p4), .val (.int p5), .val (.int c0), .val (.int c1), .val (.int d0), .val (.int d1), .val (.int (3 : Int32)), .unset, .unset, .unset, .unset, .unset, .unset, .unset, .unset, .unset, .unset, .unset] []) _ _ _
    obtain ⟨T98, h98, X98, e98, E98, A98, D98, -, st98⟩ := newO X0 hx hZ hown (hw _ (List.mem_of_getElem? (i := 0) rfl)) (hw _ (List.mem_of_getElem? (i := 1) rfl)) (hw _ (List.mem_of_getElem? (i := 2) rfl)) e0 (g := (mkF m 44 #[.val (.int p0), .val (.int p1), .val (.int p2), .val (.int p3), .val (.int p4), .val (.int p5), .val (.int c0), .val (.int c1), .val (.int d0), .val (.int d1), .val (.int (3 : Int32)), .unset, .unset, .unset, .unset, .unset, .unset, .unset, .unset, .unset, .unset, .unset] [])) rfl (hb hby at_44) (by decide) (by decide)
    obtain ⟨b98, g98⟩ : ∃ z, z = h0.size := ⟨_, rfl⟩
    rw [← g98] at A98 D98 st98
    refine Ends.go st98 ?_
    have g_b98 : n0 ≤ b98 := Nat.le_trans (own_old_le O0) (Nat.le_of_eq g98.symm)
    have sz_b98 : h0.size ≤ b98 := Nat.le_trans K0.1 (Nat.le_of_eq g98.symm)
    have K98 := K0.ext E98
    have O98 := O0.ext E98
    have F_coder_b98 : Fld Z h98 b98 "java/lang/String" "coder" "B" (.int (0 : Int32)) := D98 (Or.inr (hw _ (List.mem_of_getElem? (i := 27) rfl))) (ty := .byte) (by decide)
    have F_value_b98 : Fld Z h98 b98 "java/lang/String" "value" "[B" .null := D98 (Or.inr (hw _ (List.mem_of_getElem? (i := 29) rfl))) (ty := (.array .byte)) (by decide)
    show Ends p e below s T98 (mkF m 47 #[.val (.int p0), .val (.int p1), .val (.int p2), .val (.int p3), .val (.int p4), .val (.int p5), .val (.int c0), .val (.int c1), .val (.int d0), .val (.int d1), .val (.int (3 : Int32)), .unset, .unset, .unset, .unset, .unset, .unset, .unset, .unset, .unset, .unset, .unset] [(.ref b98)]) _ _ _
    refine Ends.go (fun _ k => XS.dup X98.here hx rfl (hb hby at_47) rfl rfl k) ?_
    show Ends p e below s T98 (mkF m 48 #[.val (.int p0), .val (.int p1), .val (.int p2), .val (.int p3), .val (.int p4), .val (.int p5), .val (.int c0), .val (.int c1), .val (.int d0), .val (.int d1), .val (.int (3 : Int32)), .unset, .unset, .unset, .unset, .unset, .unset, .unset, .unset, .unset, .unset, .unset] [(.ref b98), (.ref b98)]) _ _ _
    refine Ends.go (fun _ k => XS.iconst X98.here hx rfl (hb hby at_48) k) ?_
    show Ends p e below s T98 (mkF m 49 #[.val (.int p0), .val (.int p1), .val (.int p2), .val (.int p3), .val (.int p4), .val (.int p5), .val (.int c0), .val (.int c1), .val (.int d0), .val (.int d1), .val (.int (3 : Int32)), .unset, .unset, .unset, .unset, .unset, .unset, .unset, .unset, .unset, .unset, .unset] [(.int (2 : Int32)), (.ref b98), (.ref b98)]) _ _ _
    obtain ⟨T99, h99, k99, X99, e99, E99, A99, st99⟩ := newP X98 hx hZ (hw _ (List.mem_of_getElem? (i := 3) rfl)) e98 (g := (mkF m 49 #[.val (.int p0), .val (.int p1), .val (.int p2), .val (.int p3), .val (.int p4), .val (.int p5), .val (.int c0), .val (.int c1), .val (.int d0), .val (.int d1), .val (.int (3 : Int32)), .unset, .unset, .unset, .unset, .unset, .unset, .unset, .unset, .unset, .unset, .unset] [(.int (2 : Int32)), (.ref b98), (.ref b98)])) rfl (hb hby at_49) rfl (by decide) (cap := 2) (by decide) (by decide) (by decide) (by decide)
    obtain ⟨b99, g99⟩ : ∃ z, z = h98.size := ⟨_, rfl⟩
    rw [← g99] at A99 st99
    refine Ends.go st99 ?_
    have ne_b98_b99 : b98 ≠ b99 := Nat.ne_of_lt (Nat.lt_of_lt_of_le A98.lt (Nat.le_of_eq g99.symm))
    have g_b99 : n0 ≤ b99 := Nat.le_trans (own_old_le O98) (Nat.le_of_eq g99.symm)
    have sz_b99 : h0.size ≤ b99 := Nat.le_trans K98.1 (Nat.le_of_eq g99.symm)
    have K99 := K98.ext E99
    have O99 := O98.ext E99
    have V_b99 : Arv Z h99 b99 k99 .char (2 : Int32) [(.int (0 : Int32)), (.int (0 : Int32))] (.int (0 : Int32)) := (Arv.new A99 (by decide)).pad (pad_rep [] (.int (0 : Int32)) 2)
    show Ends p e below s T99 (mkF m 51 #[.val (.int p0), .val (.int p1), .val (.int p2), .val (.int p3), .val (.int p4), .val (.int p5), .val (.int c0), .val (.int c1), .val (.int d0), .val (.int d1), .val (.int (3 : Int32)), .unset, .unset, .unset, .unset, .unset, .unset, .unset, .unset, .unset, .unset, .unset] [(.ref b99), (.ref b98), (.ref b98)]) _ _ _
    refine Ends.go (fun _ k => XS.dup X99.here hx rfl (hb hby at_51) rfl rfl k) ?_
    show Ends p e below s T99 (mkF m 52 #[.val (.int p0), .val (.int p1), .val (.int p2), .val (.int p3), .val (.int p4), .val (.int p5), .val (.int c0), .val (.int c1), .val (.int d0), .val (.int d1), .val (.int (3 : Int32)), .unset, .unset, .unset, .unset, .unset, .unset, .unset, .unset, .unset, .unset, .unset] [(.ref b99), (.ref b99), (.ref b98), (.ref b98)]) _ _ _
    refine Ends.go (fun _ k => XS.iconst X99.here hx rfl (hb hby at_52) k) ?_
    show Ends p e below s T99 (mkF m 53 #[.val (.int p0), .val (.int p1), .val (.int p2), .val (.int p3), .val (.int p4), .val (.int p5), .val (.int c0), .val (.int c1), .val (.int d0), .val (.int d1), .val (.int (3 : Int32)), .unset, .unset, .unset, .unset, .unset, .unset, .unset, .unset, .unset, .unset, .unset] [(.int (0 : Int32)), (.ref b99), (.ref b99), (.ref b98), (.ref b98)]) _ _ _
    refine Ends.go (fun _ k => XS.iload X99.here hx rfl (hb hby at_53) rfl k) ?_
    show Ends p e below s T99 (mkF m 55 #[.val (.int p0), .val (.int p1), .val (.int p2), .val (.int p3), .val (.int p4), .val (.int p5), .val (.int c0), .val (.int c1), .val (.int d0), .val (.int d1), .val (.int (3 : Int32)), .unset, .unset, .unset, .unset, .unset, .unset, .unset, .unset, .unset, .unset, .unset] [(.int c0), (.int (0 : Int32)), (.ref b99), (.ref b99), (.ref b98), (.ref b98)]) _ _ _
    obtain ⟨cl100, Ar100, q100, S100, M100, H100, G100⟩ := id V_b99
    have hin100 := inb_of (j := (0 : Int32)) S100 ⟨by decide, by decide⟩
    obtain ⟨T100, h100, X100, e100, W100, st100⟩ := stC X99 hx hZ e99 Ar100 (j := (0 : Int32)) hin100 (g := (mkF m 55 #[.val (.int p0), .val (.int p1), .val (.int p2), .val (.int p3), .val (.int p4), .val (.int p5), .val (.int c0), .val (.int c1), .val (.int d0), .val (.int d1), .val (.int (3 : Int32)), .unset, .unset, .unset, .unset, .unset, .unset, .unset, .unset, .unset, .unset, .unset] [(.int c0), (.int (0 : Int32)), (.ref b99), (.ref b99), (.ref b98), (.ref b98)])) rfl rfl (hb hby at_55)
    refine Ends.go st100 ?_
    have V100 : Arv Z h100 b99 k99 .char (2 : Int32) [(.int (nar .char c0)), (.int (0 : Int32))] (.int (0 : Int32)) := Arv.set Ar100 q100 S100 M100 H100 G100 (fits_nar_char _) W100 0 rfl (Nat.le_of_ble_eq_true rfl)
    rw [own_narc hc0] at V100
    have K100 := K99.wr W100 (Or.inr sz_b99)
    have O100 := O99.wr W100 g_b99
    have N100 := Fr.snoc X100 N0 g_b99
    show Ends p e below s T100 (mkF m 56 #[.val (.int p0), .val (.int p1), .val (.int p2), .val (.int p3), .val (.int p4), .val (.int p5), .val (.int c0), .val (.int c1), .val (.int d0), .val (.int d1), .val (.int (3 : Int32)), .unset, .unset, .unset, .unset, .unset, .unset, .unset, .unset, .unset, .unset, .unset] [(.ref b99), (.ref b98), (.ref b98)]) _ _ _
    refine Ends.go (fun _ k => XS.dup X100.here hx rfl (hb hby at_56) rfl rfl k) ?_
    show Ends p e below s T100 (mkF m 57 #[.val (.int p0), .val (.int p1), .val (.int p2), .val (.int p3), .val (.int p4), .val (.int p5), .val (.int c0), .val (.int c1), .val (.int d0), .val (.int d1), .val (.int (3 : Int32)), .unset, .unset, .unset, .unset, .unset, .unset, .unset, .unset, .unset, .unset, .unset] [(.ref b99), (.ref b99), (.ref b98), (.ref b98)]) _ _ _
    refine Ends.go (fun _ k => XS.iconst X100.here hx rfl (hb hby at_57) k) ?_
    show Ends p e below s T100 (mkF m 58 #[.val (.int p0), .val (.int p1), .val (.int p2), .val (.int p3), .val (.int p4), .val (.int p5), .val (.int c0), .val (.int c1), .val (.int d0), .val (.int d1), .val (.int (3 : Int32)), .unset, .unset, .unset, .unset, .unset, .unset, .unset, .unset, .unset, .unset, .unset] [(.int (1 : Int32)), (.ref b99), (.ref b99), (.ref b98), (.ref b98)]) _ _ _
    refine Ends.go (fun _ k => XS.iload X100.here hx rfl (hb hby at_58) rfl k) ?_
    show Ends p e below s T100 (mkF m 60 #[.val (.int p0), .val (.int p1), .val (.int p2), .val (.int p3), .val (.int p4), .val (.int p5), .val (.int c0), .val (.int c1), .val (.int d0), .val (.int d1), .val (.int (3 : Int32)), .unset, .unset, .unset, .unset, .unset, .unset, .unset, .unset, .unset, .unset, .unset] [(.int c1), (.int (1 : Int32)), (.ref b99), (.ref b99), (.ref b98), (.ref b98)]) _ _ _
    obtain ⟨cl101, Ar101, q101, S101, M101, H101, G101⟩ := id V100
    have hin101 := inb_of (j := (1 : Int32)) S101 ⟨by decide, by decide⟩
    obtain ⟨T101, h101, X101, e101, W101, st101⟩ := stC X100 hx hZ e100 Ar101 (j := (1 : Int32)) hin101 (g := (mkF m 60 #[.val (.int p0), .val (.int p1), .val (.int p2), .val (.int p3), .val (.int p4), .val (.int p5), .val (.int c0), .val (.int c1), .val (.int d0), .val (.int d1), .val (.int (3 : Int32)), .unset, .unset, .unset, .unset, .unset, .unset, .unset, .unset, .unset, .unset, .unset] [(.int c1), (.int (1 : Int32)), (.ref b99), (.ref b99), (.ref b98), (.ref b98)])) rfl rfl (hb hby at_60)
    refine Ends.go st101 ?_
    have V101 : Arv Z h101 b99 k99 .char (2 : Int32) [(.int c0), (.int (nar .char c1))] (.int (0 : Int32)) := Arv.set Ar101 q101 S101 M101 H101 G101 (fits_nar_char _) W101 1 rfl (Nat.le_of_ble_eq_true rfl)
    rw [own_narc hc1] at V101
    have K101 := K100.wr W101 (Or.inr sz_b99)
    have O101 := O100.wr W101 g_b99
    have N101 := Fr.snoc X101 N100 g_b99
    show Ends p e below s T101 (mkF m 61 #[.val (.int p0), .val (.int p1), .val (.int p2), .val (.int p3), .val (.int p4), .val (.int p5), .val (.int c0), .val (.int c1), .val (.int d0), .val (.int d1), .val (.int (3 : Int32)), .unset, .unset, .unset, .unset, .unset, .unset, .unset, .unset, .unset, .unset, .unset] [(.ref b99), (.ref b98), (.ref b98)]) _ _ _
    have hp102 : ∀ c ∈ ([c0, c1] : List Int32), ¬ c < 0 ∧ ¬ (255 : Int32) < c := by
      intro c hc
      simp only [List.mem_cons, List.not_mem_nil, or_false] at hc
      rcases hc with rfl | rfl
      · exact hc0
      · exact hc1
    obtain ⟨_, _, ⟨T102, L102, k102, n102⟩, -, X102, ⟨Lc102, hQ102, l102, y102, z102⟩, st102⟩ := X101.specialBack hx (y := (⟨"java/lang/String", "<init>", "([C)V"⟩ : MethodName)) rfl hown (mvT hZ (hw _ (List.mem_of_getElem? (i := 4) rfl))) (mvT hZ (hw _ (List.mem_of_getElem? (i := 5) rfl))) (mvT hZ (hw _ (List.mem_of_getElem? (i := 6) rfl))) (by decide) (StrChars.Road.backV (W := 1) hZ hws (kI := 4) (hw _ (List.mem_of_getElem? (i := 1) rfl)) (cs := ([c0, c1] : List Int32)) (bs := ([c0, c1] : List Int32).map (fun c => c.toInt8.toInt32)) (n := 2) g_b98 (own_old_le O101) (((A98.ext E99).wr W100).wr W101) (((F_value_b98.ext E99).other W100 (Or.inl ne_b98_b99)).other W101 (Or.inl ne_b98_b99)) (((F_coder_b98.ext E99).other W100 (Or.inl ne_b98_b99)).other W101 (Or.inl ne_b98_b99)) V101 (SCS.ext O101.2) P5 rfl rfl (by decide) (by decide) hp102 rfl (by decide) (by decide)) (g := (mkF m 61 #[.val (.int p0), .val (.int p1), .val (.int p2), .val (.int p3), .val (.int p4), .val (.int p5), .val (.int c0), .val (.int c1), .val (.int d0), .val (.int d1), .val (.int (3 : Int32)), .unset, .unset, .unset, .unset, .unset, .unset, .unset, .unset, .unset, .unset, .unset] [(.ref b99), (.ref b98), (.ref b98)])) rfl (by rw [hml]; rfl) (Steps.refl _) (a := b98) (argsL := [(.ref b99)]) (rest := [(.ref b98)]) (lenOf pd0_2 rfl) rfl (by show 2 * 0 + _ ≤ _; exact Nat.le_of_eq rfl) (hb hby at_61) (fun _ _ => ⟨rfl, e101, (by decide : 2 + 1 ≤ _), (by decide : 6 + 2 ≤ _)⟩)
    dsimp only [Pt.U, Pt.locs, Pt.cells, Pt.slots] at X102 l102 y102 z102 st102 hQ102
    subst l102 y102 z102
    obtain ⟨rfl, N102q, K102c, Eq102, Cq102, t102, kb102, -, ht102, ht102', Vq102, Aq102⟩ := hQ102
    have N102 := Fr.app N101 N102q
    refine Ends.go (fun _ k => st102.trans k) ?_
    have ne_b98_t102 : b98 ≠ t102 := Nat.ne_of_lt (Nat.lt_of_lt_of_le (((A98.ext E99).wr W100).wr W101).lt ht102)
    have ne_b99_t102 : b99 ≠ t102 := Nat.ne_of_lt (Nat.lt_of_lt_of_le V101.lt ht102)
    have g_t102 : n0 ≤ t102 := Nat.le_trans (own_old_le O101) ht102
    have sz_t102 : h0.size ≤ t102 := Nat.le_trans K101.1 ht102
    obtain ⟨h102, e102⟩ : ∃ z, T102.heap = z := ⟨_, rfl⟩
    rw [e102] at K102c Eq102 Cq102 Vq102 Aq102
    have K102 := K101.trans K102c (allS (Or.inr sz_b98) all0)
    have O102 := O101.keep K102c (allS g_b98 all0)
    show Ends p e below s T102 (mkF m 64 #[.val (.int p0), .val (.int p1), .val (.int p2), .val (.int p3), .val (.int p4), .val (.int p5), .val (.int c0), .val (.int c1), .val (.int d0), .val (.int d1), .val (.int (3 : Int32)), .unset, .unset, .unset, .unset, .unset, .unset, .unset, .unset, .unset, .unset, .unset] [(.ref b98)]) _ _ _
    refine Ends.go (fun _ k => XS.astore X102.here hx rfl (hb hby at_64) rfl rfl (l' := #[.val (.int p0), .val (.int p1), .val (.int p2), .val (.int p3), .val (.int p4), .val (.int p5), .val (.int c0), .val (.int c1), .val (.int d0), .val (.int d1), .val (.int (3 : Int32)), .val (.ref b98), .unset, .unset, .unset, .unset, .unset, .unset, .unset, .unset, .unset, .unset]) rfl k) ?_
    show Ends p e below s T102 (mkF m 66 #[.val (.int p0), .val (.int p1), .val (.int p2), .val (.int p3), .val (.int p4), .val (.int p5), .val (.int c0), .val (.int c1), .val (.int d0), .val (.int d1), .val (.int (3 : Int32)), .val (.ref b98), .unset, .unset, .unset, .unset, .unset, .unset, .unset, .unset, .unset, .unset] []) _ _ _
    refine Ends.go (fun _ k => XS.iload X102.here hx rfl (hb hby at_66) rfl k) ?_
    show Ends p e below s T102 (mkF m 68 #[.val (.int p0), .val (.int p1), .val (.int p2), .val (.int p3), .val (.int p4), .val (.int p5), .val (.int c0), .val (.int c1), .val (.int d0), .val (.int d1), .val (.int (3 : Int32)), .val (.ref b98), .unset, .unset, .unset, .unset, .unset, .unset, .unset, .unset, .unset, .unset] [(.int (3 : Int32))]) _ _ _
    refine Ends.go (fun _ k => XS.ifYes X102.here hx rfl (pc0 := 68) (pc' := 99) rfl (hb hby at_68) rfl ((if0 _ _).trans (feq (by decide : ¬ ((3 : Int32) = (0 : Int32)))).2) (by decide) (by decide) k) ?_
    show Ends p e below s T102 (mkF m 99 #[.val (.int p0), .val (.int p1), .val (.int p2), .val (.int p3), .val (.int p4), .val (.int p5), .val (.int c0), .val (.int c1), .val (.int d0), .val (.int d1), .val (.int (3 : Int32)), .val (.ref b98), .unset, .unset, .unset, .unset, .unset, .unset, .unset, .unset, .unset, .unset] []) _ _ _
    refine Ends.go (fun _ k => XS.iload X102.here hx rfl (hb hby at_99) rfl k) ?_
    show Ends p e below s T102 (mkF m 101 #[.val (.int p0), .val (.int p1), .val (.int p2), .val (.int p3), .val (.int p4), .val (.int p5), .val (.int c0), .val (.int c1), .val (.int d0), .val (.int d1), .val (.int (3 : Int32)), .val (.ref b98), .unset, .unset, .unset, .unset, .unset, .unset, .unset, .unset, .unset, .unset] [(.int (3 : Int32))]) _ _ _
    refine Ends.go (fun _ k => XS.iconst X102.here hx rfl (hb hby at_101) k) ?_
    show Ends p e below s T102 (mkF m 102 #[.val (.int p0), .val (.int p1), .val (.int p2), .val (.int p3), .val (.int p4), .val (.int p5), .val (.int c0), .val (.int c1), .val (.int d0), .val (.int d1), .val (.int (3 : Int32)), .val (.ref b98), .unset, .unset, .unset, .unset, .unset, .unset, .unset, .unset, .unset, .unset] [(.int (1 : Int32)), (.int (3 : Int32))]) _ _ _
    refine Ends.go (fun _ k => XS.icmpYes X102.here hx rfl (pc0 := 102) (pc' := 151) rfl (hb hby at_102) rfl (feq (by decide : ¬ ((3 : Int32) = (1 : Int32)))).2 (by decide) (by decide) k) ?_
    show Ends p e below s T102 (mkF m 151 #[.val (.int p0), .val (.int p1), .val (.int p2), .val (.int p3), .val (.int p4), .val (.int p5), .val (.int c0), .val (.int c1), .val (.int d0), .val (.int d1), .val (.int (3 : Int32)), .val (.ref b98), .unset, .unset, .unset, .unset, .unset, .unset, .unset, .unset, .unset, .unset] []) _ _ _
    refine Ends.go (fun _ k => XS.iload X102.here hx rfl (hb hby at_151) rfl k) ?_
    show Ends p e below s T102 (mkF m 153 #[.val (.int p0), .val (.int p1), .val (.int p2), .val (.int p3), .val (.int p4), .val (.int p5), .val (.int c0), .val (.int c1), .val (.int d0), .val (.int d1), .val (.int (3 : Int32)), .val (.ref b98), .unset, .unset, .unset, .unset, .unset, .unset, .unset, .unset, .unset, .unset] [(.int (3 : Int32))]) _ _ _
    refine Ends.go (fun _ k => XS.iconst X102.here hx rfl (hb hby at_153) k) ?_
    show Ends p e below s T102 (mkF m 154 #[.val (.int p0), .val (.int p1), .val (.int p2), .val (.int p3), .val (.int p4), .val (.int p5), .val (.int c0), .val (.int c1), .val (.int d0), .val (.int d1), .val (.int (3 : Int32)), .val (.ref b98), .unset, .unset, .unset, .unset, .unset, .unset, .unset, .unset, .unset, .unset] [(.int (2 : Int32)), (.int (3 : Int32))]) _ _ _
    refine Ends.go (fun _ k => XS.icmpYes X102.here hx rfl (pc0 := 154) (pc' := 170) rfl (hb hby at_154) rfl (feq (by decide : ¬ ((3 : Int32) = (2 : Int32)))).2 (by decide) (by decide) k) ?_
    show Ends p e below s T102 (mkF m 170 #[.val (.int p0), .val (.int p1), .val (.int p2), .val (.int p3), .val (.int p4), .val (.int p5), .val (.int c0), .val (.int c1), .val (.int d0), .val (.int d1), .val (.int (3 : Int32)), .val (.ref b98), .unset, .unset, .unset, .unset, .unset, .unset, .unset, .unset, .unset, .unset] []) _ _ _
    obtain ⟨T103, h103, X103, e103, E103, A103, D103, -, st103⟩ := newO X102 hx hZ hown (hw _ (List.mem_of_getElem? (i := 0) rfl)) (hw _ (List.mem_of_getElem? (i := 1) rfl)) (hw _ (List.mem_of_getElem? (i := 2) rfl)) e102 (g := (mkF m 170 #[.val (.int p0), .val (.int p1), .val (.int p2), .val (.int p3), .val (.int p4), .val (.int p5), .val (.int c0), .val (.int c1), .val (.int d0), .val (.int d1), .val (.int (3 : Int32)), .val (.ref b98), .unset, .unset, .unset, .unset, .unset, .unset, .unset, .unset, .unset, .unset] [])) rfl (hb hby at_170) (by decide) (by decide)
    obtain ⟨b103, g103⟩ : ∃ z, z = h102.size := ⟨_, rfl⟩
    rw [← g103] at A103 D103 st103
    refine Ends.go st103 ?_
    have ne_b98_b103 : b98 ≠ b103 := Nat.ne_of_lt (Nat.lt_of_lt_of_le Eq102.lt (Nat.le_of_eq g103.symm))
    have ne_b99_b103 : b99 ≠ b103 := Nat.ne_of_lt (Nat.lt_of_lt_of_le (V101.keep K102c (ninS (Ne.symm ne_b98_b99) nin0)).lt (Nat.le_of_eq g103.symm))
    have ne_t102_b103 : t102 ≠ b103 := Nat.ne_of_lt (Nat.lt_of_lt_of_le Aq102.lt (Nat.le_of_eq g103.symm))
    have g_b103 : n0 ≤ b103 := Nat.le_trans (own_old_le O102) (Nat.le_of_eq g103.symm)
    have sz_b103 : h0.size ≤ b103 := Nat.le_trans K102.1 (Nat.le_of_eq g103.symm)
    have K103 := K102.ext E103
    have O103 := O102.ext E103
    have F_coder_b103 : Fld Z h103 b103 "java/lang/String" "coder" "B" (.int (0 : Int32)) := D103 (Or.inr (hw _ (List.mem_of_getElem? (i := 27) rfl))) (ty := .byte) (by decide)
    have F_value_b103 : Fld Z h103 b103 "java/lang/String" "value" "[B" .null := D103 (Or.inr (hw _ (List.mem_of_getElem? (i := 29) rfl))) (ty := (.array .byte)) (by decide)
    show Ends p e below s T103 (mkF m 173 #[.val (.int p0), .val (.int p1), .val (.int p2), .val (.int p3), .val (.int p4), .val (.int p5), .val (.int c0), .val (.int c1), .val (.int d0), .val (.int d1), .val (.int (3 : Int32)), .val (.ref b98), .unset, .unset, .unset, .unset, .unset, .unset, .unset, .unset, .unset, .unset] [(.ref b103)]) _ _ _
    refine Ends.go (fun _ k => XS.dup X103.here hx rfl (hb hby at_173) rfl rfl k) ?_
    show Ends p e below s T103 (mkF m 174 #[.val (.int p0), .val (.int p1), .val (.int p2), .val (.int p3), .val (.int p4), .val (.int p5), .val (.int c0), .val (.int c1), .val (.int d0), .val (.int d1), .val (.int (3 : Int32)), .val (.ref b98), .unset, .unset, .unset, .unset, .unset, .unset, .unset, .unset, .unset, .unset] [(.ref b103), (.ref b103)]) _ _ _
    refine Ends.go (fun _ k => XS.iconst X103.here hx rfl (hb hby at_174) k) ?_
    show Ends p e below s T103 (mkF m 175 #[.val (.int p0), .val (.int p1), .val (.int p2), .val (.int p3), .val (.int p4), .val (.int p5), .val (.int c0), .val (.int c1), .val (.int d0), .val (.int d1), .val (.int (3 : Int32)), .val (.ref b98), .unset, .unset, .unset, .unset, .unset, .unset, .unset, .unset, .unset, .unset] [(.int (3 : Int32)), (.ref b103), (.ref b103)]) _ _ _
    obtain ⟨T104, h104, k104, X104, e104, E104, A104, st104⟩ := newP X103 hx hZ (hw _ (List.mem_of_getElem? (i := 3) rfl)) e103 (g := (mkF m 175 #[.val (.int p0), .val (.int p1), .val (.int p2), .val (.int p3), .val (.int p4), .val (.int p5), .val (.int c0), .val (.int c1), .val (.int d0), .val (.int d1), .val (.int (3 : Int32)), .val (.ref b98), .unset, .unset, .unset, .unset, .unset, .unset, .unset, .unset, .unset, .unset] [(.int (3 : Int32)), (.ref b103), (.ref b103)])) rfl (hb hby at_175) rfl (by decide) (cap := 3) (by decide) (by decide) (by decide) (by decide)
    obtain ⟨b104, g104⟩ : ∃ z, z = h103.size := ⟨_, rfl⟩
    rw [← g104] at A104 st104
    refine Ends.go st104 ?_
    have ne_b98_b104 : b98 ≠ b104 := Nat.ne_of_lt (Nat.lt_of_lt_of_le (Eq102.ext E103).lt (Nat.le_of_eq g104.symm))
    have ne_b99_b104 : b99 ≠ b104 := Nat.ne_of_lt (Nat.lt_of_lt_of_le ((V101.keep K102c (ninS (Ne.symm ne_b98_b99) nin0)).ext E103).lt (Nat.le_of_eq g104.symm))
    have ne_t102_b104 : t102 ≠ b104 := Nat.ne_of_lt (Nat.lt_of_lt_of_le (Aq102.ext E103).lt (Nat.le_of_eq g104.symm))
    have ne_b103_b104 : b103 ≠ b104 := Nat.ne_of_lt (Nat.lt_of_lt_of_le A103.lt (Nat.le_of_eq g104.symm))
    have g_b104 : n0 ≤ b104 := Nat.le_trans (own_old_le O103) (Nat.le_of_eq g104.symm)
    have sz_b104 : h0.size ≤ b104 := Nat.le_trans K103.1 (Nat.le_of_eq g104.symm)
    have K104 := K103.ext E104
    have O104 := O103.ext E104
    have V_b104 : Arv Z h104 b104 k104 .char (3 : Int32) [(.int (0 : Int32)), (.int (0 : Int32)), (.int (0 : Int32))] (.int (0 : Int32)) := (Arv.new A104 (by decide)).pad (pad_rep [] (.int (0 : Int32)) 3)
    show Ends p e below s T104 (mkF m 177 #[.val (.int p0), .val (.int p1), .val (.int p2), .val (.int p3), .val (.int p4), .val (.int p5), .val (.int c0), .val (.int c1), .val (.int d0), .val (.int d1), .val (.int (3 : Int32)), .val (.ref b98), .unset, .unset, .unset, .unset, .unset, .unset, .unset, .unset, .unset, .unset] [(.ref b104), (.ref b103), (.ref b103)]) _ _ _
    refine Ends.go (fun _ k => XS.dup X104.here hx rfl (hb hby at_177) rfl rfl k) ?_
    show Ends p e below s T104 (mkF m 178 #[.val (.int p0), .val (.int p1), .val (.int p2), .val (.int p3), .val (.int p4), .val (.int p5), .val (.int c0), .val (.int c1), .val (.int d0), .val (.int d1), .val (.int (3 : Int32)), .val (.ref b98), .unset, .unset, .unset, .unset, .unset, .unset, .unset, .unset, .unset, .unset] [(.ref b104), (.ref b104), (.ref b103), (.ref b103)]) _ _ _
    refine Ends.go (fun _ k => XS.iconst X104.here hx rfl (hb hby at_178) k) ?_
    show Ends p e below s T104 (mkF m 179 #[.val (.int p0), .val (.int p1), .val (.int p2), .val (.int p3), .val (.int p4), .val (.int p5), .val (.int c0), .val (.int c1), .val (.int d0), .val (.int d1), .val (.int (3 : Int32)), .val (.ref b98), .unset, .unset, .unset, .unset, .unset, .unset, .unset, .unset, .unset, .unset] [(.int (0 : Int32)), (.ref b104), (.ref b104), (.ref b103), (.ref b103)]) _ _ _
    refine Ends.go (fun _ k => XS.iload X104.here hx rfl (hb hby at_179) rfl k) ?_
    show Ends p e below s T104 (mkF m 181 #[.val (.int p0), .val (.int p1), .val (.int p2), .val (.int p3), .val (.int p4), .val (.int p5), .val (.int c0), .val (.int c1), .val (.int d0), .val (.int d1), .val (.int (3 : Int32)), .val (.ref b98), .unset, .unset, .unset, .unset, .unset, .unset, .unset, .unset, .unset, .unset] [(.int c0), (.int (0 : Int32)), (.ref b104), (.ref b104), (.ref b103), (.ref b103)]) _ _ _
    obtain ⟨cl105, Ar105, q105, S105, M105, H105, G105⟩ := id V_b104
    have hin105 := inb_of (j := (0 : Int32)) S105 ⟨by decide, by decide⟩
    obtain ⟨T105, h105, X105, e105, W105, st105⟩ := stC X104 hx hZ e104 Ar105 (j := (0 : Int32)) hin105 (g := (mkF m 181 #[.val (.int p0), .val (.int p1), .val (.int p2), .val (.int p3), .val (.int p4), .val (.int p5), .val (.int c0), .val (.int c1), .val (.int d0), .val (.int d1), .val (.int (3 : Int32)), .val (.ref b98), .unset, .unset, .unset, .unset, .unset, .unset, .unset, .unset, .unset, .unset] [(.int c0), (.int (0 : Int32)), (.ref b104), (.ref b104), (.ref b103), (.ref b103)])) rfl rfl (hb hby at_181)
    refine Ends.go st105 ?_
    have V105 : Arv Z h105 b104 k104 .char (3 : Int32) [(.int (nar .char c0)), (.int (0 : Int32)), (.int (0 : Int32))] (.int (0 : Int32)) := Arv.set Ar105 q105 S105 M105 H105 G105 (fits_nar_char _) W105 0 rfl (Nat.le_of_ble_eq_true rfl)
    rw [own_narc hc0] at V105
    have K105 := K104.wr W105 (Or.inr sz_b104)
    have O105 := O104.wr W105 g_b104
    have N105 := Fr.snoc X105 N102 g_b104
    show Ends p e below s T105 (mkF m 182 #[.val (.int p0), .val (.int p1), .val (.int p2), .val (.int p3), .val (.int p4), .val (.int p5), .val (.int c0), .val (.int c1), .val (.int d0), .val (.int d1), .val (.int (3 : Int32)), .val (.ref b98), .unset, .unset, .unset, .unset, .unset, .unset, .unset, .unset, .unset, .unset] [(.ref b104), (.ref b103), (.ref b103)]) _ _ _
    refine Ends.go (fun _ k => XS.dup X105.here hx rfl (hb hby at_182) rfl rfl k) ?_
    show Ends p e below s T105 (mkF m 183 #[.val (.int p0), .val (.int p1), .val (.int p2), .val (.int p3), .val (.int p4), .val (.int p5), .val (.int c0), .val (.int c1), .val (.int d0), .val (.int d1), .val (.int (3 : Int32)), .val (.ref b98), .unset, .unset, .unset, .unset, .unset, .unset, .unset, .unset, .unset, .unset] [(.ref b104), (.ref b104), (.ref b103), (.ref b103)]) _ _ _
    refine Ends.go (fun _ k => XS.iconst X105.here hx rfl (hb hby at_183) k) ?_
    show Ends p e below s T105 (mkF m 184 #[.val (.int p0), .val (.int p1), .val (.int p2), .val (.int p3), .val (.int p4), .val (.int p5), .val (.int c0), .val (.int c1), .val (.int d0), .val (.int d1), .val (.int (3 : Int32)), .val (.ref b98), .unset, .unset, .unset, .unset, .unset, .unset, .unset, .unset, .unset, .unset] [(.int (1 : Int32)), (.ref b104), (.ref b104), (.ref b103), (.ref b103)]) _ _ _
    refine Ends.go (fun _ k => XS.iload X105.here hx rfl (hb hby at_184) rfl k) ?_
    show Ends p e below s T105 (mkF m 186 #[.val (.int p0), .val (.int p1), .val (.int p2), .val (.int p3), .val (.int p4), .val (.int p5), .val (.int c0), .val (.int c1), .val (.int d0), .val (.int d1), .val (.int (3 : Int32)), .val (.ref b98), .unset, .unset, .unset, .unset, .unset, .unset, .unset, .unset, .unset, .unset] [(.int c1), (.int (1 : Int32)), (.ref b104), (.ref b104), (.ref b103), (.ref b103)]) _ _ _
    obtain ⟨cl106, Ar106, q106, S106, M106, H106, G106⟩ := id V105
    have hin106 := inb_of (j := (1 : Int32)) S106 ⟨by decide, by decide⟩
    obtain ⟨T106, h106, X106, e106, W106, st106⟩ := stC X105 hx hZ e105 Ar106 (j := (1 : Int32)) hin106 (g := (mkF m 186 #[.val (.int p0), .val (.int p1), .val (.int p2), .val (.int p3), .val (.int p4), .val (.int p5), .val (.int c0), .val (.int c1), .val (.int d0), .val (.int d1), .val (.int (3 : Int32)), .val (.ref b98), .unset, .unset, .unset, .unset, .unset, .unset, .unset, .unset, .unset, .unset] [(.int c1), (.int (1 : Int32)), (.ref b104), (.ref b104), (.ref b103), (.ref b103)])) rfl rfl (hb hby at_186)
    refine Ends.go st106 ?_
    have V106 : Arv Z h106 b104 k104 .char (3 : Int32) [(.int c0), (.int (nar .char c1)), (.int (0 : Int32))] (.int (0 : Int32)) := Arv.set Ar106 q106 S106 M106 H106 G106 (fits_nar_char _) W106 1 rfl (Nat.le_of_ble_eq_true rfl)
    rw [own_narc hc1] at V106
    have K106 := K105.wr W106 (Or.inr sz_b104)
    have O106 := O105.wr W106 g_b104
    have N106 := Fr.snoc X106 N105 g_b104
    show Ends p e below s T106 (mkF m 187 #[.val (.int p0), .val (.int p1), .val (.int p2), .val (.int p3), .val (.int p4), .val (.int p5), .val (.int c0), .val (.int c1), .val (.int d0), .val (.int d1), .val (.int (3 : Int32)), .val (.ref b98), .unset, .unset, .unset, .unset, .unset, .unset, .unset, .unset, .unset, .unset] [(.ref b104), (.ref b103), (.ref b103)]) _ _ _
    refine Ends.go (fun _ k => XS.dup X106.here hx rfl (hb hby at_187) rfl rfl k) ?_
    show Ends p e below s T106 (mkF m 188 #[.val (.int p0), .val (.int p1), .val (.int p2), .val (.int p3), .val (.int p4), .val (.int p5), .val (.int c0), .val (.int c1), .val (.int d0), .val (.int d1), .val (.int (3 : Int32)), .val (.ref b98), .unset, .unset, .unset, .unset, .unset, .unset, .unset, .unset, .unset, .unset] [(.ref b104), (.ref b104), (.ref b103), (.ref b103)]) _ _ _
    refine Ends.go (fun _ k => XS.iconst X106.here hx rfl (hb hby at_188) k) ?_
    show Ends p e below s T106 (mkF m 189 #[.val (.int p0), .val (.int p1), .val (.int p2), .val (.int p3), .val (.int p4), .val (.int p5), .val (.int c0), .val (.int c1), .val (.int d0), .val (.int d1), .val (.int (3 : Int32)), .val (.ref b98), .unset, .unset, .unset, .unset, .unset, .unset, .unset, .unset, .unset, .unset] [(.int (2 : Int32)), (.ref b104), (.ref b104), (.ref b103), (.ref b103)]) _ _ _
    refine Ends.go (fun _ k => XS.iload X106.here hx rfl (hb hby at_189) rfl k) ?_
    show Ends p e below s T106 (mkF m 191 #[.val (.int p0), .val (.int p1), .val (.int p2), .val (.int p3), .val (.int p4), .val (.int p5), .val (.int c0), .val (.int c1), .val (.int d0), .val (.int d1), .val (.int (3 : Int32)), .val (.ref b98), .unset, .unset, .unset, .unset, .unset, .unset, .unset, .unset, .unset, .unset] [(.int d0), (.int (2 : Int32)), (.ref b104), (.ref b104), (.ref b103), (.ref b103)]) _ _ _
    obtain ⟨cl107, Ar107, q107, S107, M107, H107, G107⟩ := id V106
    have hin107 := inb_of (j := (2 : Int32)) S107 ⟨by decide, by decide⟩
    obtain ⟨T107, h107, X107, e107, W107, st107⟩ := stC X106 hx hZ e106 Ar107 (j := (2 : Int32)) hin107 (g := (mkF m 191 #[.val (.int p0), .val (.int p1), .val (.int p2), .val (.int p3), .val (.int p4), .val (.int p5), .val (.int c0), .val (.int c1), .val (.int d0), .val (.int d1), .val (.int (3 : Int32)), .val (.ref b98), .unset, .unset, .unset, .unset, .unset, .unset, .unset, .unset, .unset, .unset] [(.int d0), (.int (2 : Int32)), (.ref b104), (.ref b104), (.ref b103), (.ref b103)])) rfl rfl (hb hby at_191)
    refine Ends.go st107 ?_
    have V107 : Arv Z h107 b104 k104 .char (3 : Int32) [(.int c0), (.int c1), (.int (nar .char d0))] (.int (0 : Int32)) := Arv.set Ar107 q107 S107 M107 H107 G107 (fits_nar_char _) W107 2 rfl (Nat.le_of_ble_eq_true rfl)
    rw [own_narc hd0] at V107
    have K107 := K106.wr W107 (Or.inr sz_b104)
    have O107 := O106.wr W107 g_b104
    have N107 := Fr.snoc X107 N106 g_b104
    show Ends p e below s T107 (mkF m 192 #[.val (.int p0), .val (.int p1), .val (.int p2), .val (.int p3), .val (.int p4), .val (.int p5), .val (.int c0), .val (.int c1), .val (.int d0), .val (.int d1), .val (.int (3 : Int32)), .val (.ref b98), .unset, .unset, .unset, .unset, .unset, .unset, .unset, .unset, .unset, .unset] [(.ref b104), (.ref b103), (.ref b103)]) _ _ _
    have hp108 : ∀ c ∈ ([c0, c1, d0] : List Int32), ¬ c < 0 ∧ ¬ (255 : Int32) < c := by
      intro c hc
      simp only [List.mem_cons, List.not_mem_nil, or_false] at hc
      rcases hc with rfl | rfl | rfl
      · exact hc0
      · exact hc1
      · exact hd0
    obtain ⟨_, _, ⟨T108, L108, k108, n108⟩, -, X108, ⟨Lc108, hQ108, l108, y108, z108⟩, st108⟩ := X107.specialBack hx (y := (⟨"java/lang/String", "<init>", "([C)V"⟩ : MethodName)) rfl hown (mvT hZ (hw _ (List.mem_of_getElem? (i := 4) rfl))) (mvT hZ (hw _ (List.mem_of_getElem? (i := 5) rfl))) (mvT hZ (hw _ (List.mem_of_getElem? (i := 6) rfl))) (by decide) (StrChars.Road.backV (W := 1) hZ hws (kI := 4) (hw _ (List.mem_of_getElem? (i := 1) rfl)) (cs := ([c0, c1, d0] : List Int32)) (bs := ([c0, c1, d0] : List Int32).map (fun c => c.toInt8.toInt32)) (n := 3) g_b103 (own_old_le O107) ((((A103.ext E104).wr W105).wr W106).wr W107) ((((F_value_b103.ext E104).other W105 (Or.inl ne_b103_b104)).other W106 (Or.inl ne_b103_b104)).other W107 (Or.inl ne_b103_b104)) ((((F_coder_b103.ext E104).other W105 (Or.inl ne_b103_b104)).other W106 (Or.inl ne_b103_b104)).other W107 (Or.inl ne_b103_b104)) V107 (SCS.ext O107.2) P5 rfl rfl (by decide) (by decide) hp108 rfl (by decide) (by decide)) (g := (mkF m 192 #[.val (.int p0), .val (.int p1), .val (.int p2), .val (.int p3), .val (.int p4), .val (.int p5), .val (.int c0), .val (.int c1), .val (.int d0), .val (.int d1), .val (.int (3 : Int32)), .val (.ref b98), .unset, .unset, .unset, .unset, .unset, .unset, .unset, .unset, .unset, .unset] [(.ref b104), (.ref b103), (.ref b103)])) rfl (by rw [hml]; rfl) (Steps.refl _) (a := b103) (argsL := [(.ref b104)]) (rest := [(.ref b103)]) (lenOf pd0_2 rfl) rfl (by show 2 * 0 + _ ≤ _; exact Nat.le_of_eq rfl) (hb hby at_192) (fun _ _ => ⟨rfl, e107, (by decide : 5 + 1 ≤ _), (by decide : 15 + 3 ≤ _)⟩)
    dsimp only [Pt.U, Pt.locs, Pt.cells, Pt.slots] at X108 l108 y108 z108 st108 hQ108
    subst l108 y108 z108
    obtain ⟨rfl, N108q, K108c, Eq108, Cq108, t108, kb108, -, ht108, ht108', Vq108, Aq108⟩ := hQ108
    have N108 := Fr.app N107 N108q
    refine Ends.go (fun _ k => st108.trans k) ?_
    have ne_b98_t108 : b98 ≠ t108 := Nat.ne_of_lt (Nat.lt_of_lt_of_le (((((Eq102.ext E103).ext E104).wr W105).wr W106).wr W107).lt ht108)
    have ne_b99_t108 : b99 ≠ t108 := Nat.ne_of_lt (Nat.lt_of_lt_of_le ((((((V101.keep K102c (ninS (Ne.symm ne_b98_b99) nin0)).ext E103).ext E104).other W105 ne_b99_b104).other W106 ne_b99_b104).other W107 ne_b99_b104).lt ht108)
    have ne_t102_t108 : t102 ≠ t108 := Nat.ne_of_lt (Nat.lt_of_lt_of_le (((((Aq102.ext E103).ext E104).other W105 ne_t102_b104).other W106 ne_t102_b104).other W107 ne_t102_b104).lt ht108)
    have ne_b103_t108 : b103 ≠ t108 := Nat.ne_of_lt (Nat.lt_of_lt_of_le ((((A103.ext E104).wr W105).wr W106).wr W107).lt ht108)
    have ne_b104_t108 : b104 ≠ t108 := Nat.ne_of_lt (Nat.lt_of_lt_of_le V107.lt ht108)
    have g_t108 : n0 ≤ t108 := Nat.le_trans (own_old_le O107) ht108
    have sz_t108 : h0.size ≤ t108 := Nat.le_trans K107.1 ht108
    obtain ⟨h108, e108⟩ : ∃ z, T108.heap = z := ⟨_, rfl⟩
    rw [e108] at K108c Eq108 Cq108 Vq108 Aq108
    have K108 := K107.trans K108c (allS (Or.inr sz_b103) all0)
    have O108 := O107.keep K108c (allS g_b103 all0)
    show Ends p e below s T108 (mkF m 195 #[.val (.int p0), .val (.int p1), .val (.int p2), .val (.int p3), .val (.int p4), .val (.int p5), .val (.int c0), .val (.int c1), .val (.int d0), .val (.int d1), .val (.int (3 : Int32)), .val (.ref b98), .unset, .unset, .unset, .unset, .unset, .unset, .unset, .unset, .unset, .unset] [(.ref b103)]) _ _ _
    refine Ends.go (fun _ k => XS.astore X108.here hx rfl (hb hby at_195) rfl rfl (l' := #[.val (.int p0), .val (.int p1), .val (.int p2), .val (.int p3), .val (.int p4), .val (.int p5), .val (.int c0), .val (.int c1), .val (.int d0), .val (.int d1), .val (.int (3 : Int32)), .val (.ref b98), .val (.ref b103), .unset, .unset, .unset, .unset, .unset, .unset, .unset, .unset, .unset]) rfl k) ?_
    show Ends p e below s T108 (mkF m 197 #[.val (.int p0), .val (.int p1), .val (.int p2), .val (.int p3), .val (.int p4), .val (.int p5), .val (.int c0), .val (.int c1), .val (.int d0), .val (.int d1), .val (.int (3 : Int32)), .val (.ref b98), .val (.ref b103), .unset, .unset, .unset, .unset, .unset, .unset, .unset, .unset, .unset] []) _ _ _
    refine Ends.go (fun _ k => XS.iconst X108.here hx rfl (hb hby at_197) k) ?_
    show Ends p e below s T108 (mkF m 198 #[.val (.int p0), .val (.int p1), .val (.int p2), .val (.int p3), .val (.int p4), .val (.int p5), .val (.int c0), .val (.int c1), .val (.int d0), .val (.int d1), .val (.int (3 : Int32)), .val (.ref b98), .val (.ref b103), .unset, .unset, .unset, .unset, .unset, .unset, .unset, .unset, .unset] [(.int (0 : Int32))]) _ _ _
    refine Ends.go (fun _ k => XS.istore X108.here hx rfl (hb hby at_198) rfl (l' := #[.val (.int p0), .val (.int p1), .val (.int p2), .val (.int p3), .val (.int p4), .val (.int p5), .val (.int c0), .val (.int c1), .val (.int d0), .val (.int d1), .val (.int (3 : Int32)), .val (.ref b98), .val (.ref b103), .val (.int (0 : Int32)), .unset, .unset, .unset, .unset, .unset, .unset, .unset, .unset]) rfl k) ?_
    show Ends p e below s T108 (mkF m 200 #[.val (.int p0), .val (.int p1), .val (.int p2), .val (.int p3), .val (.int p4), .val (.int p5), .val (.int c0), .val (.int c1), .val (.int d0), .val (.int d1), .val (.int (3 : Int32)), .val (.ref b98), .val (.ref b103), .val (.int (0 : Int32)), .unset, .unset, .unset, .unset, .unset, .unset, .unset, .unset] []) _ _ _
    exact J200 _ _ _ b98 b103 _ _ _ _ ([c0, c1] : List Int32) ([c0, c1, d0] : List Int32) _ _ _ _ _ _ (own_mono X108 (by decide) (by decide)) e108 O108 N108 K108 ⟨((((((Eq102.ext E103).ext E104).wr W105).wr W106).wr W107).keep K108c), ((((((Vq102.ext E103).ext E104).other W105 (Or.inl ne_b98_b104)).other W106 (Or.inl ne_b98_b104)).other W107 (Or.inl ne_b98_b104)).keep K108c (ninS ne_b98_b103 nin0)), ((((((Cq102.ext E103).ext E104).other W105 (Or.inl ne_b98_b104)).other W106 (Or.inl ne_b98_b104)).other W107 (Or.inl ne_b98_b104)).keep K108c (ninS ne_b98_b103 nin0)), ((((((Aq102.ext E103).ext E104).other W105 ne_t102_b104).other W106 ne_t102_b104).other W107 ne_t102_b104).keep K108c (ninS ne_t102_b103 nin0)), StrChars.Road.codOf (n := 2) rfl (fun c hc => (hp102 c hc).2), (own_up _ hp102), Nat.le_of_ble_eq_true rfl⟩ ⟨Eq108, Vq108, Cq108, Aq108, StrChars.Road.codOf (n := 3) rfl (fun c hc => (hp108 c hc).2), (own_up _ hp108), Nat.le_of_ble_eq_true rfl⟩ (Or.inr ⟨rfl, by simp⟩)
set_option maxRecDepth 65536 in
set_option maxHeartbeats 40000000 in
theorem comes_1 {Post : Tables → Env → Array Value → State → Outcome → State → Prop} (hpost : ∀ tb e args s v u, (limb_1_1.after args s (.returned v) u = true ∧ limb_1_2.after args s (.returned v) u = true ∧ True) → FrameEnd s (.returned v) u (Jvm.fieldLocs frame_1_writes args s ++ Jvm.arrayLocs frame_1_arrays args s ++ Jvm.staticLocs frame_1_statics s) 32 192 → Post tb e args s (.returned v) u) :
    ArmFor flags0 classFile x code maxLocals ret World_1 tables_1 room_1 Calls_1 rest_1 Pre_1 Post := by
  intro l hfl _ _ p e ha hc hk s m args below hf hA hF happ hP
  obtain ⟨hcalls, hrest, hpre⟩ := hP
  obtain ⟨-, -, -, hnamed, -, -, -, hat⟩ := (Spec.applies_iff hf).mp happ
  obtain ⟨hg, hn⟩ := and_e (Cond.before_iff.mp (show (Jvm.Cond.and given_1 narrow_1).before args s = true from hpre))
  obtain ⟨g0a, g0b⟩ := and_e hg
  obtain ⟨g1a, g1b⟩ := and_e g0b
  obtain ⟨g2a, g2b⟩ := and_e g1b
  obtain ⟨g3a, g3b⟩ := and_e g2b
  obtain ⟨g4a, g4b⟩ := and_e g3b
  obtain ⟨g5a, g5b⟩ := and_e g4b
  obtain ⟨w0, w1, w2, w3, w4, w5, rfl⟩ : ∃ w0 w1 w2 w3 w4 w5 : Value, args = #[w0, w1, w2, w3, w4, w5] := by
    have hs : args.size = 6 := by simpa [Cond.value, given_1] using g0a
    obtain ⟨L⟩ := args
    match L, hs with
    | [w0, w1, w2, w3, w4, w5], _ => exact ⟨w0, w1, w2, w3, w4, w5, rfl⟩
  have hw := fun d (hd : d ∈ tables_1) => atoms_spec (ws := Jvm.Cond.code x code maxLocals ret :: tables_1) hat d (List.mem_cons_of_mem _ hd)
  have hfit : Fit s := fun {y c} hc i hi => by
    obtain ⟨ha, rfl⟩ := Array.getElem?_eq_some_iff.mp hc
    have q := List.all_eq_true.mp ((Array.all_eq_true_iff_forall_mem.mp hF) _ (Array.getElem_mem ha)) i (List.mem_range.mpr hi)
    simpa [Array.getElem?_eq_getElem hi] using q
  obtain ⟨hsets, hown0⟩ := atoms_of _ (rest_1_c_eq ▸ (show rest_1_c.before _ s = true from hrest))
  have hr0 := Cond.before_iff.mp hown0
  obtain ⟨i0, ei0⟩ := is_v g1a
  obtain rfl : w0 = (.int i0) := Option.some.inj ei0
  obtain ⟨i1, ei1⟩ := is_v g2a
  obtain rfl : w1 = (.int i1) := Option.some.inj ei1
  obtain ⟨i2, ei2⟩ := is_v g3a
  obtain rfl : w2 = (.int i2) := Option.some.inj ei2
  obtain ⟨i3, ei3⟩ := is_v g4a
  obtain rfl : w3 = (.int i3) := Option.some.inj ei3
  obtain ⟨i4, ei4⟩ := is_v g5a
  obtain rfl : w4 = (.int i4) := Option.some.inj ei4
  obtain ⟨i5, ei5⟩ := is_v g5b
  obtain rfl : w5 = (.int i5) := Option.some.inj ei5
  obtain ⟨G1, ev1⟩ := is_v (Cond.before_iff.mp (hsets _ (List.mem_of_getElem? (i := 1) rfl)))
  have SCS := Sta.start ev1 (Or.inl (hsets _ (List.mem_of_getElem? (i := 0) rfl)))
  have P5 : ¬ G1 = (0 : Int32) := gotF (Cond.eq_ints ev1 rfl) (not_v (Cond.before_iff.mp (hsets _ (List.mem_of_getElem? (i := 2) rfl))))
  obtain ⟨n, o, h1, h2, h3, _, L, rfl, ⟨rfl, N⟩, hq⟩ := rm0 l s _ hw tables_1 s.heap.size s.heap (Old.start s) i0 i1 i2 i3 i4 i5 G1 SCS P5 p e ha hc hk s m _ below hf ((Spec.applies_iff_loose hf).mp happ).1 ⟨rfl, State.Warmed39.refl s, rfl⟩ trivial
  refine ⟨n, _, h1, h2, h3, hpost _ _ _ _ _ _ ⟨Cond.after_iff.mpr rfl, Cond.after_iff.mpr (eq_i res_at (Term.int_eval (1)) rfl), trivial⟩ ⟨hq.1, hq.2.1, (hq.2.2.sift fun y hy => Or.inr (N y hy)).mono (by decide) (by decide)⟩⟩
theorem main_1_1 : Claimed_1_1 := comes_1 fun _ _ _ _ _ _ h hF => ⟨h.1, hF⟩
theorem main_1_2 : Claimed_1_2 := comes_1 fun _ _ _ _ _ _ h hF => ⟨h.2.1, hF⟩
end Jvm.Pilot.@@N@@
namespace Jvm.Pilot.@@N@@
open Jvm Jvm.ClassFile Sem Op Lib Jvm.Free Jvm.Stand Jvm.Pilot.@@N@@.Jvm.D
/-! MADE BY PROGRAM (witnessworld.py) out of the Statement's table words and the real class files: 20 classes; the members and pool entries that the words name. The judged class is class 1, her method 1. -/
namespace start1
open Jvm.ClassFile
def u (s : String) : CpInfo := .utf8 (stringToUtf16 s)
/-- a pool by its gaps: so many unusable entries, then the entry; so many at the end -/
def gap : Nat → List CpInfo → List CpInfo
  | 0, r => r
  | n + 1, r => .unusable :: gap n r
def poolList (es : List (Nat × CpInfo)) (last : Nat) : List CpInfo := es.foldr (fun e r => gap e.1 (e.2 :: r)) (gap last [])
def pool (es : List (Nat × CpInfo)) (last : Nat) : Array CpInfo := ⟨poolList es last⟩
def fileOf (pool : Array CpInfo) (this : Nat) (attrs : Array Attribute := #[]) (ms : Array MethodInfo := #[]) (fl : Nat := 33) (sup : Nat := 0) (ifs : Array Nat := #[]) (fds : Array FieldInfo := #[]) : ClassFile where
  minorVersion := 0
  majorVersion := 65
  constantPool := pool
  accessFlags := fl
  thisClass := this
  superClass := sup
  interfaces := ifs
  fields := fds
  methods := ms
  attributes := attrs
def plain (name : String) (sup : Option ClassId) : Class where
  name := name
  kind := .ordinary
  loader := none
  accessFlags := 33
  super := sup
  interfaces := #[]
  cf := none
  fields := #[]
  methods := #[]
  instanceTypes := #[]
  staticTypes := #[]
  resolved := #[]
  callSites := []
  init := .initialized
  statics := none
  mirror := none

def pool0 : Array CpInfo := pool [(5, u "<init>"), (0, u "()V"), (1, .class_ 10), (1, u "java/lang/Object")] 113

def k0c0 : Code := { maxStack := 0, maxLocals := 1, code := object_method_1_code, exceptionTable := #[], attributes := #[] }
def k0m0 : Method := { name := "<init>", desc := "()V", sig := { parameters := [], returnType := none }, accessFlags := 1, code := some k0c0 }
/-- java/lang/Object -/
def k0 : Class := { plain "java/lang/Object" none with
  accessFlags := 33
  interfaces := #[]
  cf := some (fileOf pool0 8 #[] #[{ accessFlags := 1, nameIndex := 5, descriptorIndex := 6, attributes := #[] }] 33 0 #[] #[])
  fields := #[]
  methods := #[k0m0]
  instanceTypes := #[]
  staticTypes := #[]
  resolved := Array.replicate 124 none
  statics := none }

def pool1 : Array CpInfo := pool [(2, .class_ 4), (1, u "java/lang/Object"), (0, u "<init>"), (0, u "()V"), (0, .class_ 8), (0, u "java/lang/String"), (0, .methodref 7 10), (0, .nameAndType 5 11), (0, u "([C)V"), (0, .methodref 7 13), (0, .nameAndType 14 15), (0, u "valueOf"), (0, u "(C)Ljava/lang/String;"), (0, .class_ 17), (0, u "com/example/authority/authority/UriReference"), (0, .methodref 16 19), (0, .nameAndType 5 20), (0, u "(Ljava/lang/String;IIIIII)V"), (0, .methodref 16 22), (0, .nameAndType 23 24), (0, u "equals"), (0, u "(Ljava/lang/Object;)Z"), (0, .class_ 26), (0, u "com/example/authority/authority/UriReferenceEqualsPinLaw"), (2, u "law"), (0, u "(IIIIII)Z")] 5

def k1m0 : Method := { name := "<init>", desc := "()V", sig := { parameters := [], returnType := none }, accessFlags := 1, code := none }
def k1c1 : Code := { maxStack := 10, maxLocals := 22, code := code, exceptionTable := #[], attributes := #[] }
def k1m1 : Method := { name := "law", desc := "(IIIIII)Z", sig := { parameters := [.int, .int, .int, .int, .int, .int], returnType := some .boolean }, accessFlags := 9, code := some k1c1 }
/-- com/example/authority/authority/UriReferenceEqualsPinLaw -/
def k1 : Class := { plain "com/example/authority/authority/UriReferenceEqualsPinLaw" (some 0) with
  accessFlags := 49
  interfaces := #[]
  cf := some (fileOf pool1 25 #[] #[{ accessFlags := 1, nameIndex := 5, descriptorIndex := 6, attributes := #[] }, { accessFlags := 9, nameIndex := 29, descriptorIndex := 30, attributes := #[] }] 49 2 #[] #[])
  fields := #[]
  methods := #[k1m0, k1m1]
  instanceTypes := #[]
  staticTypes := #[]
  resolved := Array.replicate 36 none
  statics := none }

def pool2 : Array CpInfo := pool [(1, .class_ 2), (0, u "java/io/Serializable"), (0, .class_ 4), (0, u "java/lang/Object")] 2

/-- java/io/Serializable -/
def k2 : Class := { plain "java/io/Serializable" (some 0) with
  accessFlags := 1537
  interfaces := #[]
  cf := some (fileOf pool2 1 #[] #[] 1537 3 #[] #[])
  fields := #[]
  methods := #[]
  instanceTypes := #[]
  staticTypes := #[]
  resolved := Array.replicate 7 none
  statics := none }

def pool3 : Array CpInfo := pool [(1, .class_ 2), (0, u "java/lang/Comparable"), (0, .class_ 4), (0, u "java/lang/Object")] 7

/-- java/lang/Comparable -/
def k3 : Class := { plain "java/lang/Comparable" (some 0) with
  accessFlags := 1537
  interfaces := #[]
  cf := some (fileOf pool3 1 #[] #[] 1537 3 #[] #[])
  fields := #[]
  methods := #[]
  instanceTypes := #[]
  staticTypes := #[]
  resolved := Array.replicate 12 none
  statics := none }

def pool4 : Array CpInfo := pool [(2, .class_ 4), (1, u "java/lang/CharSequence"), (42, .class_ 48), (0, u "java/lang/CharSequence$1CodePointIterator"), (10, .class_ 60), (0, u "java/lang/CharSequence$1CharIterator"), (5, .class_ 67), (0, u "java/lang/Object")] 63

/-- java/lang/CharSequence -/
def k4 : Class := { plain "java/lang/CharSequence" (some 0) with
  accessFlags := 1537
  interfaces := #[]
  cf := some (fileOf pool4 2 #[.nestMembers #[47, 59]] #[] 1537 66 #[] #[])
  fields := #[]
  methods := #[]
  instanceTypes := #[]
  staticTypes := #[]
  resolved := Array.replicate 131 none
  statics := none }

def pool5 : Array CpInfo := pool [(1, .class_ 2), (0, u "java/lang/constant/Constable"), (0, .class_ 4), (0, u "java/lang/Object")] 6

/-- java/lang/constant/Constable -/
def k5 : Class := { plain "java/lang/constant/Constable" (some 0) with
  accessFlags := 1537
  interfaces := #[]
  cf := some (fileOf pool5 1 #[] #[] 1537 3 #[] #[])
  fields := #[]
  methods := #[]
  instanceTypes := #[]
  staticTypes := #[]
  resolved := Array.replicate 11 none
  statics := none }

def pool6 : Array CpInfo := pool [(1, .class_ 2), (0, u "java/lang/constant/ConstantDesc"), (0, .class_ 4), (0, u "java/lang/Object")] 32

/-- java/lang/constant/ConstantDesc -/
def k6 : Class := { plain "java/lang/constant/ConstantDesc" (some 0) with
  accessFlags := 1537
  interfaces := #[]
  cf := some (fileOf pool6 1 #[] #[] 1537 3 #[] #[])
  fields := #[]
  methods := #[]
  instanceTypes := #[]
  staticTypes := #[]
  resolved := Array.replicate 37 none
  statics := none }

def pool7 : Array CpInfo := pool [(1, .methodref 2 3), (0, .class_ 4), (0, .nameAndType 5 6), (0, u "java/lang/Object"), (0, u "<init>"), (0, u "()V"), (2, .fieldref 10 11), (0, .class_ 12), (0, .nameAndType 13 14), (0, u "java/lang/String"), (0, u "value"), (0, u "[B"), (0, .fieldref 10 16), (0, .nameAndType 17 18), (0, u "coder"), (0, u "B"), (2, u "hash"), (0, u "I"), (2, u "hashIsZero"), (0, u "Z"), (0, .methodref 10 28), (0, .nameAndType 5 29), (0, u "([CIILjava/lang/Void;)V"), (8, .fieldref 10 39), (0, .nameAndType 40 26), (0, u "COMPACT_STRINGS"), (1, .class_ 44), (1, u "java/lang/StringUTF16"), (0, u "compress"), (1, .methodref 42 48), (0, .nameAndType 49 50), (0, u "coderFromArrayLen"), (0, u "([BI)B"), (2, u "toBytes"), (53, .class_ 109), (1, u "java/lang/StringLatin1"), (67, .methodref 42 178), (0, .nameAndType 45 179), (0, u "([CII)[B"), (29, .methodref 10 210), (0, .nameAndType 5 211), (0, u "([BB)V"), (157, u "(C)Z"), (171, .methodref 107 542), (0, .nameAndType 543 544), (0, u "equals"), (0, u "([B[B)Z"), (28, u "(Ljava/lang/Object;)Z"), (1, .class_ 576), (0, u "java/lang/CharSequence"), (22, u "CASE_INSENSITIVE_ORDER"), (0, u "Ljava/util/Comparator;"), (181, u "valueOf"), (0, u "(C)Ljava/lang/String;"), (226, u "([C)V"), (4, .methodref 107 1016), (0, .nameAndType 1017 369), (0, u "canEncode"), (0, .methodref 107 1019), (0, .nameAndType 53 1020), (0, u "(C)[B"), (80, u "serialPersistentFields"), (0, u "[Ljava/io/ObjectStreamField;"), (0, .class_ 1104), (0, u "java/lang/String$CaseInsensitiveComparator"), (1, .class_ 1107), (0, u "java/io/Serializable"), (0, .class_ 1109), (0, u "java/lang/Comparable"), (0, .class_ 1111), (0, u "java/lang/constant/Constable"), (0, .class_ 1113), (0, u "java/lang/constant/ConstantDesc"), (2, u "serialVersionUID"), (0, u "J"), (3, u "REPL"), (0, u "C"), (2, u "LATIN1"), (1, u "UTF16")] 323

def k7m0 : Method := { name := "<init>", desc := "()V", sig := { parameters := [], returnType := none }, accessFlags := 1, code := none }
def k7c1 : Code := { maxStack := 5, maxLocals := 2, code := jdk_42_method_3_code, exceptionTable := #[], attributes := #[] }
def k7m1 : Method := { name := "<init>", desc := "([C)V", sig := { parameters := [(.array .char)], returnType := none }, accessFlags := 1, code := some k7c1 }
def k7c2 : Code := { maxStack := 2, maxLocals := 3, code := jdk_42_method_66_code, exceptionTable := #[], attributes := #[] }
def k7m2 : Method := { name := "equals", desc := "(Ljava/lang/Object;)Z", sig := { parameters := [(.object "java/lang/Object")], returnType := some .boolean }, accessFlags := 1, code := some k7c2 }
def k7c3 : Code := { maxStack := 4, maxLocals := 1, code := jdk_42_method_139_code, exceptionTable := #[], attributes := #[] }
def k7m3 : Method := { name := "valueOf", desc := "(C)Ljava/lang/String;", sig := { parameters := [.char], returnType := some (.object "java/lang/String") }, accessFlags := 9, code := some k7c3 }
def k7c4 : Code := { maxStack := 4, maxLocals := 6, code := jdk_42_method_149_code, exceptionTable := #[], attributes := #[] }
def k7m4 : Method := { name := "<init>", desc := "([CIILjava/lang/Void;)V", sig := { parameters := [(.array .char), .int, .int, (.object "java/lang/Void")], returnType := none }, accessFlags := 2, code := some k7c4 }
def k7c5 : Code := { maxStack := 2, maxLocals := 3, code := jdk_42_method_151_code, exceptionTable := #[], attributes := #[] }
def k7m5 : Method := { name := "<init>", desc := "([BB)V", sig := { parameters := [(.array .byte), .byte], returnType := none }, accessFlags := 0, code := some k7c5 }
/-- java/lang/String -/
def k7 : Class := { plain "java/lang/String" (some 0) with
  accessFlags := 49
  interfaces := #[2, 3, 4, 5, 6]
  cf := some (fileOf pool7 10 #[.nestMembers #[1103]] #[{ accessFlags := 1, nameIndex := 5, descriptorIndex := 6, attributes := #[] }, { accessFlags := 1, nameIndex := 5, descriptorIndex := 1010, attributes := #[] }, { accessFlags := 1, nameIndex := 543, descriptorIndex := 573, attributes := #[] }, { accessFlags := 9, nameIndex := 782, descriptorIndex := 783, attributes := #[] }, { accessFlags := 2, nameIndex := 5, descriptorIndex := 29, attributes := #[] }, { accessFlags := 0, nameIndex := 5, descriptorIndex := 211, attributes := #[] }] 49 2 #[1106, 1108, 575, 1110, 1112] #[{ accessFlags := 18, nameIndex := 13, descriptorIndex := 14, attributes := #[] }, { accessFlags := 18, nameIndex := 17, descriptorIndex := 18, attributes := #[] }, { accessFlags := 2, nameIndex := 21, descriptorIndex := 22, attributes := #[] }, { accessFlags := 2, nameIndex := 25, descriptorIndex := 26, attributes := #[] }, { accessFlags := 26, nameIndex := 1116, descriptorIndex := 1117, attributes := #[] }, { accessFlags := 24, nameIndex := 40, descriptorIndex := 26, attributes := #[] }, { accessFlags := 26, nameIndex := 1101, descriptorIndex := 1102, attributes := #[] }, { accessFlags := 26, nameIndex := 1121, descriptorIndex := 1122, attributes := #[] }, { accessFlags := 25, nameIndex := 599, descriptorIndex := 600, attributes := #[] }, { accessFlags := 24, nameIndex := 1125, descriptorIndex := 18, attributes := #[] }, { accessFlags := 24, nameIndex := 1127, descriptorIndex := 18, attributes := #[] }])
  fields := #[{ name := "value", type := (.array .byte), accessFlags := 18, slot := 0, constantValue := 0 }, { name := "coder", type := .byte, accessFlags := 18, slot := 1, constantValue := 0 }, { name := "hash", type := .int, accessFlags := 2, slot := 2, constantValue := 0 }, { name := "hashIsZero", type := .boolean, accessFlags := 2, slot := 3, constantValue := 0 }, { name := "serialVersionUID", type := .long, accessFlags := 26, slot := 0, constantValue := 0 }, { name := "COMPACT_STRINGS", type := .boolean, accessFlags := 24, slot := 1, constantValue := 0 }, { name := "serialPersistentFields", type := (.array (.object "java/io/ObjectStreamField")), accessFlags := 26, slot := 2, constantValue := 0 }, { name := "REPL", type := .char, accessFlags := 26, slot := 3, constantValue := 0 }, { name := "CASE_INSENSITIVE_ORDER", type := (.object "java/util/Comparator"), accessFlags := 25, slot := 4, constantValue := 0 }, { name := "LATIN1", type := .byte, accessFlags := 24, slot := 5, constantValue := 0 }, { name := "UTF16", type := .byte, accessFlags := 24, slot := 6, constantValue := 0 }]
  methods := #[k7m0, k7m1, k7m2, k7m3, k7m4, k7m5]
  instanceTypes := #[(.array .byte), .byte, .int, .boolean]
  staticTypes := #[.long, .boolean, (.array (.object "java/io/ObjectStreamField")), .char, (.object "java/util/Comparator"), .byte, .byte]
  resolved := Array.replicate 1451 none
  statics := some 0 }

def pool8 : Array CpInfo := pool [(6, .class_ 8), (1, u "java/lang/Object"), (0, u "<init>"), (0, u "()V"), (1, .class_ 14), (1, u "java/lang/StringUTF16"), (31, u "$assertionsDisabled"), (0, u "Z"), (13, u "HI_BYTE_SHIFT"), (0, u "I"), (2, u "LO_BYTE_SHIFT"), (49, .methodref 12 116), (0, .nameAndType 117 118), (0, u "compress"), (0, u "([CI[BII)I"), (3, u "([CII)[B"), (138, u "coderFromArrayLen"), (0, u "([BI)B"), (106, .class_ 371), (1, u "java/lang/StringUTF16$LinesSpliterator"), (58, u "MAX_LENGTH"), (196, .class_ 628), (0, u "java/lang/StringUTF16$CodePointsSpliterator"), (0, .class_ 630), (0, u "java/lang/StringUTF16$CharsSpliterator")] 4

def k8m0 : Method := { name := "<init>", desc := "()V", sig := { parameters := [], returnType := none }, accessFlags := 0, code := none }
def k8c1 : Code := { maxStack := 2, maxLocals := 2, code := jdk_52_method_15_code, exceptionTable := #[], attributes := #[] }
def k8m1 : Method := { name := "coderFromArrayLen", desc := "([BI)B", sig := { parameters := [(.array .byte), .int], returnType := some .byte }, accessFlags := 8, code := some k8c1 }
def k8c2 : Code := { maxStack := 5, maxLocals := 6, code := jdk_52_method_16_code, exceptionTable := #[], attributes := #[] }
def k8m2 : Method := { name := "compress", desc := "([CII)[B", sig := { parameters := [(.array .char), .int, .int], returnType := some (.array .byte) }, accessFlags := 9, code := some k8c2 }
def k8c3 : Code := { maxStack := 3, maxLocals := 7, code := jdk_52_method_21_code, exceptionTable := #[], attributes := #[] }
def k8m3 : Method := { name := "compress", desc := "([CI[BII)I", sig := { parameters := [(.array .char), .int, (.array .byte), .int, .int], returnType := some .int }, accessFlags := 9, code := some k8c3 }
/-- java/lang/StringUTF16 -/
def k8 : Class := { plain "java/lang/StringUTF16" (some 0) with
  accessFlags := 48
  interfaces := #[]
  cf := some (fileOf pool8 12 #[.nestMembers #[627, 629, 369]] #[{ accessFlags := 0, nameIndex := 9, descriptorIndex := 10, attributes := #[] }, { accessFlags := 8, nameIndex := 261, descriptorIndex := 262, attributes := #[] }, { accessFlags := 9, nameIndex := 117, descriptorIndex := 122, attributes := #[] }, { accessFlags := 9, nameIndex := 117, descriptorIndex := 118, attributes := #[] }] 48 6 #[] #[{ accessFlags := 26, nameIndex := 61, descriptorIndex := 62, attributes := #[] }, { accessFlags := 26, nameIndex := 65, descriptorIndex := 62, attributes := #[] }, { accessFlags := 24, nameIndex := 430, descriptorIndex := 62, attributes := #[] }, { accessFlags := 4120, nameIndex := 46, descriptorIndex := 47, attributes := #[] }])
  fields := #[{ name := "HI_BYTE_SHIFT", type := .int, accessFlags := 26, slot := 0, constantValue := 0 }, { name := "LO_BYTE_SHIFT", type := .int, accessFlags := 26, slot := 1, constantValue := 0 }, { name := "MAX_LENGTH", type := .int, accessFlags := 24, slot := 2, constantValue := 0 }, { name := "$assertionsDisabled", type := .boolean, accessFlags := 4120, slot := 3, constantValue := 0 }]
  methods := #[k8m0, k8m1, k8m2, k8m3]
  instanceTypes := #[]
  staticTypes := #[.int, .int, .int, .boolean]
  resolved := Array.replicate 635 none
  statics := none }

def pool9 : Array CpInfo := pool [(1, .methodref 2 3), (0, .class_ 4), (0, .nameAndType 5 6), (0, u "java/lang/Object"), (0, u "<init>"), (0, u "()V"), (0, .fieldref 8 9), (0, .class_ 10), (0, .nameAndType 11 12), (0, u "com/example/authority/authority/UriReference"), (0, u "mText"), (0, u "Ljava/lang/String;"), (0, .fieldref 8 14), (0, .nameAndType 15 16), (0, u "mSchemeEnd"), (0, u "I"), (0, .fieldref 8 18), (0, .nameAndType 19 16), (0, u "mHostStart"), (0, .fieldref 8 21), (0, .nameAndType 22 16), (0, u "mHostEnd"), (0, .fieldref 8 24), (0, .nameAndType 25 16), (0, u "mPathStart"), (0, .fieldref 8 27), (0, .nameAndType 28 16), (0, u "mPathEnd"), (0, .fieldref 8 30), (0, .nameAndType 31 16), (0, u "mQueryEnd"), (45, .class_ 78), (0, u "java/lang/String"), (27, u "(Ljava/lang/String;IIIIII)V"), (60, .methodref 77 168), (0, .nameAndType 169 170), (0, u "equals"), (0, u "(Ljava/lang/Object;)Z")] 88

def k9c0 : Code := { maxStack := 2, maxLocals := 8, code := prog_7_method_1_code, exceptionTable := #[], attributes := #[] }
def k9m0 : Method := { name := "<init>", desc := "(Ljava/lang/String;IIIIII)V", sig := { parameters := [(.object "java/lang/String"), .int, .int, .int, .int, .int, .int], returnType := none }, accessFlags := 0, code := some k9c0 }
def k9c1 : Code := { maxStack := 2, maxLocals := 3, code := prog_7_method_25_code, exceptionTable := #[], attributes := #[] }
def k9m1 : Method := { name := "equals", desc := "(Ljava/lang/Object;)Z", sig := { parameters := [(.object "java/lang/Object")], returnType := some .boolean }, accessFlags := 1, code := some k9c1 }
/-- com/example/authority/authority/UriReference -/
def k9 : Class := { plain "com/example/authority/authority/UriReference" (some 0) with
  accessFlags := 49
  interfaces := #[]
  cf := some (fileOf pool9 8 #[] #[{ accessFlags := 0, nameIndex := 5, descriptorIndex := 106, attributes := #[] }, { accessFlags := 1, nameIndex := 169, descriptorIndex := 170, attributes := #[] }] 49 2 #[] #[{ accessFlags := 18, nameIndex := 11, descriptorIndex := 12, attributes := #[] }, { accessFlags := 18, nameIndex := 15, descriptorIndex := 16, attributes := #[] }, { accessFlags := 18, nameIndex := 19, descriptorIndex := 16, attributes := #[] }, { accessFlags := 18, nameIndex := 22, descriptorIndex := 16, attributes := #[] }, { accessFlags := 18, nameIndex := 25, descriptorIndex := 16, attributes := #[] }, { accessFlags := 18, nameIndex := 28, descriptorIndex := 16, attributes := #[] }, { accessFlags := 18, nameIndex := 31, descriptorIndex := 16, attributes := #[] }])
  fields := #[{ name := "mText", type := (.object "java/lang/String"), accessFlags := 18, slot := 0, constantValue := 0 }, { name := "mSchemeEnd", type := .int, accessFlags := 18, slot := 1, constantValue := 0 }, { name := "mHostStart", type := .int, accessFlags := 18, slot := 2, constantValue := 0 }, { name := "mHostEnd", type := .int, accessFlags := 18, slot := 3, constantValue := 0 }, { name := "mPathStart", type := .int, accessFlags := 18, slot := 4, constantValue := 0 }, { name := "mPathEnd", type := .int, accessFlags := 18, slot := 5, constantValue := 0 }, { name := "mQueryEnd", type := .int, accessFlags := 18, slot := 6, constantValue := 0 }]
  methods := #[k9m0, k9m1]
  instanceTypes := #[(.object "java/lang/String"), .int, .int, .int, .int, .int, .int]
  staticTypes := #[]
  resolved := Array.replicate 259 none
  statics := none }

def pool10 : Array CpInfo := pool [(4, .class_ 6), (1, u "java/lang/Object"), (0, u "<init>"), (0, u "()V"), (5, .class_ 16), (1, u "java/lang/StringLatin1"), (73, u "canEncode"), (14, u "(C)Z"), (15, u "$assertionsDisabled"), (0, u "Z"), (98, .class_ 223), (1, u "java/lang/StringLatin1$LinesSpliterator"), (57, u "equals"), (0, u "([B[B)Z"), (97, u "toBytes"), (1, u "(C)[B"), (7, .class_ 391), (0, u "java/lang/StringLatin1$CharsSpliterator")] 3

def k10m0 : Method := { name := "<init>", desc := "()V", sig := { parameters := [], returnType := none }, accessFlags := 0, code := none }
def k10c1 : Code := { maxStack := 2, maxLocals := 1, code := jdk_43_method_3_code, exceptionTable := #[], attributes := #[] }
def k10m1 : Method := { name := "canEncode", desc := "(C)Z", sig := { parameters := [.char], returnType := some .boolean }, accessFlags := 9, code := some k10c1 }
def k10c2 : Code := { maxStack := 3, maxLocals := 3, code := jdk_43_method_13_code, exceptionTable := #[], attributes := #[] }
def k10m2 : Method := { name := "equals", desc := "([B[B)Z", sig := { parameters := [(.array .byte), (.array .byte)], returnType := some .boolean }, accessFlags := 9, code := some k10c2 }
def k10c3 : Code := { maxStack := 4, maxLocals := 1, code := jdk_43_method_46_code, exceptionTable := #[], attributes := #[] }
def k10m3 : Method := { name := "toBytes", desc := "(C)[B", sig := { parameters := [.char], returnType := some (.array .byte) }, accessFlags := 9, code := some k10c3 }
/-- java/lang/StringLatin1 -/
def k10 : Class := { plain "java/lang/StringLatin1" (some 0) with
  accessFlags := 48
  interfaces := #[]
  cf := some (fileOf pool10 14 #[.nestMembers #[390, 221]] #[{ accessFlags := 0, nameIndex := 7, descriptorIndex := 8, attributes := #[] }, { accessFlags := 9, nameIndex := 90, descriptorIndex := 105, attributes := #[] }, { accessFlags := 9, nameIndex := 281, descriptorIndex := 282, attributes := #[] }, { accessFlags := 9, nameIndex := 380, descriptorIndex := 382, attributes := #[] }] 48 4 #[] #[{ accessFlags := 4120, nameIndex := 121, descriptorIndex := 122, attributes := #[] }])
  fields := #[{ name := "$assertionsDisabled", type := .boolean, accessFlags := 4120, slot := 0, constantValue := 0 }]
  methods := #[k10m0, k10m1, k10m2, k10m3]
  instanceTypes := #[]
  staticTypes := #[.boolean]
  resolved := Array.replicate 395 none
  statics := none }

def pool11 : Array CpInfo := pool [(2, .class_ 4), (1, u "java/lang/Object"), (0, u "<init>"), (0, u "()V"), (17, .class_ 26), (1, u "jdk/internal/util/Preconditions"), (28, .class_ 56), (0, u "jdk/internal/util/Preconditions$4"), (57, .class_ 115), (0, u "jdk/internal/util/Preconditions$1"), (7, u "SIOOBE_FORMATTER"), (0, u "Ljava/util/function/BiFunction;"), (0, .class_ 126), (0, u "jdk/internal/util/Preconditions$2"), (3, u "AIOOBE_FORMATTER"), (0, .class_ 132), (0, u "jdk/internal/util/Preconditions$3"), (3, u "IOOBE_FORMATTER")] 57

def k11m0 : Method := { name := "<init>", desc := "()V", sig := { parameters := [], returnType := none }, accessFlags := 1, code := none }
/-- jdk/internal/util/Preconditions -/
def k11 : Class := { plain "jdk/internal/util/Preconditions" (some 0) with
  accessFlags := 33
  interfaces := #[]
  cf := some (fileOf pool11 24 #[.nestMembers #[55, 131, 125, 114]] #[{ accessFlags := 1, nameIndex := 5, descriptorIndex := 6, attributes := #[] }] 33 2 #[] #[{ accessFlags := 25, nameIndex := 123, descriptorIndex := 124, attributes := #[] }, { accessFlags := 25, nameIndex := 130, descriptorIndex := 124, attributes := #[] }, { accessFlags := 25, nameIndex := 136, descriptorIndex := 124, attributes := #[] }])
  fields := #[{ name := "SIOOBE_FORMATTER", type := (.object "java/util/function/BiFunction"), accessFlags := 25, slot := 0, constantValue := 0 }, { name := "AIOOBE_FORMATTER", type := (.object "java/util/function/BiFunction"), accessFlags := 25, slot := 1, constantValue := 0 }, { name := "IOOBE_FORMATTER", type := (.object "java/util/function/BiFunction"), accessFlags := 25, slot := 2, constantValue := 0 }]
  methods := #[k11m0]
  instanceTypes := #[]
  staticTypes := #[(.object "java/util/function/BiFunction"), (.object "java/util/function/BiFunction"), (.object "java/util/function/BiFunction")]
  resolved := Array.replicate 194 none
  statics := some 1 }

def pool12 : Array CpInfo := pool [(9, u "<init>"), (6, .class_ 18), (1, u "java/lang/Object"), (0, u "()V"), (1, .class_ 23), (1, u "jdk/internal/util/ArraysSupport"), (0, u "LOG2_ARRAY_LONG_INDEX_SCALE"), (0, u "I"), (2, u "U"), (0, u "Ljdk/internal/misc/Unsafe;"), (8, u "BIG_ENDIAN"), (0, u "Z"), (8, u "LOG2_BYTE_BIT_SIZE"), (4, u "LOG2_ARRAY_INT_INDEX_SCALE"), (54, u "JLA"), (0, u "Ljdk/internal/access/JavaLangAccess;"), (11, u "LOG2_ARRAY_BOOLEAN_INDEX_SCALE"), (9, u "LOG2_ARRAY_BYTE_INDEX_SCALE"), (5, u "LOG2_ARRAY_CHAR_INDEX_SCALE"), (5, u "LOG2_ARRAY_SHORT_INDEX_SCALE"), (18, u "LOG2_ARRAY_FLOAT_INDEX_SCALE"), (24, u "LOG2_ARRAY_DOUBLE_INDEX_SCALE"), (89, u "T_BOOLEAN"), (2, u "T_CHAR"), (1, u "T_FLOAT"), (1, u "T_DOUBLE"), (1, u "T_BYTE"), (1, u "T_SHORT"), (1, u "T_INT"), (1, u "T_LONG"), (1, u "SOFT_MAX_ARRAY_LENGTH")] 83

def k12m0 : Method := { name := "<init>", desc := "()V", sig := { parameters := [], returnType := none }, accessFlags := 2, code := none }
/-- jdk/internal/util/ArraysSupport -/
def k12 : Class := { plain "jdk/internal/util/ArraysSupport" (some 0) with
  accessFlags := 33
  interfaces := #[]
  cf := some (fileOf pool12 21 #[] #[{ accessFlags := 2, nameIndex := 9, descriptorIndex := 19, attributes := #[] }] 33 16 #[] #[{ accessFlags := 24, nameIndex := 28, descriptorIndex := 29, attributes := #[] }, { accessFlags := 26, nameIndex := 38, descriptorIndex := 39, attributes := #[] }, { accessFlags := 25, nameIndex := 121, descriptorIndex := 25, attributes := #[] }, { accessFlags := 25, nameIndex := 131, descriptorIndex := 25, attributes := #[] }, { accessFlags := 25, nameIndex := 137, descriptorIndex := 25, attributes := #[] }, { accessFlags := 25, nameIndex := 143, descriptorIndex := 25, attributes := #[] }, { accessFlags := 25, nameIndex := 53, descriptorIndex := 25, attributes := #[] }, { accessFlags := 25, nameIndex := 24, descriptorIndex := 25, attributes := #[] }, { accessFlags := 25, nameIndex := 162, descriptorIndex := 25, attributes := #[] }, { accessFlags := 25, nameIndex := 187, descriptorIndex := 25, attributes := #[] }, { accessFlags := 26, nameIndex := 48, descriptorIndex := 25, attributes := #[] }, { accessFlags := 25, nameIndex := 277, descriptorIndex := 25, attributes := #[] }, { accessFlags := 25, nameIndex := 280, descriptorIndex := 25, attributes := #[] }, { accessFlags := 25, nameIndex := 282, descriptorIndex := 25, attributes := #[] }, { accessFlags := 25, nameIndex := 284, descriptorIndex := 25, attributes := #[] }, { accessFlags := 25, nameIndex := 286, descriptorIndex := 25, attributes := #[] }, { accessFlags := 25, nameIndex := 288, descriptorIndex := 25, attributes := #[] }, { accessFlags := 25, nameIndex := 290, descriptorIndex := 25, attributes := #[] }, { accessFlags := 25, nameIndex := 292, descriptorIndex := 25, attributes := #[] }, { accessFlags := 26, nameIndex := 108, descriptorIndex := 109, attributes := #[] }, { accessFlags := 25, nameIndex := 294, descriptorIndex := 25, attributes := #[] }])
  fields := #[{ name := "U", type := (.object "jdk/internal/misc/Unsafe"), accessFlags := 24, slot := 0, constantValue := 0 }, { name := "BIG_ENDIAN", type := .boolean, accessFlags := 26, slot := 1, constantValue := 0 }, { name := "LOG2_ARRAY_BOOLEAN_INDEX_SCALE", type := .int, accessFlags := 25, slot := 2, constantValue := 0 }, { name := "LOG2_ARRAY_BYTE_INDEX_SCALE", type := .int, accessFlags := 25, slot := 3, constantValue := 0 }, { name := "LOG2_ARRAY_CHAR_INDEX_SCALE", type := .int, accessFlags := 25, slot := 4, constantValue := 0 }, { name := "LOG2_ARRAY_SHORT_INDEX_SCALE", type := .int, accessFlags := 25, slot := 5, constantValue := 0 }, { name := "LOG2_ARRAY_INT_INDEX_SCALE", type := .int, accessFlags := 25, slot := 6, constantValue := 0 }, { name := "LOG2_ARRAY_LONG_INDEX_SCALE", type := .int, accessFlags := 25, slot := 7, constantValue := 0 }, { name := "LOG2_ARRAY_FLOAT_INDEX_SCALE", type := .int, accessFlags := 25, slot := 8, constantValue := 0 }, { name := "LOG2_ARRAY_DOUBLE_INDEX_SCALE", type := .int, accessFlags := 25, slot := 9, constantValue := 0 }, { name := "LOG2_BYTE_BIT_SIZE", type := .int, accessFlags := 26, slot := 10, constantValue := 0 }, { name := "T_BOOLEAN", type := .int, accessFlags := 25, slot := 11, constantValue := 0 }, { name := "T_CHAR", type := .int, accessFlags := 25, slot := 12, constantValue := 0 }, { name := "T_FLOAT", type := .int, accessFlags := 25, slot := 13, constantValue := 0 }, { name := "T_DOUBLE", type := .int, accessFlags := 25, slot := 14, constantValue := 0 }, { name := "T_BYTE", type := .int, accessFlags := 25, slot := 15, constantValue := 0 }, { name := "T_SHORT", type := .int, accessFlags := 25, slot := 16, constantValue := 0 }, { name := "T_INT", type := .int, accessFlags := 25, slot := 17, constantValue := 0 }, { name := "T_LONG", type := .int, accessFlags := 25, slot := 18, constantValue := 0 }, { name := "JLA", type := (.object "jdk/internal/access/JavaLangAccess"), accessFlags := 26, slot := 19, constantValue := 0 }, { name := "SOFT_MAX_ARRAY_LENGTH", type := .int, accessFlags := 25, slot := 20, constantValue := 0 }]
  methods := #[k12m0]
  instanceTypes := #[]
  staticTypes := #[(.object "jdk/internal/misc/Unsafe"), .boolean, .int, .int, .int, .int, .int, .int, .int, .int, .int, .int, .int, .int, .int, .int, .int, .int, .int, (.object "jdk/internal/access/JavaLangAccess"), .int]
  resolved := Array.replicate 378 none
  statics := none }

def pool13 : Array CpInfo := pool [(1, u "java/lang/Cloneable"), (0, .class_ 1), (0, u "java/lang/Object"), (0, .class_ 3)] 3

/-- java/lang/Cloneable -/
def k13 : Class := { plain "java/lang/Cloneable" (some 0) with
  accessFlags := 1537
  interfaces := #[]
  cf := some (fileOf pool13 2 #[] #[] 1537 4 #[] #[])
  fields := #[]
  methods := #[]
  instanceTypes := #[]
  staticTypes := #[]
  resolved := Array.replicate 8 none
  statics := none }

/-- the primitive byte -/
def k14 : Class := { plain "byte" none with kind := .primitive 'B', accessFlags := 0x411 }
/-- [B -/
def k15 : Class := { plain "[B" (some 0) with kind := .array 14 .byte, interfaces := #[13, 2], accessFlags := 1041 }

/-- the primitive char -/
def k16 : Class := { plain "char" none with kind := .primitive 'C', accessFlags := 0x411 }
/-- [C -/
def k17 : Class := { plain "[C" (some 0) with kind := .array 16 .char, interfaces := #[13, 2], accessFlags := 1041 }

/-- the primitive int -/
def k18 : Class := { plain "int" none with kind := .primitive 'I', accessFlags := 0x411 }
/-- [I -/
def k19 : Class := { plain "[I" (some 0) with kind := .array 18 .int, interfaces := #[13, 2], accessFlags := 1041 }

def heap : Heap := #[{ cls := 7, slots := #[.long 0, .int 1, .null, .int 0, .null, .int 0, .int 0], vm := .statics 7 },
  { cls := 11, slots := #[.null, .null, .null], vm := .statics 11 }]
def classes : Array Class := #[k0, k1, k2, k3, k4, k5, k6, k7, k8, k9, k10, k11, k12, k13, k14, k15, k16, k17, k18, k19]
def interned : List (Array UInt16 × Addr) := []
def slotsUsed : Nat := 10
def theMethod : MethodId := ⟨1, 1⟩
def args0 : Array Value := #[.int 5, .int 6, .int 7, .int 8, .int 9, .int 10]
def aboutOver (below : List Frame) : State where
  vm := { classes := classes, interned := interned.toArray }
  heap := heap
  slotsUsed := slotsUsed
  threads := #[{ frames := .invoking theMethod args0 :: below }]
def below0 : List Frame := [.native { method := ⟨0, 0⟩, args := #[] }]
def about1 : State := aboutOver below0
def p0 : Program := .bare "" "" ""
def e0 : Env := launch0.env 0 0 0
theorem w_frames : about1.frames = Frame.invoking theMethod args0 :: below0 := rfl
set_option maxRecDepth 65536 in
theorem w_args : argsFit about1.vm theMethod args0 = true := by decide +kernel
set_option maxRecDepth 65536 in
theorem w_heap : heapFits about1 = true := by decide +kernel
set_option maxRecDepth 65536 in
theorem w_runnable : about1.curStatus? = some .runnable := by decide +kernel
set_option maxRecDepth 65536 in
theorem w_alone : about1.alone = true := by decide +kernel
set_option maxRecDepth 65536 in
theorem w_named : about1.methodNamed? x = some theMethod := by decide +kernel
set_option maxRecDepth 65536 in
theorem w_hears : about1.hears theMethod below0 = true := by decide +kernel
set_option maxRecDepth 65536 in
theorem w_ripe : about1.ripe theMethod args0 below0 = true := by decide +kernel
theorem w_running : about1.status = .running := rfl
set_option maxRecDepth 65536 in
theorem w_room : about1.hasRoom e0.platform room_1 = true :=
  launch0.hasRoom_least _ room_1 (by decide +kernel) (by decide +kernel) (by decide +kernel) (by decide +kernel) (by decide +kernel) (by decide +kernel)
theorem allAtoms_all (ts : List Jvm.Cond) (a : Array Jvm.Value) (st : Jvm.State) : (allAtoms ts).before a st = ts.all (fun c => c.before a st) := by
  induction ts with
  | nil => rfl
  | cons c t ih =>
    show (Jvm.Cond.and c (allAtoms t)).before a st = _
    rw [Jvm.Cond.before_and, ih, List.all_cons]
def words1 : List Jvm.Cond := Jvm.Cond.code x code maxLocals ret :: tables_1
/-- a 'code' word, met by the world's own term for the bytes: nothing is compared byte by byte -/
theorem code_word {y : MethodName} {bytes : ByteArray} {mx : Nat} {rt : Option FieldType} {a : Array Value} {s : State} {m : MethodId} {meth : Method} {c : Code} (h1 : s.methodNamed? y = some m) (h2 : s.vm.method? m = some meth) (h3 : meth.code = some c) (h4 : c.code = bytes)
    (h5 : (c.maxLocals == mx && c.exceptionTable.isEmpty && decide (c.maxStack ≤ mostOperands) && decide (meth.sig.returnType = rt) && !meth.locks && decide (parseMethodDescriptor y.desc = some meth.sig)) = true) : (Jvm.Cond.code y bytes mx rt).before a s = true := by
  simp only [Bool.and_eq_true, beq_iff_eq, Bool.not_eq_true', decide_eq_true_eq] at h5
  obtain ⟨⟨⟨⟨⟨g1, g2⟩, g3⟩, g4⟩, g5⟩, g6⟩ := h5
  simp [Cond.before, Cond.holds, Cond.value, h1, h2, h3, h4, g1, g2, g3, g4, g5, g6]
def isCode : Jvm.Cond → Bool
  | .code _ _ _ _ => true
  | _ => false
theorem all_split {L : List Jvm.Cond} {P : Jvm.Cond → Bool} (h1 : L.all (fun c => isCode c || P c) = true) (h2 : ∀ c ∈ L.filter isCode, P c = true) : L.all P = true := by
  refine List.all_eq_true.mpr fun c hc => ?_
  have h := List.all_eq_true.mp h1 c hc
  rcases Bool.eq_false_or_eq_true (isCode c) with hi | hi
  · exact h2 c (List.mem_filter.mpr ⟨hc, hi⟩)
  · simpa [hi] using h
set_option maxRecDepth 65536 in
theorem w_c0 : (Jvm.Cond.code x code maxLocals ret).before args0 about1 = true := code_word (m := ⟨1, 1⟩) (meth := k1m1) (c := k1c1) (by decide +kernel) rfl rfl rfl (by decide +kernel)
set_option maxRecDepth 65536 in
theorem w_c1 : (Jvm.Cond.code ({ cls := "java/lang/String", name := "<init>", desc := "([C)V" } : Jvm.MethodName) jdk_42_method_3_code (2 : Nat) (Option.none : Option Jvm.ClassFile.FieldType)).before args0 about1 = true := code_word (m := ⟨7, 1⟩) (meth := k7m1) (c := k7c1) (by decide +kernel) rfl rfl rfl (by decide +kernel)
set_option maxRecDepth 65536 in
theorem w_c2 : (Jvm.Cond.code ({ cls := "java/lang/String", name := "<init>", desc := "([CIILjava/lang/Void;)V" } : Jvm.MethodName) jdk_42_method_149_code (6 : Nat) (Option.none : Option Jvm.ClassFile.FieldType)).before args0 about1 = true := code_word (m := ⟨7, 4⟩) (meth := k7m4) (c := k7c4) (by decide +kernel) rfl rfl rfl (by decide +kernel)
set_option maxRecDepth 65536 in
theorem w_c3 : (Jvm.Cond.code ({ cls := "java/lang/Object", name := "<init>", desc := "()V" } : Jvm.MethodName) object_method_1_code (1 : Nat) (Option.none : Option Jvm.ClassFile.FieldType)).before args0 about1 = true := code_word (m := ⟨0, 0⟩) (meth := k0m0) (c := k0c0) (by decide +kernel) rfl rfl rfl (by decide +kernel)
set_option maxRecDepth 65536 in
theorem w_c4 : (Jvm.Cond.code ({ cls := "java/lang/StringUTF16", name := "compress", desc := "([CII)[B" } : Jvm.MethodName) jdk_52_method_16_code (6 : Nat) (Option.some (Jvm.ClassFile.FieldType.array Jvm.ClassFile.FieldType.byte))).before args0 about1 = true := code_word (m := ⟨8, 2⟩) (meth := k8m2) (c := k8c2) (by decide +kernel) rfl rfl rfl (by decide +kernel)
set_option maxRecDepth 65536 in
theorem w_c5 : (Jvm.Cond.code ({ cls := "java/lang/StringUTF16", name := "compress", desc := "([CI[BII)I" } : Jvm.MethodName) jdk_52_method_21_code (7 : Nat) (Option.some Jvm.ClassFile.FieldType.int)).before args0 about1 = true := code_word (m := ⟨8, 3⟩) (meth := k8m3) (c := k8c3) (by decide +kernel) rfl rfl rfl (by decide +kernel)
set_option maxRecDepth 65536 in
theorem w_c6 : (Jvm.Cond.code ({ cls := "java/lang/StringUTF16", name := "coderFromArrayLen", desc := "([BI)B" } : Jvm.MethodName) jdk_52_method_15_code (2 : Nat) (Option.some Jvm.ClassFile.FieldType.byte)).before args0 about1 = true := code_word (m := ⟨8, 1⟩) (meth := k8m1) (c := k8c1) (by decide +kernel) rfl rfl rfl (by decide +kernel)
set_option maxRecDepth 65536 in
theorem w_c7 : (Jvm.Cond.code ({ cls := "com/example/authority/authority/UriReference", name := "<init>", desc := "(Ljava/lang/String;IIIIII)V" } : Jvm.MethodName) prog_7_method_1_code (8 : Nat) (Option.none : Option Jvm.ClassFile.FieldType)).before args0 about1 = true := code_word (m := ⟨9, 0⟩) (meth := k9m0) (c := k9c0) (by decide +kernel) rfl rfl rfl (by decide +kernel)
set_option maxRecDepth 65536 in
theorem w_c8 : (Jvm.Cond.code ({ cls := "com/example/authority/authority/UriReference", name := "equals", desc := "(Ljava/lang/Object;)Z" } : Jvm.MethodName) prog_7_method_25_code (3 : Nat) (Option.some Jvm.ClassFile.FieldType.boolean)).before args0 about1 = true := code_word (m := ⟨9, 1⟩) (meth := k9m1) (c := k9c1) (by decide +kernel) rfl rfl rfl (by decide +kernel)
set_option maxRecDepth 65536 in
theorem w_c9 : (Jvm.Cond.code ({ cls := "java/lang/String", name := "equals", desc := "(Ljava/lang/Object;)Z" } : Jvm.MethodName) jdk_42_method_66_code (3 : Nat) (Option.some Jvm.ClassFile.FieldType.boolean)).before args0 about1 = true := code_word (m := ⟨7, 2⟩) (meth := k7m2) (c := k7c2) (by decide +kernel) rfl rfl rfl (by decide +kernel)
set_option maxRecDepth 65536 in
theorem w_c10 : (Jvm.Cond.code ({ cls := "java/lang/StringLatin1", name := "equals", desc := "([B[B)Z" } : Jvm.MethodName) jdk_43_method_13_code (3 : Nat) (Option.some Jvm.ClassFile.FieldType.boolean)).before args0 about1 = true := code_word (m := ⟨10, 2⟩) (meth := k10m2) (c := k10c2) (by decide +kernel) rfl rfl rfl (by decide +kernel)
set_option maxRecDepth 65536 in
theorem w_c11 : (Jvm.Cond.code ({ cls := "java/lang/String", name := "valueOf", desc := "(C)Ljava/lang/String;" } : Jvm.MethodName) jdk_42_method_139_code (1 : Nat) (Option.some (Jvm.ClassFile.FieldType.object "java/lang/String"))).before args0 about1 = true := code_word (m := ⟨7, 3⟩) (meth := k7m3) (c := k7c3) (by decide +kernel) rfl rfl rfl (by decide +kernel)
set_option maxRecDepth 65536 in
theorem w_c12 : (Jvm.Cond.code ({ cls := "java/lang/StringLatin1", name := "canEncode", desc := "(C)Z" } : Jvm.MethodName) jdk_43_method_3_code (1 : Nat) (Option.some Jvm.ClassFile.FieldType.boolean)).before args0 about1 = true := code_word (m := ⟨10, 1⟩) (meth := k10m1) (c := k10c1) (by decide +kernel) rfl rfl rfl (by decide +kernel)
set_option maxRecDepth 65536 in
theorem w_c13 : (Jvm.Cond.code ({ cls := "java/lang/StringLatin1", name := "toBytes", desc := "(C)[B" } : Jvm.MethodName) jdk_43_method_46_code (1 : Nat) (Option.some (Jvm.ClassFile.FieldType.array Jvm.ClassFile.FieldType.byte))).before args0 about1 = true := code_word (m := ⟨10, 3⟩) (meth := k10m3) (c := k10c3) (by decide +kernel) rfl rfl rfl (by decide +kernel)
set_option maxRecDepth 65536 in
theorem w_c14 : (Jvm.Cond.code ({ cls := "java/lang/String", name := "<init>", desc := "([BB)V" } : Jvm.MethodName) jdk_42_method_151_code (3 : Nat) (Option.none : Option Jvm.ClassFile.FieldType)).before args0 about1 = true := code_word (m := ⟨7, 5⟩) (meth := k7m5) (c := k7c5) (by decide +kernel) rfl rfl rfl (by decide +kernel)
def codes1 : List Jvm.Cond := [Jvm.Cond.code x code maxLocals ret, Jvm.Cond.code ({ cls := "java/lang/String", name := "<init>", desc := "([C)V" } : Jvm.MethodName) jdk_42_method_3_code (2 : Nat) (Option.none : Option Jvm.ClassFile.FieldType), Jvm.Cond.code ({ cls := "java/lang/String", name := "<init>", desc := "([CIILjava/lang/Void;)V" } : Jvm.MethodName) jdk_42_method_149_code (6 : Nat) (Option.none : Option Jvm.ClassFile.FieldType), Jvm.Cond.code ({ cls := "java/lang/Object", name := "<init>", desc := "()V" } : Jvm.MethodName) object_method_1_code (1 : Nat) (Option.none : Option Jvm.ClassFile.FieldType), Jvm.Cond.code ({ cls := "java/lang/StringUTF16", name := "compress", desc := "([CII)[B" } : Jvm.MethodName) jdk_52_method_16_code (6 : Nat) (Option.some (Jvm.ClassFile.FieldType.array Jvm.ClassFile.FieldType.byte)), Jvm.Cond.code ({ cls := "java/lang/StringUTF16", name := "compress", desc := "([CI[BII)I" } : Jvm.MethodName) jdk_52_method_21_code (7 : Nat) (Option.some Jvm.ClassFile.FieldType.int), Jvm.Cond.code ({ cls := "java/lang/StringUTF16", name := "coderFromArrayLen", desc := "([BI)B" } : Jvm.MethodName) jdk_52_method_15_code (2 : Nat) (Option.some Jvm.ClassFile.FieldType.byte), Jvm.Cond.code ({ cls := "com/example/authority/authority/UriReference", name := "<init>", desc := "(Ljava/lang/String;IIIIII)V" } : Jvm.MethodName) prog_7_method_1_code (8 : Nat) (Option.none : Option Jvm.ClassFile.FieldType), Jvm.Cond.code ({ cls := "com/example/authority/authority/UriReference", name := "equals", desc := "(Ljava/lang/Object;)Z" } : Jvm.MethodName) prog_7_method_25_code (3 : Nat) (Option.some Jvm.ClassFile.FieldType.boolean), Jvm.Cond.code ({ cls := "java/lang/String", name := "equals", desc := "(Ljava/lang/Object;)Z" } : Jvm.MethodName) jdk_42_method_66_code (3 : Nat) (Option.some Jvm.ClassFile.FieldType.boolean), Jvm.Cond.code ({ cls := "java/lang/StringLatin1", name := "equals", desc := "([B[B)Z" } : Jvm.MethodName) jdk_43_method_13_code (3 : Nat) (Option.some Jvm.ClassFile.FieldType.boolean), Jvm.Cond.code ({ cls := "java/lang/String", name := "valueOf", desc := "(C)Ljava/lang/String;" } : Jvm.MethodName) jdk_42_method_139_code (1 : Nat) (Option.some (Jvm.ClassFile.FieldType.object "java/lang/String")), Jvm.Cond.code ({ cls := "java/lang/StringLatin1", name := "canEncode", desc := "(C)Z" } : Jvm.MethodName) jdk_43_method_3_code (1 : Nat) (Option.some Jvm.ClassFile.FieldType.boolean), Jvm.Cond.code ({ cls := "java/lang/StringLatin1", name := "toBytes", desc := "(C)[B" } : Jvm.MethodName) jdk_43_method_46_code (1 : Nat) (Option.some (Jvm.ClassFile.FieldType.array Jvm.ClassFile.FieldType.byte)), Jvm.Cond.code ({ cls := "java/lang/String", name := "<init>", desc := "([BB)V" } : Jvm.MethodName) jdk_42_method_151_code (3 : Nat) (Option.none : Option Jvm.ClassFile.FieldType)]
set_option maxRecDepth 65536 in
theorem codes_eq : words1.filter isCode = codes1 := rfl
theorem w_codes : ∀ c ∈ words1.filter isCode, c.before args0 about1 = true := by
  rw [codes_eq]
  intro c hc
  simp only [codes1, List.mem_cons, List.not_mem_nil, or_false] at hc
  rcases hc with rfl | rfl | rfl | rfl | rfl | rfl | rfl | rfl | rfl | rfl | rfl | rfl | rfl | rfl | rfl
  · exact w_c0
  · exact w_c1
  · exact w_c2
  · exact w_c3
  · exact w_c4
  · exact w_c5
  · exact w_c6
  · exact w_c7
  · exact w_c8
  · exact w_c9
  · exact w_c10
  · exact w_c11
  · exact w_c12
  · exact w_c13
  · exact w_c14
set_option maxRecDepth 65536 in
theorem w_t1 : (words1.take 24).all (fun c => isCode c || c.before args0 about1) = true := by decide +kernel
set_option maxRecDepth 65536 in
theorem w_t2 : ((words1.drop 24).take 24).all (fun c => isCode c || c.before args0 about1) = true := by decide +kernel
set_option maxRecDepth 65536 in
theorem w_t3 : (((words1.drop 24).drop 24).take 24).all (fun c => isCode c || c.before args0 about1) = true := by decide +kernel
set_option maxRecDepth 65536 in
theorem w_t4 : (((words1.drop 24).drop 24).drop 24).all (fun c => isCode c || c.before args0 about1) = true := by decide +kernel
theorem w_tables : (allAtoms (Jvm.Cond.code x code maxLocals ret :: tables_1)).before args0 about1 = true := by
  rw [allAtoms_all]
  show words1.all (fun c => c.before args0 about1) = true
  refine all_split ?_ w_codes
  rw [← List.take_append_drop 24 words1, List.all_append, w_t1, ← List.take_append_drop 24 (words1.drop 24), List.all_append, w_t2, ← List.take_append_drop 24 ((words1.drop 24).drop 24), List.all_append, w_t3, w_t4]
  rfl
set_option maxRecDepth 65536 in
theorem w_rest : rest_1_c.before args0 about1 = true := by decide +kernel
set_option maxRecDepth 65536 in
theorem w_case : (Jvm.Cond.and given_1 narrow_1).before args0 about1 = true := by decide +kernel
theorem w_applies : (headSpec (Jvm.Cond.code x code maxLocals ret :: tables_1) room_1).applies x e0.platform about1 = true :=
  (Spec.applies_iff w_frames).mpr ⟨w_running, w_runnable, w_alone, w_named, w_hears, w_ripe, w_room, w_tables⟩
theorem atStart : AtStart classFile x code maxLocals ret World_1 tables_1 room_1 Calls_1 rest_1 Pre_1 launch0 p0 e0 about1 theMethod args0 below0 :=
  ⟨lists_1, trivial, launch0.admits_env _ _ _, launch0.least_env, fairChoices_fair.cas, fairChoices_fair.clock, w_frames, w_args, w_heap, w_applies, trivial, w_rest, w_case⟩
end start1
theorem witness_1 : WitnessClaimed_1 := ⟨start1.p0, start1.e0, start1.about1, start1.theMethod, start1.args0, start1.below0, start1.atStart⟩
end Jvm.Pilot.@@N@@
