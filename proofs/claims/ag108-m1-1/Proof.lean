import JvmDerived
import JvmDerived.Pilot.@@N@@Statement
import JvmDerived.Pilot.@@N@@Code
set_option linter.unusedVariables false
set_option linter.unusedSimpArgs false
namespace Jvm.Pilot.@@N@@
open Jvm Jvm.ClassFile Sem Op Lib Jvm.Free Jvm.Stand Jvm.LawKit Jvm.RoadKit Bundle Jvm.Pilot.@@N@@.Jvm.D

section OwnEnds
variable {p : Program} {l : Launch} {e : Env} {R : Room} {s : State} {m : MethodId} {args : Array Value} {below : List Frame} {meth : Method} {c : Code} {T : State} {locs : List Loc} {cells slots : Nat}
/-- from here the body comes to its end, returns, and leaves what Q says -/
def Ends (p : Program) (e : Env) (below : List Frame) (s T : State) (g : JFrame) (kc ks : Nat) (Q : Option Value → Heap → List Loc → Prop) : Prop :=
  ∃ s₂ o, Steps p.tables e below (T.setTop g) s₂ ∧ s₂.status = .running ∧ Ended s₂ below o ∧ ∃ v L, o = .returned v ∧ Q v s₂.heap L ∧ FrameEnd s o s₂ L kc ks
theorem Ends.go {T' : State} {g g' : JFrame} {kc ks : Nat} {Q : Option Value → Heap → List Loc → Prop} (h : ∀ target, Steps p.tables e below (T'.setTop g') target → Steps p.tables e below (T.setTop g) target) (k : Ends p e below s T' g' kc ks Q) : Ends p e below s T g kc ks Q := by
  obtain ⟨s₂, o, h1, h2⟩ := k
  exact ⟨s₂, o, h _ h1, h2⟩
theorem Ends.ret (X : Stand p l e R s m args below meth c T locs cells slots) (hx : p.tables.exec = Jvm.exec) (hlocks : meth.locks = false) {pc : Nat} {Ls : Array Slot} {w : Value} {t : FieldType} {i : Instr} {rest : List Value} (hret : meth.sig.returnType = some t) (hn : narrow t w = w)
    (hi : (i = .ireturn ∧ (t = .int ∨ t = .boolean ∨ t = .byte ∨ t = .char ∨ t = .short) ∧ ∃ z, w = .int z) ∨ (i = .lreturn ∧ t = .long ∧ ∃ z, w = .long z) ∨ (i = .dreturn ∧ t = .double ∧ ∃ z, w = .double z) ∨ (i = .freturn ∧ t = .float ∧ ∃ z, w = .float z) ∨ (i = .areturn ∧ t.isReference = true ∧ w.isRef = true))
    (hd : decode c.code pc = .ok (i, 1)) {kc ks : Nat} {Q : Option Value → Heap → List Loc → Prop} (hc : cells ≤ kc) (hs : slots ≤ ks) (hq : Q (some w) T.heap locs) : Ends p e below s T (mkF m pc Ls (w :: rest)) kc ks Q := by
  obtain ⟨fs, hr, hrun, hended, hW, hsame⟩ := X.leave (v := some w) (fun h => by rw [hret] at h; cases h) hlocks
  exact ⟨_, _, retOut X hx hret hn hi hd hr, hrun, hended, _, _, rfl, hq, ⟨_, rfl⟩, hW, hsame.mono hc hs⟩
theorem Ends.retZ (X : Stand p l e R s m args below meth c T locs cells slots) (hx : p.tables.exec = Jvm.exec) (hlocks : meth.locks = false) {pc : Nat} {Ls : Array Slot} {z : Int32} {t : FieldType} {rest : List Value} (hret : meth.sig.returnType = some t) (ht : t = .boolean ∨ t = .byte ∨ t = .char ∨ t = .short)
    (hd : decode c.code pc = .ok (.ireturn, 1)) {kc ks : Nat} {Q : Option Value → Heap → List Loc → Prop} (hc : cells ≤ kc) (hs : slots ≤ ks) (hq : Q (some (.int (nar t z))) T.heap locs) : Ends p e below s T (mkF m pc Ls (.int z :: rest)) kc ks Q := by
  obtain ⟨fs, hr, hrun, hended, hW, hsame⟩ := X.leave (v := some (.int (nar t z))) (fun h => by rw [hret] at h; cases h) hlocks
  exact ⟨_, _, retN X hx hret ht hd hr, hrun, hended, _, _, rfl, hq, ⟨_, rfl⟩, hW, hsame.mono hc hs⟩
theorem Ends.retV (X : Stand p l e R s m args below meth c T locs cells slots) (hx : p.tables.exec = Jvm.exec) (hlocks : meth.locks = false) {pc : Nat} {Ls : Array Slot} (hret : meth.sig.returnType = none)
    (hd : decode c.code pc = .ok (.return_, 1)) {kc ks : Nat} {Q : Option Value → Heap → List Loc → Prop} (hc : cells ≤ kc) (hs : slots ≤ ks) (hq : Q none T.heap locs) : Ends p e below s T (mkF m pc Ls []) kc ks Q := by
  obtain ⟨fs, hr, hrun, hended, hW, hsame⟩ := X.leave (v := none) (fun _ => rfl) hlocks
  exact ⟨_, _, X.returnOut hx hret hd hr, hrun, hended, _, _, rfl, hq, ⟨_, rfl⟩, hW, hsame.mono hc hs⟩
end OwnEnds
abbrev Meets1 (l : Launch) (y : MethodName) (bytes : ByteArray) (ml : Nat) (rt : Option FieldType) (ws : List Jvm.Cond) (rm : Room) (av : Array Value) (Z : State) (h0 : Heap) (Q : Option Value → Heap → List Loc → Prop) : Prop :=
  MetFree l y (head1 (Jvm.Cond.code y bytes ml rt :: ws) rm) (fun a U => a = av ∧ Z.Warmed39 U.vm ∧ U.heap = h0) (fun _ _ _ _ _ => True) (fun _ U o U' => ∃ v L, o = .returned v ∧ Q v U'.heap L ∧ FrameEnd U o U' L rm.cells rm.slots)
theorem own_backOf {p : Program} {l : Launch} {e : Env} {R : Room} {s : State} {args : Array Value} {below : List Frame} {Z : State} {a0 : Array Value} {h : Heap} {y : MethodName} {bytes : ByteArray} {maxL : Nat} {ret : Option FieldType} {rm : Room} {len W : Nat} {as' : Array Value} {Q : Option Value → Heap → List Loc → Prop}
    (hM : Meets1 l y bytes maxL ret [] rm as' Z h Q) (hZ : Z.Warmed39 s.vm) (wc : (Jvm.Cond.code y bytes maxL ret).before a0 Z = true) (wz : (Jvm.Cond.initialized y.cls).before a0 Z = true) (hf : rm.frames + 1 ≤ R.frames) (hl : W + (maxL + 11) + rm.locals ≤ R.locals) :
    Back l R p e below s args y len W (fun A a => a = as' ∧ A.U.heap = h ∧ A.cells + rm.cells ≤ R.cells ∧ A.slots + rm.slots ≤ R.slots)
      (fun A _ v B => ∃ L, Q v B.U.heap L ∧ B.locs = A.locs ++ L ∧ B.cells = A.cells + rm.cells ∧ B.slots = A.slots + rm.slots) := backOf (Q := Q) hM hZ wc wz hf hl
theorem own_old_le {Z : State} {n0 : Nat} {h : Heap} (O : Old Z n0 h) : n0 ≤ h.size := O.1 ▸ O.2.1
theorem own_eqI {args : Array Value} {s : State} {t : Term} {k : Int32} (h : (Jvm.Cond.eq t (.int k)).value args s none s [] = some true) : t.eval args s none [] s = some (.int k) := by
  cases ht : t.eval args s none [] s with
  | none => simp [Cond.value, ht] at h
  | some x => cases x <;> simp_all [Cond.value, Term.eval]
theorem own_len {args : Array Value} {s : State} {t : Term} {a : Addr} {cl : Cell} {k : Int32} (ev : t.eval args s none [] s = some (.ref a)) (A : s.arrayAt? a = some cl) (h : (Jvm.Cond.eq (.length t) (.int k)).value args s none s [] = some true) : cl.slots.size < 2 ^ 31 ∧ cl.slots.size.toInt32 = k := by
  have h1 := own_eqI h
  by_cases q : cl.slots.size < 2 ^ 31
  · rw [len_f ev A q] at h1
    exact ⟨q, Value.int.inj (Option.some.inj h1)⟩
  · simp [Term.eval, ev, A, q] at h1
def own_unres (n : Int) : Prop := (65 ≤ n ∧ n ≤ 90) ∨ (97 ≤ n ∧ n ≤ 122) ∨ (48 ≤ n ∧ n ≤ 57) ∨ n = 45 ∨ n = 46 ∨ n = 95 ∨ n = 126
section OwnTab
variable {args : Array Value} {s : State} {t : Term} {a : Addr} {cl : Cell} {lo hi v k : Int32}
theorem own_rng (et : ∀ idx, t.eval args s none idx s = some (.ref a)) (A : s.arrayAt? a = some cl) (H : Tab s s.heap a cl .short 128) (h : (Jvm.Cond.all t (.or (.lt (.index 0) (.int lo)) (.or (.le (.int hi) (.index 0)) (.eq (.elem t (.index 0)) (.int v))))).value args s none s [] = some true)
    (j : Int32) (hj : ¬ (j < 0 ∨ cl.slots.size ≤ j.toNatClampNeg)) (h1 : lo.toInt ≤ j.toInt) (h2 : j.toInt < hi.toInt) : atv cl j = v := by
  have nn : ¬ j < 0 := fun x => hj (Or.inl x)
  have q := Cond.all_elim (et []) A h j.toNatClampNeg (Nat.lt_of_not_le fun x => hj (Or.inr x))
  have ev : (Term.elem t (.index 0)).eval args s none [j.toNatClampNeg] s = some (.int (atv cl j)) := (elem_f (et _) (idx_at nn) A nn).trans (H.2.2.2 j hj)
  rcases or3 q (Cond.lt_ints (idx_at nn) rfl) (Cond.le_ints rfl (idx_at nn)) (Cond.eq_ints ev rfl) with r | r | r
  · have := Int32.lt_iff_toInt_lt.mp r; omega
  · exact absurd (Int32.lt_iff_toInt_lt.mpr h2) r
  · exact r
theorem own_rng0 (et : ∀ idx, t.eval args s none idx s = some (.ref a)) (A : s.arrayAt? a = some cl) (H : Tab s s.heap a cl .short 128) (h : (Jvm.Cond.all t (.or (.le (.int hi) (.index 0)) (.eq (.elem t (.index 0)) (.int v)))).value args s none s [] = some true)
    (j : Int32) (hj : ¬ (j < 0 ∨ cl.slots.size ≤ j.toNatClampNeg)) (h2 : j.toInt < hi.toInt) : atv cl j = v := by
  have nn : ¬ j < 0 := fun x => hj (Or.inl x)
  have q := Cond.all_elim (et []) A h j.toNatClampNeg (Nat.lt_of_not_le fun x => hj (Or.inr x))
  have ev : (Term.elem t (.index 0)).eval args s none [j.toNatClampNeg] s = some (.int (atv cl j)) := (elem_f (et _) (idx_at nn) A nn).trans (H.2.2.2 j hj)
  rcases or_e2 (Cond.le_ints rfl (idx_at nn)) (Cond.eq_ints ev rfl) q with r | r
  · have := Int32.le_iff_toInt_le.mp r; omega
  · exact r
theorem own_pt (et : ∀ idx, t.eval args s none idx s = some (.ref a)) (A : s.arrayAt? a = some cl) (hk : ¬ k < 0) (h : (Jvm.Cond.eq (.elem t (.int k)) (.int v)).value args s none s [] = some true) : atv cl k = v :=
  atv_of ((elem_f (et []) rfl A hk).symm.trans (own_eqI h))
theorem own_tab (S : cl.slots.size = (128 : Int32).toNatClampNeg) (t0 : ∀ j : Int32, ¬ (j < 0 ∨ cl.slots.size ≤ j.toNatClampNeg) → j.toInt < 33 → atv cl j = 0) (t1 : atv cl 33 = 32) (t2 : atv cl 34 = 0) (t3 : atv cl 35 = 0) (t4 : atv cl 36 = 32) (t5 : atv cl 37 = 1024) (t6 : ∀ j : Int32, ¬ (j < 0 ∨ cl.slots.size ≤ j.toNatClampNeg) → 38 ≤ j.toInt → j.toInt < 43 → atv cl j = 32) (t7 : atv cl 43 = 40) (t8 : atv cl 44 = 32) (t9 : atv cl 45 = 24) (t10 : atv cl 46 = 24) (t11 : atv cl 47 = 256) (t12 : ∀ j : Int32, ¬ (j < 0 ∨ cl.slots.size ≤ j.toNatClampNeg) → 48 ≤ j.toInt → j.toInt < 58 → atv cl j = 30) (t13 : atv cl 58 = 64) (t14 : atv cl 59 = 32) (t15 : atv cl 60 = 0) (t16 : atv cl 61 = 32) (t17 : atv cl 62 = 0) (t18 : atv cl 63 = 512) (t19 : atv cl 64 = 128) (t20 : ∀ j : Int32, ¬ (j < 0 ∨ cl.slots.size ≤ j.toNatClampNeg) → 65 ≤ j.toInt → j.toInt < 71 → atv cl j = 29) (t21 : ∀ j : Int32, ¬ (j < 0 ∨ cl.slots.size ≤ j.toNatClampNeg) → 71 ≤ j.toInt → j.toInt < 91 → atv cl j = 25) (t22 : ∀ j : Int32, ¬ (j < 0 ∨ cl.slots.size ≤ j.toNatClampNeg) → 91 ≤ j.toInt → j.toInt < 95 → atv cl j = 0) (t23 : atv cl 95 = 16) (t24 : atv cl 96 = 0) (t25 : ∀ j : Int32, ¬ (j < 0 ∨ cl.slots.size ≤ j.toNatClampNeg) → 97 ≤ j.toInt → j.toInt < 103 → atv cl j = 29) (t26 : ∀ j : Int32, ¬ (j < 0 ∨ cl.slots.size ≤ j.toNatClampNeg) → 103 ≤ j.toInt → j.toInt < 123 → atv cl j = 25) (t27 : atv cl 123 = 0) (t28 : atv cl 124 = 0) (t29 : atv cl 125 = 0) (t30 : atv cl 126 = 16) (t31 : atv cl 127 = 0) (j : Int32) (h0 : 0 ≤ j.toInt) (h1 : j.toInt < 128) : (own_unres j.toInt → ¬ (atv cl j &&& (16 : Int32)) = 0) ∧ (¬ own_unres j.toInt → (atv cl j &&& (16 : Int32)) = 0) := by
  have hj : ¬ (j < 0 ∨ cl.slots.size ≤ j.toNatClampNeg) := inb_of S ⟨fun q => by have q' : j.toInt < 0 := Int32.lt_iff_toInt_lt.mp q; omega, Int32.lt_iff_toInt_lt.mpr h1⟩
  have hcase : (0 ≤ j.toInt ∧ j.toInt < 33) ∨ j.toInt = 33 ∨ j.toInt = 34 ∨ j.toInt = 35 ∨ j.toInt = 36 ∨ j.toInt = 37 ∨ (38 ≤ j.toInt ∧ j.toInt < 43) ∨ j.toInt = 43 ∨ j.toInt = 44 ∨ j.toInt = 45 ∨ j.toInt = 46 ∨ j.toInt = 47 ∨ (48 ≤ j.toInt ∧ j.toInt < 58) ∨ j.toInt = 58 ∨ j.toInt = 59 ∨ j.toInt = 60 ∨ j.toInt = 61 ∨ j.toInt = 62 ∨ j.toInt = 63 ∨ j.toInt = 64 ∨ (65 ≤ j.toInt ∧ j.toInt < 71) ∨ (71 ≤ j.toInt ∧ j.toInt < 91) ∨ (91 ≤ j.toInt ∧ j.toInt < 95) ∨ j.toInt = 95 ∨ j.toInt = 96 ∨ (97 ≤ j.toInt ∧ j.toInt < 103) ∨ (103 ≤ j.toInt ∧ j.toInt < 123) ∨ j.toInt = 123 ∨ j.toInt = 124 ∨ j.toInt = 125 ∨ j.toInt = 126 ∨ j.toInt = 127 := by omega
  rcases hcase with q | q | q | q | q | q | q | q | q | q | q | q | q | q | q | q | q | q | q | q | q | q | q | q | q | q | q | q | q | q | q | q
  · rw [t0 j hj q.2]
    exact ⟨fun n => absurd n (by unfold own_unres; omega), fun _ => by decide⟩
  · obtain rfl : j = 33 := Int32.toInt_inj.mp q
    rw [t1]
    exact ⟨fun n => absurd n (by unfold own_unres; decide), fun _ => by decide⟩
  · obtain rfl : j = 34 := Int32.toInt_inj.mp q
    rw [t2]
    exact ⟨fun n => absurd n (by unfold own_unres; decide), fun _ => by decide⟩
  · obtain rfl : j = 35 := Int32.toInt_inj.mp q
    rw [t3]
    exact ⟨fun n => absurd n (by unfold own_unres; decide), fun _ => by decide⟩
  · obtain rfl : j = 36 := Int32.toInt_inj.mp q
    rw [t4]
    exact ⟨fun n => absurd n (by unfold own_unres; decide), fun _ => by decide⟩
  · obtain rfl : j = 37 := Int32.toInt_inj.mp q
    rw [t5]
    exact ⟨fun n => absurd n (by unfold own_unres; decide), fun _ => by decide⟩
  · rw [t6 j hj q.1 q.2]
    exact ⟨fun n => absurd n (by unfold own_unres; omega), fun _ => by decide⟩
  · obtain rfl : j = 43 := Int32.toInt_inj.mp q
    rw [t7]
    exact ⟨fun n => absurd n (by unfold own_unres; decide), fun _ => by decide⟩
  · obtain rfl : j = 44 := Int32.toInt_inj.mp q
    rw [t8]
    exact ⟨fun n => absurd n (by unfold own_unres; decide), fun _ => by decide⟩
  · obtain rfl : j = 45 := Int32.toInt_inj.mp q
    rw [t9]
    exact ⟨fun _ => by decide, fun n => absurd (by unfold own_unres; decide) n⟩
  · obtain rfl : j = 46 := Int32.toInt_inj.mp q
    rw [t10]
    exact ⟨fun _ => by decide, fun n => absurd (by unfold own_unres; decide) n⟩
  · obtain rfl : j = 47 := Int32.toInt_inj.mp q
    rw [t11]
    exact ⟨fun n => absurd n (by unfold own_unres; decide), fun _ => by decide⟩
  · rw [t12 j hj q.1 q.2]
    exact ⟨fun _ => by decide, fun n => absurd (by unfold own_unres; omega) n⟩
  · obtain rfl : j = 58 := Int32.toInt_inj.mp q
    rw [t13]
    exact ⟨fun n => absurd n (by unfold own_unres; decide), fun _ => by decide⟩
  · obtain rfl : j = 59 := Int32.toInt_inj.mp q
    rw [t14]
    exact ⟨fun n => absurd n (by unfold own_unres; decide), fun _ => by decide⟩
  · obtain rfl : j = 60 := Int32.toInt_inj.mp q
    rw [t15]
    exact ⟨fun n => absurd n (by unfold own_unres; decide), fun _ => by decide⟩
  · obtain rfl : j = 61 := Int32.toInt_inj.mp q
    rw [t16]
    exact ⟨fun n => absurd n (by unfold own_unres; decide), fun _ => by decide⟩
  · obtain rfl : j = 62 := Int32.toInt_inj.mp q
    rw [t17]
    exact ⟨fun n => absurd n (by unfold own_unres; decide), fun _ => by decide⟩
  · obtain rfl : j = 63 := Int32.toInt_inj.mp q
    rw [t18]
    exact ⟨fun n => absurd n (by unfold own_unres; decide), fun _ => by decide⟩
  · obtain rfl : j = 64 := Int32.toInt_inj.mp q
    rw [t19]
    exact ⟨fun n => absurd n (by unfold own_unres; decide), fun _ => by decide⟩
  · rw [t20 j hj q.1 q.2]
    exact ⟨fun _ => by decide, fun n => absurd (by unfold own_unres; omega) n⟩
  · rw [t21 j hj q.1 q.2]
    exact ⟨fun _ => by decide, fun n => absurd (by unfold own_unres; omega) n⟩
  · rw [t22 j hj q.1 q.2]
    exact ⟨fun n => absurd n (by unfold own_unres; omega), fun _ => by decide⟩
  · obtain rfl : j = 95 := Int32.toInt_inj.mp q
    rw [t23]
    exact ⟨fun _ => by decide, fun n => absurd (by unfold own_unres; decide) n⟩
  · obtain rfl : j = 96 := Int32.toInt_inj.mp q
    rw [t24]
    exact ⟨fun n => absurd n (by unfold own_unres; decide), fun _ => by decide⟩
  · rw [t25 j hj q.1 q.2]
    exact ⟨fun _ => by decide, fun n => absurd (by unfold own_unres; omega) n⟩
  · rw [t26 j hj q.1 q.2]
    exact ⟨fun _ => by decide, fun n => absurd (by unfold own_unres; omega) n⟩
  · obtain rfl : j = 123 := Int32.toInt_inj.mp q
    rw [t27]
    exact ⟨fun n => absurd n (by unfold own_unres; decide), fun _ => by decide⟩
  · obtain rfl : j = 124 := Int32.toInt_inj.mp q
    rw [t28]
    exact ⟨fun n => absurd n (by unfold own_unres; decide), fun _ => by decide⟩
  · obtain rfl : j = 125 := Int32.toInt_inj.mp q
    rw [t29]
    exact ⟨fun n => absurd n (by unfold own_unres; decide), fun _ => by decide⟩
  · obtain rfl : j = 126 := Int32.toInt_inj.mp q
    rw [t30]
    exact ⟨fun _ => by decide, fun n => absurd (by unfold own_unres; decide) n⟩
  · obtain rfl : j = 127 := Int32.toInt_inj.mp q
    rw [t31]
    exact ⟨fun n => absurd n (by unfold own_unres; decide), fun _ => by decide⟩
end OwnTab
theorem d1_0 : decode prog_4_method_7_code 0 = .ok (.iload_n 0, 1) := by decide +kernel
theorem d1_1 : decode prog_4_method_7_code 1 = .ok (.getstatic 19, 3) := by decide +kernel
theorem d1_4 : decode prog_4_method_7_code 4 = .ok (.arraylength, 1) := by decide +kernel
theorem d1_5 : decode prog_4_method_7_code 5 = .ok (.if_icmp .ge 18, 3) := by decide +kernel
theorem d1_8 : decode prog_4_method_7_code 8 = .ok (.getstatic 19, 3) := by decide +kernel
theorem d1_11 : decode prog_4_method_7_code 11 = .ok (.iload_n 0, 1) := by decide +kernel
theorem d1_12 : decode prog_4_method_7_code 12 = .ok (.saload, 1) := by decide +kernel
theorem d1_13 : decode prog_4_method_7_code 13 = .ok (.bipush 16, 2) := by decide +kernel
theorem d1_15 : decode prog_4_method_7_code 15 = .ok (.iand, 1) := by decide +kernel
theorem d1_16 : decode prog_4_method_7_code 16 = .ok (.ifCond .eq 7, 3) := by decide +kernel
theorem d1_19 : decode prog_4_method_7_code 19 = .ok (.iconst 1, 1) := by decide +kernel
theorem d1_20 : decode prog_4_method_7_code 20 = .ok (.goto 4, 3) := by decide +kernel
theorem d1_23 : decode prog_4_method_7_code 23 = .ok (.iconst 0, 1) := by decide +kernel
theorem d1_24 : decode prog_4_method_7_code 24 = .ok (.ireturn, 1) := by decide +kernel
theorem pn1 : plainName "com/example/authority/authority/UriGrammar" = true := by first | (simp [plainName, overriddenIn]; done) | decide +kernel
theorem ef1 (m : MethodId) (p0 : Int32) : entryFrame m #[(.int p0)] 1 = mkF m 0 #[.val (.int p0)] [] := by first | (simp [entryFrame, mkF, argsToLocals, Value.category]; done) | rfl
set_option maxRecDepth 65536 in
set_option maxHeartbeats 40000000 in
theorem rm1 (l : Launch) (Z : State) (a0 : Array Value) (hw : ∀ d ∈ tables_1, d.before a0 Z = true) (ws : List Jvm.Cond) (n0 : Nat) (h0 : Heap) (O0 : Old Z n0 h0) (p0 : Int32) (w_C : Addr) (cl : Cell) (S_C : Sta Z Z.heap "com/example/authority/authority/UriGrammar" "CLASSES" "[S" (.ref w_C)) (H : Tab Z Z.heap w_C cl .short 128) (hT : ∀ j : Int32, 0 ≤ j.toInt → j.toInt < 128 → (own_unres j.toInt → ¬ (atv cl j &&& (16 : Int32)) = 0) ∧ (¬ own_unres j.toInt → (atv cl j &&& (16 : Int32)) = 0)) (hp : 0 ≤ p0.toInt) (r : Int32) (hr1 : own_unres p0.toInt → r = 1) (hr0 : ¬ own_unres p0.toInt → r = 0) :
    Meets1 l (⟨"com/example/authority/authority/UriGrammar", "isUnreserved", "(C)Z"⟩ : MethodName) prog_4_method_7_code 1 (some .boolean) ws ({ frames := 0, cells := 0, slots := 0, locals := 0 } : Room) #[(.int p0)] Z h0 (fun v h L => v = some (.int r) ∧ Fr n0 L ∧ h = h0) := by
  refine MetFree.of_bodySF (plainFor_of_name pn1) hisR ?_
  intro p e s m args below meth c s₁ Bd hml0 hP hK
  obtain ⟨rfl, hZ, hh⟩ := hP
  have hx := Bd.exec
  have hby := Bd.bytes
  have hml : c.maxLocals = 1 := hml0
  have hown : s.vm.findClass "com/example/authority/authority/UriGrammar" = some m.cls := findClass_of_methodNamed Bd.named
  have hnm := (name_of_methodNamed Bd.named Bd.method).1
  have X0 : Stand p l e ({ frames := 0, cells := 0, slots := 0, locals := 0 } : Room) s m #[(.int p0)] below meth c s₁ [] 0 0 := Stand.of_body Bd
  have e0 : s₁.heap = h0 := by rw [← hh, Bd.state]; rfl
  have N0 := Fr.nil n0
  have Z0 := own_old_le O0
  show Ends p e below s s₁ (entryFrame m #[(.int p0)] 1) ({ frames := 0, cells := 0, slots := 0, locals := 0 } : Room).cells ({ frames := 0, cells := 0, slots := 0, locals := 0 } : Room).slots (fun v h L => v = some (.int r) ∧ Fr n0 L ∧ h = h0)
  refine Ends.go (fun _ k => castTop (ef1 m p0) k) ?_
  have K0 := Keep.refl h0 []
  show Ends p e below s s₁ (mkF m 0 #[.val (.int p0)] []) _ _ _
  refine Ends.go (fun _ k => XS.iloadN X0.here hx rfl (hb hby d1_0) rfl k) ?_
  show Ends p e below s s₁ (mkF m 1 #[.val (.int p0)] [(.int p0)]) _ _ _
  obtain ⟨T1, X1, e1, st1⟩ := getS2 X0 hx hZ hown (host := "") (Or.inl (hw _ (List.mem_of_getElem? (i := 4) rfl))) Via.refl e0 (S_C.ext O0.2) (g := (mkF m 1 #[.val (.int p0)] [(.int p0)])) rfl (hb hby d1_1)
  refine Ends.go st1 ?_
  show Ends p e below s T1 (mkF m 4 #[.val (.int p0)] [(.ref w_C), (.int p0)]) _ _ _
  have ArT1 := H.1.ext O0.2
  refine Ends.go (X1.arraylength hx (by rw [e1]; exact ArT1.1) (State.isArrayOf_alike hZ.alike ArT1.2.1) (g := (mkF m 4 #[.val (.int p0)] [(.ref w_C), (.int p0)])) rfl rfl (hb hby d1_4)) ?_
  rw [len_of H.2.1 H.2.2.1]
  show Ends p e below s T1 (mkF m 5 #[.val (.int p0)] [(.int (128 : Int32)), (.int p0)]) _ _ _
  by_cases hc5_2 : p0 < (128 : Int32)
  · refine Ends.go (fun _ k => XS.icmpNo X1.here hx rfl (hb hby d1_5) rfl (tlt hc5_2).2.1 k) ?_
    show Ends p e below s T1 (mkF m 8 #[.val (.int p0)] []) _ _ _
    obtain ⟨T3, X3, e3, st3⟩ := getS2 X1 hx hZ hown (host := "") (Or.inl (hw _ (List.mem_of_getElem? (i := 4) rfl))) Via.refl e1 (S_C.ext O0.2) (g := (mkF m 8 #[.val (.int p0)] [])) rfl (hb hby d1_8)
    refine Ends.go st3 ?_
    show Ends p e below s T3 (mkF m 11 #[.val (.int p0)] [(.ref w_C)]) _ _ _
    refine Ends.go (fun _ k => XS.iloadN X3.here hx rfl (hb hby d1_11) rfl k) ?_
    show Ends p e below s T3 (mkF m 12 #[.val (.int p0)] [(.int p0), (.ref w_C)]) _ _ _
    have ArT3 := H.1.ext O0.2
    have h128 : p0.toInt < 128 := Int32.lt_iff_toInt_lt.mp hc5_2
    have hin : ¬ (p0 < 0 ∨ cl.slots.size ≤ p0.toNatClampNeg) := inb_of H.2.1 ⟨fun q => by have q' : p0.toInt < 0 := Int32.lt_iff_toInt_lt.mp q; omega, hc5_2⟩
    refine Ends.go (X3.saload hx (j := p0) (v := (.int (atv cl p0))) (by rw [e3]; exact ArT3.1) (State.isArrayOf_alike hZ.alike ArT3.2.1) ArT3.2.2 hin (H.2.2.2 p0 hin) (g := (mkF m 12 #[.val (.int p0)] [(.int p0), (.ref w_C)])) rfl rfl (hb hby d1_12)) ?_
    show Ends p e below s T3 (mkF m 13 #[.val (.int p0)] [(.int (atv cl p0))]) _ _ _
    refine Ends.go (fun _ k => XS.bipush X3.here hx rfl (hb hby d1_13) k) ?_
    show Ends p e below s T3 (mkF m 15 #[.val (.int p0)] [(.int (16 : Int32)), (.int (atv cl p0))]) _ _ _
    refine Ends.go (fun _ k => XS.iand X3.here hx rfl (hb hby d1_15) rfl k) ?_
    show Ends p e below s T3 (mkF m 16 #[.val (.int p0)] [(.int ((atv cl p0) &&& (16 : Int32)))]) _ _ _
    by_cases hc16_4 : ((atv cl p0) &&& (16 : Int32)) = (0 : Int32)
    · refine Ends.go (fun _ k => XS.ifYes X3.here hx rfl (pc0 := 16) (pc' := 23) rfl (hb hby d1_16) rfl ((if0 _ _).trans (teq hc16_4).1) (by decide) (by decide) k) ?_
      show Ends p e below s T3 (mkF m 23 #[.val (.int p0)] []) _ _ _
      refine Ends.go (fun _ k => XS.iconst X3.here hx rfl (hb hby d1_23) k) ?_
      show Ends p e below s T3 (mkF m 24 #[.val (.int p0)] [(.int (0 : Int32))]) _ _ _
      refine Ends.retZ X3 hx Bd.notSynchronized (t := .boolean) Bd.returns (by simp) (hb hby d1_24) (by decide) (by decide) ?_
      refine ⟨?_, N0, e3⟩
      show (some (.int (0 : Int32)) : Option Value) = _
      rw [hr0 (fun q => (hT p0 hp h128).1 q hc16_4)]
    · refine Ends.go (fun _ k => XS.ifNo X3.here hx rfl (hb hby d1_16) rfl ((if0 _ _).trans (feq hc16_4).1) k) ?_
      show Ends p e below s T3 (mkF m 19 #[.val (.int p0)] []) _ _ _
      refine Ends.go (fun _ k => XS.iconst X3.here hx rfl (hb hby d1_19) k) ?_
      show Ends p e below s T3 (mkF m 20 #[.val (.int p0)] [(.int (1 : Int32))]) _ _ _
      refine Ends.go (fun _ k => XS.goto X3.here hx rfl (pc0 := 20) (pc' := 24) rfl (hb hby d1_20) (by decide) (by decide) k) ?_
      show Ends p e below s T3 (mkF m 24 #[.val (.int p0)] [(.int (1 : Int32))]) _ _ _
      refine Ends.retZ X3 hx Bd.notSynchronized (t := .boolean) Bd.returns (by simp) (hb hby d1_24) (by decide) (by decide) ?_
      refine ⟨?_, N0, e3⟩
      show (some (.int (1 : Int32)) : Option Value) = _
      rw [hr1 (Classical.byContradiction fun q => hc16_4 ((hT p0 hp h128).2 q))]
  · refine Ends.go (fun _ k => XS.icmpYes X1.here hx rfl (pc0 := 5) (pc' := 23) rfl (hb hby d1_5) rfl (flt hc5_2).2.1 (by decide) (by decide) k) ?_
    show Ends p e below s T1 (mkF m 23 #[.val (.int p0)] []) _ _ _
    refine Ends.go (fun _ k => XS.iconst X1.here hx rfl (hb hby d1_23) k) ?_
    show Ends p e below s T1 (mkF m 24 #[.val (.int p0)] [(.int (0 : Int32))]) _ _ _
    refine Ends.retZ X1 hx Bd.notSynchronized (t := .boolean) Bd.returns (by simp) (hb hby d1_24) (by decide) (by decide) ?_
    refine ⟨?_, N0, e1⟩
    show (some (.int (0 : Int32)) : Option Value) = _
    rw [hr0 (fun q => by unfold own_unres at q; have q' : ¬ p0.toInt < 128 := fun z => hc5_2 (Int32.lt_iff_toInt_lt.mpr z); omega)]
theorem pn0 : plainName "com/example/authority/authority/UriGrammarIsUnreservedPinLaw" = true := by first | (simp [plainName, overriddenIn]; done) | decide +kernel
theorem pd0_0 : parseMethodDescriptor "(C)Z" = some ⟨[.char], some .boolean⟩ := by decide +kernel
theorem ef0 (m : MethodId) (p0 : Int32) (p1 : Int32) : entryFrame m #[(.int p0), (.int p1)] maxLocals = mkF m 0 #[.val (.int p0), .val (.int p1), .unset, .unset] [] := by first | (simp [entryFrame, mkF, argsToLocals, Value.category, maxLocals]; done) | rfl
set_option maxRecDepth 65536 in
set_option maxHeartbeats 40000000 in
theorem rm0 (l : Launch) (Z : State) (a0 : Array Value) (hw : ∀ d ∈ tables_1, d.before a0 Z = true) (ws : List Jvm.Cond) (n0 : Nat) (h0 : Heap) (O0 : Old Z n0 h0) (p0 : Int32) (p1 : Int32) (w_C : Addr) (cl : Cell) (S_C : Sta Z Z.heap "com/example/authority/authority/UriGrammar" "CLASSES" "[S" (.ref w_C)) (H : Tab Z Z.heap w_C cl .short 128) (hT : ∀ j : Int32, 0 ≤ j.toInt → j.toInt < 128 → (own_unres j.toInt → ¬ (atv cl j &&& (16 : Int32)) = 0) ∧ (¬ own_unres j.toInt → (atv cl j &&& (16 : Int32)) = 0)) :
    Meets1 l x code maxLocals ret ws room_1 #[(.int p0), (.int p1)] Z h0 (fun v h L => v = some (.int (1 : Int32)) ∧ Fr n0 L) := by
  refine MetFree.of_bodySF (plainFor_of_name pn0) hisR ?_
  intro p e s m args below meth c s₁ Bd hml0 hP hK
  obtain ⟨rfl, hZ, hh⟩ := hP
  have hx := Bd.exec
  have hby := Bd.bytes
  have hml : c.maxLocals = 4 := hml0
  have hown : s.vm.findClass "com/example/authority/authority/UriGrammarIsUnreservedPinLaw" = some m.cls := findClass_of_methodNamed Bd.named
  have hnm := (name_of_methodNamed Bd.named Bd.method).1
  have X0 : Stand p l e room_1 s m #[(.int p0), (.int p1)] below meth c s₁ [] 0 0 := Stand.of_body Bd
  have e0 : s₁.heap = h0 := by rw [← hh, Bd.state]; rfl
  have N0 := Fr.nil n0
  have Z0 := own_old_le O0
  show Ends p e below s s₁ (entryFrame m #[(.int p0), (.int p1)] maxLocals) room_1.cells room_1.slots (fun v h L => v = some (.int (1 : Int32)) ∧ Fr n0 L)
  refine Ends.go (fun _ k => castTop (ef0 m p0 p1) k) ?_
  have K0 := Keep.refl h0 []
  have J17 : ∀ c' : Int32, 0 ≤ c'.toInt → c'.toInt < 65536 → Ends p e below s s₁ (mkF m 17 #[.val (.int p0), .val (.int p1), .val (.int c'), .unset] []) room_1.cells room_1.slots (fun v h L => v = some (.int (1 : Int32)) ∧ Fr n0 L) := by
    intro c' hc0 hc1
    have J83 : ∀ b : Int32, (own_unres c'.toInt → b = 1) → (¬ own_unres c'.toInt → b = 0) → Ends p e below s s₁ (mkF m 83 #[.val (.int p0), .val (.int p1), .val (.int c'), .val (.int b)] []) room_1.cells room_1.slots (fun v h L => v = some (.int (1 : Int32)) ∧ Fr n0 L) := by
      intro b hb1 hb0
      show Ends p e below s s₁ (mkF m 83 #[.val (.int p0), .val (.int p1), .val (.int c'), .val (.int b)] []) _ _ _
      refine Ends.go (fun _ k => XS.iloadN X0.here hx rfl (hb hby at_83) rfl k) ?_
      show Ends p e below s s₁ (mkF m 84 #[.val (.int p0), .val (.int p1), .val (.int c'), .val (.int b)] [(.int c')]) _ _ _
      obtain ⟨_, _, ⟨T1, L1, k1, n1⟩, -, X1, ⟨Lc1, hQ1, l1, y1, z1⟩, st1⟩ := Jvm.LawKit.callS X0 hx (y := (⟨"com/example/authority/authority/UriGrammar", "isUnreserved", "(C)Z"⟩ : MethodName)) hown (mvT hZ (hw _ (List.mem_of_getElem? (i := 0) rfl))) (mvT hZ (hw _ (List.mem_of_getElem? (i := 1) rfl))) (mvT hZ (hw _ (List.mem_of_getElem? (i := 2) rfl))) (mvT hZ (hw _ (List.mem_of_getElem? (i := 3) rfl))) (by decide) (own_backOf (W := 0) (rm1 l Z a0 hw [] n0 h0 O0 c' w_C cl S_C H hT hc0 b hb1 hb0) hZ (hw _ (List.mem_of_getElem? (i := 3) rfl)) (hw _ (List.mem_of_getElem? (i := 2) rfl)) (by decide) (by decide)) (g := (mkF m 84 #[.val (.int p0), .val (.int p1), .val (.int c'), .val (.int b)] [(.int c')])) rfl (by rw [hml]; rfl) (argsL := [(.int c')]) (rest := []) (lenOf pd0_0 rfl) rfl (by show 2 * 0 + _ ≤ _; exact Nat.le_of_eq rfl) (hb hby at_84) (fun _ _ => ⟨rfl, e0, (by decide : 0 + 0 ≤ _), (by decide : 0 + 0 ≤ _)⟩)
      dsimp only [Pt.U, Pt.locs, Pt.cells, Pt.slots] at X1 l1 y1 z1 st1 hQ1
      subst l1 y1 z1
      obtain ⟨rfl, N1q, e1q⟩ := hQ1
      have N1 := Fr.app N0 N1q
      refine Ends.go st1 ?_
      show Ends p e below s T1 (mkF m 87 #[.val (.int p0), .val (.int p1), .val (.int c'), .val (.int b)] [(.int b)]) _ _ _
      refine Ends.go (fun _ k => XS.iloadN X1.here hx rfl (hb hby at_87) rfl k) ?_
      show Ends p e below s T1 (mkF m 88 #[.val (.int p0), .val (.int p1), .val (.int c'), .val (.int b)] [(.int b), (.int b)]) _ _ _
      refine Ends.go (fun _ k => XS.icmpNo X1.here hx rfl (hb hby at_88) rfl (teq (rfl : b = b)).2 k) ?_
      show Ends p e below s T1 (mkF m 91 #[.val (.int p0), .val (.int p1), .val (.int c'), .val (.int b)] []) _ _ _
      refine Ends.go (fun _ k => XS.iconst X1.here hx rfl (hb hby at_91) k) ?_
      show Ends p e below s T1 (mkF m 92 #[.val (.int p0), .val (.int p1), .val (.int c'), .val (.int b)] [(.int (1 : Int32))]) _ _ _
      refine Ends.go (fun _ k => XS.goto X1.here hx rfl (pc0 := 92) (pc' := 96) rfl (hb hby at_92) (by decide) (by decide) k) ?_
      show Ends p e below s T1 (mkF m 96 #[.val (.int p0), .val (.int p1), .val (.int c'), .val (.int b)] [(.int (1 : Int32))]) _ _ _
      refine Ends.retZ X1 hx Bd.notSynchronized (t := .boolean) Bd.returns (by simp) (hb hby at_96) (by decide) (by decide) ?_
      exact ⟨rfl, N1⟩
    show Ends p e below s s₁ (mkF m 17 #[.val (.int p0), .val (.int p1), .val (.int c'), .unset] []) _ _ _
    refine Ends.go (fun _ k => XS.iloadN X0.here hx rfl (hb hby at_17) rfl k) ?_
    show Ends p e below s s₁ (mkF m 18 #[.val (.int p0), .val (.int p1), .val (.int c'), .unset] [(.int c')]) _ _ _
    refine Ends.go (fun _ k => XS.bipush X0.here hx rfl (hb hby at_18) k) ?_
    show Ends p e below s s₁ (mkF m 20 #[.val (.int p0), .val (.int p1), .val (.int c'), .unset] [(.int (65 : Int32)), (.int c')]) _ _ _
    by_cases hc20_2 : c' < (65 : Int32)
    · refine Ends.go (fun _ k => XS.icmpYes X0.here hx rfl (pc0 := 20) (pc' := 29) rfl (hb hby at_20) rfl (tlt hc20_2).1 (by decide) (by decide) k) ?_
      show Ends p e below s s₁ (mkF m 29 #[.val (.int p0), .val (.int p1), .val (.int c'), .unset] []) _ _ _
      have hc20_2i : c'.toInt < 65 := Int32.lt_iff_toInt_lt.mp hc20_2
      refine Ends.go (fun _ k => XS.iloadN X0.here hx rfl (hb hby at_29) rfl k) ?_
      show Ends p e below s s₁ (mkF m 30 #[.val (.int p0), .val (.int p1), .val (.int c'), .unset] [(.int c')]) _ _ _
      refine Ends.go (fun _ k => XS.bipush X0.here hx rfl (hb hby at_30) k) ?_
      show Ends p e below s s₁ (mkF m 32 #[.val (.int p0), .val (.int p1), .val (.int c'), .unset] [(.int (97 : Int32)), (.int c')]) _ _ _
      by_cases hc32_3 : c' < (97 : Int32)
      · refine Ends.go (fun _ k => XS.icmpYes X0.here hx rfl (pc0 := 32) (pc' := 41) rfl (hb hby at_32) rfl (tlt hc32_3).1 (by decide) (by decide) k) ?_
        show Ends p e below s s₁ (mkF m 41 #[.val (.int p0), .val (.int p1), .val (.int c'), .unset] []) _ _ _
        have hc32_3i : c'.toInt < 97 := Int32.lt_iff_toInt_lt.mp hc32_3
        refine Ends.go (fun _ k => XS.iloadN X0.here hx rfl (hb hby at_41) rfl k) ?_
        show Ends p e below s s₁ (mkF m 42 #[.val (.int p0), .val (.int p1), .val (.int c'), .unset] [(.int c')]) _ _ _
        refine Ends.go (fun _ k => XS.bipush X0.here hx rfl (hb hby at_42) k) ?_
        show Ends p e below s s₁ (mkF m 44 #[.val (.int p0), .val (.int p1), .val (.int c'), .unset] [(.int (48 : Int32)), (.int c')]) _ _ _
        by_cases hc44_4 : c' < (48 : Int32)
        · refine Ends.go (fun _ k => XS.icmpYes X0.here hx rfl (pc0 := 44) (pc' := 53) rfl (hb hby at_44) rfl (tlt hc44_4).1 (by decide) (by decide) k) ?_
          show Ends p e below s s₁ (mkF m 53 #[.val (.int p0), .val (.int p1), .val (.int c'), .unset] []) _ _ _
          have hc44_4i : c'.toInt < 48 := Int32.lt_iff_toInt_lt.mp hc44_4
          refine Ends.go (fun _ k => XS.iloadN X0.here hx rfl (hb hby at_53) rfl k) ?_
          show Ends p e below s s₁ (mkF m 54 #[.val (.int p0), .val (.int p1), .val (.int c'), .unset] [(.int c')]) _ _ _
          refine Ends.go (fun _ k => XS.bipush X0.here hx rfl (hb hby at_54) k) ?_
          show Ends p e below s s₁ (mkF m 56 #[.val (.int p0), .val (.int p1), .val (.int c'), .unset] [(.int (45 : Int32)), (.int c')]) _ _ _
          by_cases hc56_5 : c' = (45 : Int32)
          · refine Ends.go (fun _ k => XS.icmpYes X0.here hx rfl (pc0 := 56) (pc' := 77) rfl (hb hby at_56) rfl (teq hc56_5).1 (by decide) (by decide) k) ?_
            show Ends p e below s s₁ (mkF m 77 #[.val (.int p0), .val (.int p1), .val (.int c'), .unset] []) _ _ _
            have hc56_5i : c'.toInt = 45 := congrArg Int32.toInt hc56_5
            refine Ends.go (fun _ k => XS.iconst X0.here hx rfl (hb hby at_77) k) ?_
            show Ends p e below s s₁ (mkF m 78 #[.val (.int p0), .val (.int p1), .val (.int c'), .unset] [(.int (1 : Int32))]) _ _ _
            refine Ends.go (fun _ k => XS.goto X0.here hx rfl (pc0 := 78) (pc' := 82) rfl (hb hby at_78) (by decide) (by decide) k) ?_
            show Ends p e below s s₁ (mkF m 82 #[.val (.int p0), .val (.int p1), .val (.int c'), .unset] [(.int (1 : Int32))]) _ _ _
            refine Ends.go (fun _ k => XS.istoreN X0.here hx rfl (hb hby at_82) rfl (l' := #[.val (.int p0), .val (.int p1), .val (.int c'), .val (.int (1 : Int32))]) rfl k) ?_
            show Ends p e below s s₁ (mkF m 83 #[.val (.int p0), .val (.int p1), .val (.int c'), .val (.int (1 : Int32))] []) _ _ _
            exact J83 1 (fun _ => rfl) (fun q => absurd (by unfold own_unres; omega) q)
          · refine Ends.go (fun _ k => XS.icmpNo X0.here hx rfl (hb hby at_56) rfl (feq hc56_5).1 k) ?_
            show Ends p e below s s₁ (mkF m 59 #[.val (.int p0), .val (.int p1), .val (.int c'), .unset] []) _ _ _
            have hc56_5i : ¬ (c'.toInt = 45) := fun q => hc56_5 (Int32.toInt_inj.mp q)
            refine Ends.go (fun _ k => XS.iloadN X0.here hx rfl (hb hby at_59) rfl k) ?_
            show Ends p e below s s₁ (mkF m 60 #[.val (.int p0), .val (.int p1), .val (.int c'), .unset] [(.int c')]) _ _ _
            refine Ends.go (fun _ k => XS.bipush X0.here hx rfl (hb hby at_60) k) ?_
            show Ends p e below s s₁ (mkF m 62 #[.val (.int p0), .val (.int p1), .val (.int c'), .unset] [(.int (46 : Int32)), (.int c')]) _ _ _
            by_cases hc62_6 : c' = (46 : Int32)
            · refine Ends.go (fun _ k => XS.icmpYes X0.here hx rfl (pc0 := 62) (pc' := 77) rfl (hb hby at_62) rfl (teq hc62_6).1 (by decide) (by decide) k) ?_
              show Ends p e below s s₁ (mkF m 77 #[.val (.int p0), .val (.int p1), .val (.int c'), .unset] []) _ _ _
              have hc62_6i : c'.toInt = 46 := congrArg Int32.toInt hc62_6
              refine Ends.go (fun _ k => XS.iconst X0.here hx rfl (hb hby at_77) k) ?_
              show Ends p e below s s₁ (mkF m 78 #[.val (.int p0), .val (.int p1), .val (.int c'), .unset] [(.int (1 : Int32))]) _ _ _
              refine Ends.go (fun _ k => XS.goto X0.here hx rfl (pc0 := 78) (pc' := 82) rfl (hb hby at_78) (by decide) (by decide) k) ?_
              show Ends p e below s s₁ (mkF m 82 #[.val (.int p0), .val (.int p1), .val (.int c'), .unset] [(.int (1 : Int32))]) _ _ _
              refine Ends.go (fun _ k => XS.istoreN X0.here hx rfl (hb hby at_82) rfl (l' := #[.val (.int p0), .val (.int p1), .val (.int c'), .val (.int (1 : Int32))]) rfl k) ?_
              show Ends p e below s s₁ (mkF m 83 #[.val (.int p0), .val (.int p1), .val (.int c'), .val (.int (1 : Int32))] []) _ _ _
              exact J83 1 (fun _ => rfl) (fun q => absurd (by unfold own_unres; omega) q)
            · refine Ends.go (fun _ k => XS.icmpNo X0.here hx rfl (hb hby at_62) rfl (feq hc62_6).1 k) ?_
              show Ends p e below s s₁ (mkF m 65 #[.val (.int p0), .val (.int p1), .val (.int c'), .unset] []) _ _ _
              have hc62_6i : ¬ (c'.toInt = 46) := fun q => hc62_6 (Int32.toInt_inj.mp q)
              refine Ends.go (fun _ k => XS.iloadN X0.here hx rfl (hb hby at_65) rfl k) ?_
              show Ends p e below s s₁ (mkF m 66 #[.val (.int p0), .val (.int p1), .val (.int c'), .unset] [(.int c')]) _ _ _
              refine Ends.go (fun _ k => XS.bipush X0.here hx rfl (hb hby at_66) k) ?_
              show Ends p e below s s₁ (mkF m 68 #[.val (.int p0), .val (.int p1), .val (.int c'), .unset] [(.int (95 : Int32)), (.int c')]) _ _ _
              by_cases hc68_7 : c' = (95 : Int32)
              · refine Ends.go (fun _ k => XS.icmpYes X0.here hx rfl (pc0 := 68) (pc' := 77) rfl (hb hby at_68) rfl (teq hc68_7).1 (by decide) (by decide) k) ?_
                show Ends p e below s s₁ (mkF m 77 #[.val (.int p0), .val (.int p1), .val (.int c'), .unset] []) _ _ _
                have hc68_7i : c'.toInt = 95 := congrArg Int32.toInt hc68_7
                refine Ends.go (fun _ k => XS.iconst X0.here hx rfl (hb hby at_77) k) ?_
                show Ends p e below s s₁ (mkF m 78 #[.val (.int p0), .val (.int p1), .val (.int c'), .unset] [(.int (1 : Int32))]) _ _ _
                refine Ends.go (fun _ k => XS.goto X0.here hx rfl (pc0 := 78) (pc' := 82) rfl (hb hby at_78) (by decide) (by decide) k) ?_
                show Ends p e below s s₁ (mkF m 82 #[.val (.int p0), .val (.int p1), .val (.int c'), .unset] [(.int (1 : Int32))]) _ _ _
                refine Ends.go (fun _ k => XS.istoreN X0.here hx rfl (hb hby at_82) rfl (l' := #[.val (.int p0), .val (.int p1), .val (.int c'), .val (.int (1 : Int32))]) rfl k) ?_
                show Ends p e below s s₁ (mkF m 83 #[.val (.int p0), .val (.int p1), .val (.int c'), .val (.int (1 : Int32))] []) _ _ _
                exact J83 1 (fun _ => rfl) (fun q => absurd (by unfold own_unres; omega) q)
              · refine Ends.go (fun _ k => XS.icmpNo X0.here hx rfl (hb hby at_68) rfl (feq hc68_7).1 k) ?_
                show Ends p e below s s₁ (mkF m 71 #[.val (.int p0), .val (.int p1), .val (.int c'), .unset] []) _ _ _
                have hc68_7i : ¬ (c'.toInt = 95) := fun q => hc68_7 (Int32.toInt_inj.mp q)
                refine Ends.go (fun _ k => XS.iloadN X0.here hx rfl (hb hby at_71) rfl k) ?_
                show Ends p e below s s₁ (mkF m 72 #[.val (.int p0), .val (.int p1), .val (.int c'), .unset] [(.int c')]) _ _ _
                refine Ends.go (fun _ k => XS.bipush X0.here hx rfl (hb hby at_72) k) ?_
                show Ends p e below s s₁ (mkF m 74 #[.val (.int p0), .val (.int p1), .val (.int c'), .unset] [(.int (126 : Int32)), (.int c')]) _ _ _
                by_cases hc74_8 : c' = (126 : Int32)
                · refine Ends.go (fun _ k => XS.icmpNo X0.here hx rfl (hb hby at_74) rfl (teq hc74_8).2 k) ?_
                  show Ends p e below s s₁ (mkF m 77 #[.val (.int p0), .val (.int p1), .val (.int c'), .unset] []) _ _ _
                  have hc74_8i : c'.toInt = 126 := congrArg Int32.toInt hc74_8
                  refine Ends.go (fun _ k => XS.iconst X0.here hx rfl (hb hby at_77) k) ?_
                  show Ends p e below s s₁ (mkF m 78 #[.val (.int p0), .val (.int p1), .val (.int c'), .unset] [(.int (1 : Int32))]) _ _ _
                  refine Ends.go (fun _ k => XS.goto X0.here hx rfl (pc0 := 78) (pc' := 82) rfl (hb hby at_78) (by decide) (by decide) k) ?_
                  show Ends p e below s s₁ (mkF m 82 #[.val (.int p0), .val (.int p1), .val (.int c'), .unset] [(.int (1 : Int32))]) _ _ _
                  refine Ends.go (fun _ k => XS.istoreN X0.here hx rfl (hb hby at_82) rfl (l' := #[.val (.int p0), .val (.int p1), .val (.int c'), .val (.int (1 : Int32))]) rfl k) ?_
                  show Ends p e below s s₁ (mkF m 83 #[.val (.int p0), .val (.int p1), .val (.int c'), .val (.int (1 : Int32))] []) _ _ _
                  exact J83 1 (fun _ => rfl) (fun q => absurd (by unfold own_unres; omega) q)
                · refine Ends.go (fun _ k => XS.icmpYes X0.here hx rfl (pc0 := 74) (pc' := 81) rfl (hb hby at_74) rfl (feq hc74_8).2 (by decide) (by decide) k) ?_
                  show Ends p e below s s₁ (mkF m 81 #[.val (.int p0), .val (.int p1), .val (.int c'), .unset] []) _ _ _
                  have hc74_8i : ¬ (c'.toInt = 126) := fun q => hc74_8 (Int32.toInt_inj.mp q)
                  refine Ends.go (fun _ k => XS.iconst X0.here hx rfl (hb hby at_81) k) ?_
                  show Ends p e below s s₁ (mkF m 82 #[.val (.int p0), .val (.int p1), .val (.int c'), .unset] [(.int (0 : Int32))]) _ _ _
                  refine Ends.go (fun _ k => XS.istoreN X0.here hx rfl (hb hby at_82) rfl (l' := #[.val (.int p0), .val (.int p1), .val (.int c'), .val (.int (0 : Int32))]) rfl k) ?_
                  show Ends p e below s s₁ (mkF m 83 #[.val (.int p0), .val (.int p1), .val (.int c'), .val (.int (0 : Int32))] []) _ _ _
                  exact J83 0 (fun q => absurd q (by unfold own_unres; omega)) (fun _ => rfl)
        · refine Ends.go (fun _ k => XS.icmpNo X0.here hx rfl (hb hby at_44) rfl (flt hc44_4).1 k) ?_
          show Ends p e below s s₁ (mkF m 47 #[.val (.int p0), .val (.int p1), .val (.int c'), .unset] []) _ _ _
          have hc44_4i : ¬ (c'.toInt < 48) := fun q => hc44_4 (Int32.lt_iff_toInt_lt.mpr q)
          refine Ends.go (fun _ k => XS.iloadN X0.here hx rfl (hb hby at_47) rfl k) ?_
          show Ends p e below s s₁ (mkF m 48 #[.val (.int p0), .val (.int p1), .val (.int c'), .unset] [(.int c')]) _ _ _
          refine Ends.go (fun _ k => XS.bipush X0.here hx rfl (hb hby at_48) k) ?_
          show Ends p e below s s₁ (mkF m 50 #[.val (.int p0), .val (.int p1), .val (.int c'), .unset] [(.int (57 : Int32)), (.int c')]) _ _ _
          by_cases hc50_9 : (57 : Int32) < c'
          · refine Ends.go (fun _ k => XS.icmpNo X0.here hx rfl (hb hby at_50) rfl (tlt hc50_9).2.2.2 k) ?_
            show Ends p e below s s₁ (mkF m 53 #[.val (.int p0), .val (.int p1), .val (.int c'), .unset] []) _ _ _
            have hc50_9i : 57 < c'.toInt := Int32.lt_iff_toInt_lt.mp hc50_9
            refine Ends.go (fun _ k => XS.iloadN X0.here hx rfl (hb hby at_53) rfl k) ?_
            show Ends p e below s s₁ (mkF m 54 #[.val (.int p0), .val (.int p1), .val (.int c'), .unset] [(.int c')]) _ _ _
            refine Ends.go (fun _ k => XS.bipush X0.here hx rfl (hb hby at_54) k) ?_
            show Ends p e below s s₁ (mkF m 56 #[.val (.int p0), .val (.int p1), .val (.int c'), .unset] [(.int (45 : Int32)), (.int c')]) _ _ _
            by_cases hc56_10 : c' = (45 : Int32)
            · refine Ends.go (fun _ k => XS.icmpYes X0.here hx rfl (pc0 := 56) (pc' := 77) rfl (hb hby at_56) rfl (teq hc56_10).1 (by decide) (by decide) k) ?_
              show Ends p e below s s₁ (mkF m 77 #[.val (.int p0), .val (.int p1), .val (.int c'), .unset] []) _ _ _
              have hc56_10i : c'.toInt = 45 := congrArg Int32.toInt hc56_10
              refine Ends.go (fun _ k => XS.iconst X0.here hx rfl (hb hby at_77) k) ?_
              show Ends p e below s s₁ (mkF m 78 #[.val (.int p0), .val (.int p1), .val (.int c'), .unset] [(.int (1 : Int32))]) _ _ _
              refine Ends.go (fun _ k => XS.goto X0.here hx rfl (pc0 := 78) (pc' := 82) rfl (hb hby at_78) (by decide) (by decide) k) ?_
              show Ends p e below s s₁ (mkF m 82 #[.val (.int p0), .val (.int p1), .val (.int c'), .unset] [(.int (1 : Int32))]) _ _ _
              refine Ends.go (fun _ k => XS.istoreN X0.here hx rfl (hb hby at_82) rfl (l' := #[.val (.int p0), .val (.int p1), .val (.int c'), .val (.int (1 : Int32))]) rfl k) ?_
              show Ends p e below s s₁ (mkF m 83 #[.val (.int p0), .val (.int p1), .val (.int c'), .val (.int (1 : Int32))] []) _ _ _
              exact J83 1 (fun _ => rfl) (fun q => absurd (by unfold own_unres; omega) q)
            · refine Ends.go (fun _ k => XS.icmpNo X0.here hx rfl (hb hby at_56) rfl (feq hc56_10).1 k) ?_
              show Ends p e below s s₁ (mkF m 59 #[.val (.int p0), .val (.int p1), .val (.int c'), .unset] []) _ _ _
              have hc56_10i : ¬ (c'.toInt = 45) := fun q => hc56_10 (Int32.toInt_inj.mp q)
              refine Ends.go (fun _ k => XS.iloadN X0.here hx rfl (hb hby at_59) rfl k) ?_
              show Ends p e below s s₁ (mkF m 60 #[.val (.int p0), .val (.int p1), .val (.int c'), .unset] [(.int c')]) _ _ _
              refine Ends.go (fun _ k => XS.bipush X0.here hx rfl (hb hby at_60) k) ?_
              show Ends p e below s s₁ (mkF m 62 #[.val (.int p0), .val (.int p1), .val (.int c'), .unset] [(.int (46 : Int32)), (.int c')]) _ _ _
              by_cases hc62_11 : c' = (46 : Int32)
              · refine Ends.go (fun _ k => XS.icmpYes X0.here hx rfl (pc0 := 62) (pc' := 77) rfl (hb hby at_62) rfl (teq hc62_11).1 (by decide) (by decide) k) ?_
                show Ends p e below s s₁ (mkF m 77 #[.val (.int p0), .val (.int p1), .val (.int c'), .unset] []) _ _ _
                have hc62_11i : c'.toInt = 46 := congrArg Int32.toInt hc62_11
                refine Ends.go (fun _ k => XS.iconst X0.here hx rfl (hb hby at_77) k) ?_
                show Ends p e below s s₁ (mkF m 78 #[.val (.int p0), .val (.int p1), .val (.int c'), .unset] [(.int (1 : Int32))]) _ _ _
                refine Ends.go (fun _ k => XS.goto X0.here hx rfl (pc0 := 78) (pc' := 82) rfl (hb hby at_78) (by decide) (by decide) k) ?_
                show Ends p e below s s₁ (mkF m 82 #[.val (.int p0), .val (.int p1), .val (.int c'), .unset] [(.int (1 : Int32))]) _ _ _
                refine Ends.go (fun _ k => XS.istoreN X0.here hx rfl (hb hby at_82) rfl (l' := #[.val (.int p0), .val (.int p1), .val (.int c'), .val (.int (1 : Int32))]) rfl k) ?_
                show Ends p e below s s₁ (mkF m 83 #[.val (.int p0), .val (.int p1), .val (.int c'), .val (.int (1 : Int32))] []) _ _ _
                exact J83 1 (fun _ => rfl) (fun q => absurd (by unfold own_unres; omega) q)
              · refine Ends.go (fun _ k => XS.icmpNo X0.here hx rfl (hb hby at_62) rfl (feq hc62_11).1 k) ?_
                show Ends p e below s s₁ (mkF m 65 #[.val (.int p0), .val (.int p1), .val (.int c'), .unset] []) _ _ _
                have hc62_11i : ¬ (c'.toInt = 46) := fun q => hc62_11 (Int32.toInt_inj.mp q)
                refine Ends.go (fun _ k => XS.iloadN X0.here hx rfl (hb hby at_65) rfl k) ?_
                show Ends p e below s s₁ (mkF m 66 #[.val (.int p0), .val (.int p1), .val (.int c'), .unset] [(.int c')]) _ _ _
                refine Ends.go (fun _ k => XS.bipush X0.here hx rfl (hb hby at_66) k) ?_
                show Ends p e below s s₁ (mkF m 68 #[.val (.int p0), .val (.int p1), .val (.int c'), .unset] [(.int (95 : Int32)), (.int c')]) _ _ _
                by_cases hc68_12 : c' = (95 : Int32)
                · refine Ends.go (fun _ k => XS.icmpYes X0.here hx rfl (pc0 := 68) (pc' := 77) rfl (hb hby at_68) rfl (teq hc68_12).1 (by decide) (by decide) k) ?_
                  show Ends p e below s s₁ (mkF m 77 #[.val (.int p0), .val (.int p1), .val (.int c'), .unset] []) _ _ _
                  have hc68_12i : c'.toInt = 95 := congrArg Int32.toInt hc68_12
                  refine Ends.go (fun _ k => XS.iconst X0.here hx rfl (hb hby at_77) k) ?_
                  show Ends p e below s s₁ (mkF m 78 #[.val (.int p0), .val (.int p1), .val (.int c'), .unset] [(.int (1 : Int32))]) _ _ _
                  refine Ends.go (fun _ k => XS.goto X0.here hx rfl (pc0 := 78) (pc' := 82) rfl (hb hby at_78) (by decide) (by decide) k) ?_
                  show Ends p e below s s₁ (mkF m 82 #[.val (.int p0), .val (.int p1), .val (.int c'), .unset] [(.int (1 : Int32))]) _ _ _
                  refine Ends.go (fun _ k => XS.istoreN X0.here hx rfl (hb hby at_82) rfl (l' := #[.val (.int p0), .val (.int p1), .val (.int c'), .val (.int (1 : Int32))]) rfl k) ?_
                  show Ends p e below s s₁ (mkF m 83 #[.val (.int p0), .val (.int p1), .val (.int c'), .val (.int (1 : Int32))] []) _ _ _
                  exact J83 1 (fun _ => rfl) (fun q => absurd (by unfold own_unres; omega) q)
                · refine Ends.go (fun _ k => XS.icmpNo X0.here hx rfl (hb hby at_68) rfl (feq hc68_12).1 k) ?_
                  show Ends p e below s s₁ (mkF m 71 #[.val (.int p0), .val (.int p1), .val (.int c'), .unset] []) _ _ _
                  have hc68_12i : ¬ (c'.toInt = 95) := fun q => hc68_12 (Int32.toInt_inj.mp q)
                  refine Ends.go (fun _ k => XS.iloadN X0.here hx rfl (hb hby at_71) rfl k) ?_
                  show Ends p e below s s₁ (mkF m 72 #[.val (.int p0), .val (.int p1), .val (.int c'), .unset] [(.int c')]) _ _ _
                  refine Ends.go (fun _ k => XS.bipush X0.here hx rfl (hb hby at_72) k) ?_
                  show Ends p e below s s₁ (mkF m 74 #[.val (.int p0), .val (.int p1), .val (.int c'), .unset] [(.int (126 : Int32)), (.int c')]) _ _ _
                  by_cases hc74_13 : c' = (126 : Int32)
                  · refine Ends.go (fun _ k => XS.icmpNo X0.here hx rfl (hb hby at_74) rfl (teq hc74_13).2 k) ?_
                    show Ends p e below s s₁ (mkF m 77 #[.val (.int p0), .val (.int p1), .val (.int c'), .unset] []) _ _ _
                    have hc74_13i : c'.toInt = 126 := congrArg Int32.toInt hc74_13
                    refine Ends.go (fun _ k => XS.iconst X0.here hx rfl (hb hby at_77) k) ?_
                    show Ends p e below s s₁ (mkF m 78 #[.val (.int p0), .val (.int p1), .val (.int c'), .unset] [(.int (1 : Int32))]) _ _ _
                    refine Ends.go (fun _ k => XS.goto X0.here hx rfl (pc0 := 78) (pc' := 82) rfl (hb hby at_78) (by decide) (by decide) k) ?_
                    show Ends p e below s s₁ (mkF m 82 #[.val (.int p0), .val (.int p1), .val (.int c'), .unset] [(.int (1 : Int32))]) _ _ _
                    refine Ends.go (fun _ k => XS.istoreN X0.here hx rfl (hb hby at_82) rfl (l' := #[.val (.int p0), .val (.int p1), .val (.int c'), .val (.int (1 : Int32))]) rfl k) ?_
                    show Ends p e below s s₁ (mkF m 83 #[.val (.int p0), .val (.int p1), .val (.int c'), .val (.int (1 : Int32))] []) _ _ _
                    exact J83 1 (fun _ => rfl) (fun q => absurd (by unfold own_unres; omega) q)
                  · refine Ends.go (fun _ k => XS.icmpYes X0.here hx rfl (pc0 := 74) (pc' := 81) rfl (hb hby at_74) rfl (feq hc74_13).2 (by decide) (by decide) k) ?_
                    show Ends p e below s s₁ (mkF m 81 #[.val (.int p0), .val (.int p1), .val (.int c'), .unset] []) _ _ _
                    have hc74_13i : ¬ (c'.toInt = 126) := fun q => hc74_13 (Int32.toInt_inj.mp q)
                    refine Ends.go (fun _ k => XS.iconst X0.here hx rfl (hb hby at_81) k) ?_
                    show Ends p e below s s₁ (mkF m 82 #[.val (.int p0), .val (.int p1), .val (.int c'), .unset] [(.int (0 : Int32))]) _ _ _
                    refine Ends.go (fun _ k => XS.istoreN X0.here hx rfl (hb hby at_82) rfl (l' := #[.val (.int p0), .val (.int p1), .val (.int c'), .val (.int (0 : Int32))]) rfl k) ?_
                    show Ends p e below s s₁ (mkF m 83 #[.val (.int p0), .val (.int p1), .val (.int c'), .val (.int (0 : Int32))] []) _ _ _
                    exact J83 0 (fun q => absurd q (by unfold own_unres; omega)) (fun _ => rfl)
          · refine Ends.go (fun _ k => XS.icmpYes X0.here hx rfl (pc0 := 50) (pc' := 77) rfl (hb hby at_50) rfl (flt hc50_9).2.2.2 (by decide) (by decide) k) ?_
            show Ends p e below s s₁ (mkF m 77 #[.val (.int p0), .val (.int p1), .val (.int c'), .unset] []) _ _ _
            have hc50_9i : ¬ (57 < c'.toInt) := fun q => hc50_9 (Int32.lt_iff_toInt_lt.mpr q)
            refine Ends.go (fun _ k => XS.iconst X0.here hx rfl (hb hby at_77) k) ?_
            show Ends p e below s s₁ (mkF m 78 #[.val (.int p0), .val (.int p1), .val (.int c'), .unset] [(.int (1 : Int32))]) _ _ _
            refine Ends.go (fun _ k => XS.goto X0.here hx rfl (pc0 := 78) (pc' := 82) rfl (hb hby at_78) (by decide) (by decide) k) ?_
            show Ends p e below s s₁ (mkF m 82 #[.val (.int p0), .val (.int p1), .val (.int c'), .unset] [(.int (1 : Int32))]) _ _ _
            refine Ends.go (fun _ k => XS.istoreN X0.here hx rfl (hb hby at_82) rfl (l' := #[.val (.int p0), .val (.int p1), .val (.int c'), .val (.int (1 : Int32))]) rfl k) ?_
            show Ends p e below s s₁ (mkF m 83 #[.val (.int p0), .val (.int p1), .val (.int c'), .val (.int (1 : Int32))] []) _ _ _
            exact J83 1 (fun _ => rfl) (fun q => absurd (by unfold own_unres; omega) q)
      · refine Ends.go (fun _ k => XS.icmpNo X0.here hx rfl (hb hby at_32) rfl (flt hc32_3).1 k) ?_
        show Ends p e below s s₁ (mkF m 35 #[.val (.int p0), .val (.int p1), .val (.int c'), .unset] []) _ _ _
        have hc32_3i : ¬ (c'.toInt < 97) := fun q => hc32_3 (Int32.lt_iff_toInt_lt.mpr q)
        refine Ends.go (fun _ k => XS.iloadN X0.here hx rfl (hb hby at_35) rfl k) ?_
        show Ends p e below s s₁ (mkF m 36 #[.val (.int p0), .val (.int p1), .val (.int c'), .unset] [(.int c')]) _ _ _
        refine Ends.go (fun _ k => XS.bipush X0.here hx rfl (hb hby at_36) k) ?_
        show Ends p e below s s₁ (mkF m 38 #[.val (.int p0), .val (.int p1), .val (.int c'), .unset] [(.int (122 : Int32)), (.int c')]) _ _ _
        by_cases hc38_14 : (122 : Int32) < c'
        · refine Ends.go (fun _ k => XS.icmpNo X0.here hx rfl (hb hby at_38) rfl (tlt hc38_14).2.2.2 k) ?_
          show Ends p e below s s₁ (mkF m 41 #[.val (.int p0), .val (.int p1), .val (.int c'), .unset] []) _ _ _
          have hc38_14i : 122 < c'.toInt := Int32.lt_iff_toInt_lt.mp hc38_14
          refine Ends.go (fun _ k => XS.iloadN X0.here hx rfl (hb hby at_41) rfl k) ?_
          show Ends p e below s s₁ (mkF m 42 #[.val (.int p0), .val (.int p1), .val (.int c'), .unset] [(.int c')]) _ _ _
          refine Ends.go (fun _ k => XS.bipush X0.here hx rfl (hb hby at_42) k) ?_
          show Ends p e below s s₁ (mkF m 44 #[.val (.int p0), .val (.int p1), .val (.int c'), .unset] [(.int (48 : Int32)), (.int c')]) _ _ _
          by_cases hc44_15 : c' < (48 : Int32)
          · refine Ends.go (fun _ k => XS.icmpYes X0.here hx rfl (pc0 := 44) (pc' := 53) rfl (hb hby at_44) rfl (tlt hc44_15).1 (by decide) (by decide) k) ?_
            show Ends p e below s s₁ (mkF m 53 #[.val (.int p0), .val (.int p1), .val (.int c'), .unset] []) _ _ _
            have hc44_15i : c'.toInt < 48 := Int32.lt_iff_toInt_lt.mp hc44_15
            refine Ends.go (fun _ k => XS.iloadN X0.here hx rfl (hb hby at_53) rfl k) ?_
            show Ends p e below s s₁ (mkF m 54 #[.val (.int p0), .val (.int p1), .val (.int c'), .unset] [(.int c')]) _ _ _
            refine Ends.go (fun _ k => XS.bipush X0.here hx rfl (hb hby at_54) k) ?_
            show Ends p e below s s₁ (mkF m 56 #[.val (.int p0), .val (.int p1), .val (.int c'), .unset] [(.int (45 : Int32)), (.int c')]) _ _ _
            by_cases hc56_16 : c' = (45 : Int32)
            · refine Ends.go (fun _ k => XS.icmpYes X0.here hx rfl (pc0 := 56) (pc' := 77) rfl (hb hby at_56) rfl (teq hc56_16).1 (by decide) (by decide) k) ?_
              show Ends p e below s s₁ (mkF m 77 #[.val (.int p0), .val (.int p1), .val (.int c'), .unset] []) _ _ _
              have hc56_16i : c'.toInt = 45 := congrArg Int32.toInt hc56_16
              refine Ends.go (fun _ k => XS.iconst X0.here hx rfl (hb hby at_77) k) ?_
              show Ends p e below s s₁ (mkF m 78 #[.val (.int p0), .val (.int p1), .val (.int c'), .unset] [(.int (1 : Int32))]) _ _ _
              refine Ends.go (fun _ k => XS.goto X0.here hx rfl (pc0 := 78) (pc' := 82) rfl (hb hby at_78) (by decide) (by decide) k) ?_
              show Ends p e below s s₁ (mkF m 82 #[.val (.int p0), .val (.int p1), .val (.int c'), .unset] [(.int (1 : Int32))]) _ _ _
              refine Ends.go (fun _ k => XS.istoreN X0.here hx rfl (hb hby at_82) rfl (l' := #[.val (.int p0), .val (.int p1), .val (.int c'), .val (.int (1 : Int32))]) rfl k) ?_
              show Ends p e below s s₁ (mkF m 83 #[.val (.int p0), .val (.int p1), .val (.int c'), .val (.int (1 : Int32))] []) _ _ _
              exact J83 1 (fun _ => rfl) (fun q => absurd (by unfold own_unres; omega) q)
            · refine Ends.go (fun _ k => XS.icmpNo X0.here hx rfl (hb hby at_56) rfl (feq hc56_16).1 k) ?_
              show Ends p e below s s₁ (mkF m 59 #[.val (.int p0), .val (.int p1), .val (.int c'), .unset] []) _ _ _
              have hc56_16i : ¬ (c'.toInt = 45) := fun q => hc56_16 (Int32.toInt_inj.mp q)
              refine Ends.go (fun _ k => XS.iloadN X0.here hx rfl (hb hby at_59) rfl k) ?_
              show Ends p e below s s₁ (mkF m 60 #[.val (.int p0), .val (.int p1), .val (.int c'), .unset] [(.int c')]) _ _ _
              refine Ends.go (fun _ k => XS.bipush X0.here hx rfl (hb hby at_60) k) ?_
              show Ends p e below s s₁ (mkF m 62 #[.val (.int p0), .val (.int p1), .val (.int c'), .unset] [(.int (46 : Int32)), (.int c')]) _ _ _
              by_cases hc62_17 : c' = (46 : Int32)
              · refine Ends.go (fun _ k => XS.icmpYes X0.here hx rfl (pc0 := 62) (pc' := 77) rfl (hb hby at_62) rfl (teq hc62_17).1 (by decide) (by decide) k) ?_
                show Ends p e below s s₁ (mkF m 77 #[.val (.int p0), .val (.int p1), .val (.int c'), .unset] []) _ _ _
                have hc62_17i : c'.toInt = 46 := congrArg Int32.toInt hc62_17
                refine Ends.go (fun _ k => XS.iconst X0.here hx rfl (hb hby at_77) k) ?_
                show Ends p e below s s₁ (mkF m 78 #[.val (.int p0), .val (.int p1), .val (.int c'), .unset] [(.int (1 : Int32))]) _ _ _
                refine Ends.go (fun _ k => XS.goto X0.here hx rfl (pc0 := 78) (pc' := 82) rfl (hb hby at_78) (by decide) (by decide) k) ?_
                show Ends p e below s s₁ (mkF m 82 #[.val (.int p0), .val (.int p1), .val (.int c'), .unset] [(.int (1 : Int32))]) _ _ _
                refine Ends.go (fun _ k => XS.istoreN X0.here hx rfl (hb hby at_82) rfl (l' := #[.val (.int p0), .val (.int p1), .val (.int c'), .val (.int (1 : Int32))]) rfl k) ?_
                show Ends p e below s s₁ (mkF m 83 #[.val (.int p0), .val (.int p1), .val (.int c'), .val (.int (1 : Int32))] []) _ _ _
                exact J83 1 (fun _ => rfl) (fun q => absurd (by unfold own_unres; omega) q)
              · refine Ends.go (fun _ k => XS.icmpNo X0.here hx rfl (hb hby at_62) rfl (feq hc62_17).1 k) ?_
                show Ends p e below s s₁ (mkF m 65 #[.val (.int p0), .val (.int p1), .val (.int c'), .unset] []) _ _ _
                have hc62_17i : ¬ (c'.toInt = 46) := fun q => hc62_17 (Int32.toInt_inj.mp q)
                refine Ends.go (fun _ k => XS.iloadN X0.here hx rfl (hb hby at_65) rfl k) ?_
                show Ends p e below s s₁ (mkF m 66 #[.val (.int p0), .val (.int p1), .val (.int c'), .unset] [(.int c')]) _ _ _
                refine Ends.go (fun _ k => XS.bipush X0.here hx rfl (hb hby at_66) k) ?_
                show Ends p e below s s₁ (mkF m 68 #[.val (.int p0), .val (.int p1), .val (.int c'), .unset] [(.int (95 : Int32)), (.int c')]) _ _ _
                by_cases hc68_18 : c' = (95 : Int32)
                · refine Ends.go (fun _ k => XS.icmpYes X0.here hx rfl (pc0 := 68) (pc' := 77) rfl (hb hby at_68) rfl (teq hc68_18).1 (by decide) (by decide) k) ?_
                  show Ends p e below s s₁ (mkF m 77 #[.val (.int p0), .val (.int p1), .val (.int c'), .unset] []) _ _ _
                  have hc68_18i : c'.toInt = 95 := congrArg Int32.toInt hc68_18
                  refine Ends.go (fun _ k => XS.iconst X0.here hx rfl (hb hby at_77) k) ?_
                  show Ends p e below s s₁ (mkF m 78 #[.val (.int p0), .val (.int p1), .val (.int c'), .unset] [(.int (1 : Int32))]) _ _ _
                  refine Ends.go (fun _ k => XS.goto X0.here hx rfl (pc0 := 78) (pc' := 82) rfl (hb hby at_78) (by decide) (by decide) k) ?_
                  show Ends p e below s s₁ (mkF m 82 #[.val (.int p0), .val (.int p1), .val (.int c'), .unset] [(.int (1 : Int32))]) _ _ _
                  refine Ends.go (fun _ k => XS.istoreN X0.here hx rfl (hb hby at_82) rfl (l' := #[.val (.int p0), .val (.int p1), .val (.int c'), .val (.int (1 : Int32))]) rfl k) ?_
                  show Ends p e below s s₁ (mkF m 83 #[.val (.int p0), .val (.int p1), .val (.int c'), .val (.int (1 : Int32))] []) _ _ _
                  exact J83 1 (fun _ => rfl) (fun q => absurd (by unfold own_unres; omega) q)
                · refine Ends.go (fun _ k => XS.icmpNo X0.here hx rfl (hb hby at_68) rfl (feq hc68_18).1 k) ?_
                  show Ends p e below s s₁ (mkF m 71 #[.val (.int p0), .val (.int p1), .val (.int c'), .unset] []) _ _ _
                  have hc68_18i : ¬ (c'.toInt = 95) := fun q => hc68_18 (Int32.toInt_inj.mp q)
                  refine Ends.go (fun _ k => XS.iloadN X0.here hx rfl (hb hby at_71) rfl k) ?_
                  show Ends p e below s s₁ (mkF m 72 #[.val (.int p0), .val (.int p1), .val (.int c'), .unset] [(.int c')]) _ _ _
                  refine Ends.go (fun _ k => XS.bipush X0.here hx rfl (hb hby at_72) k) ?_
                  show Ends p e below s s₁ (mkF m 74 #[.val (.int p0), .val (.int p1), .val (.int c'), .unset] [(.int (126 : Int32)), (.int c')]) _ _ _
                  by_cases hc74_19 : c' = (126 : Int32)
                  · refine Ends.go (fun _ k => XS.icmpNo X0.here hx rfl (hb hby at_74) rfl (teq hc74_19).2 k) ?_
                    show Ends p e below s s₁ (mkF m 77 #[.val (.int p0), .val (.int p1), .val (.int c'), .unset] []) _ _ _
                    have hc74_19i : c'.toInt = 126 := congrArg Int32.toInt hc74_19
                    refine Ends.go (fun _ k => XS.iconst X0.here hx rfl (hb hby at_77) k) ?_
                    show Ends p e below s s₁ (mkF m 78 #[.val (.int p0), .val (.int p1), .val (.int c'), .unset] [(.int (1 : Int32))]) _ _ _
                    refine Ends.go (fun _ k => XS.goto X0.here hx rfl (pc0 := 78) (pc' := 82) rfl (hb hby at_78) (by decide) (by decide) k) ?_
                    show Ends p e below s s₁ (mkF m 82 #[.val (.int p0), .val (.int p1), .val (.int c'), .unset] [(.int (1 : Int32))]) _ _ _
                    refine Ends.go (fun _ k => XS.istoreN X0.here hx rfl (hb hby at_82) rfl (l' := #[.val (.int p0), .val (.int p1), .val (.int c'), .val (.int (1 : Int32))]) rfl k) ?_
                    show Ends p e below s s₁ (mkF m 83 #[.val (.int p0), .val (.int p1), .val (.int c'), .val (.int (1 : Int32))] []) _ _ _
                    exact J83 1 (fun _ => rfl) (fun q => absurd (by unfold own_unres; omega) q)
                  · refine Ends.go (fun _ k => XS.icmpYes X0.here hx rfl (pc0 := 74) (pc' := 81) rfl (hb hby at_74) rfl (feq hc74_19).2 (by decide) (by decide) k) ?_
                    show Ends p e below s s₁ (mkF m 81 #[.val (.int p0), .val (.int p1), .val (.int c'), .unset] []) _ _ _
                    have hc74_19i : ¬ (c'.toInt = 126) := fun q => hc74_19 (Int32.toInt_inj.mp q)
                    refine Ends.go (fun _ k => XS.iconst X0.here hx rfl (hb hby at_81) k) ?_
                    show Ends p e below s s₁ (mkF m 82 #[.val (.int p0), .val (.int p1), .val (.int c'), .unset] [(.int (0 : Int32))]) _ _ _
                    refine Ends.go (fun _ k => XS.istoreN X0.here hx rfl (hb hby at_82) rfl (l' := #[.val (.int p0), .val (.int p1), .val (.int c'), .val (.int (0 : Int32))]) rfl k) ?_
                    show Ends p e below s s₁ (mkF m 83 #[.val (.int p0), .val (.int p1), .val (.int c'), .val (.int (0 : Int32))] []) _ _ _
                    exact J83 0 (fun q => absurd q (by unfold own_unres; omega)) (fun _ => rfl)
          · refine Ends.go (fun _ k => XS.icmpNo X0.here hx rfl (hb hby at_44) rfl (flt hc44_15).1 k) ?_
            show Ends p e below s s₁ (mkF m 47 #[.val (.int p0), .val (.int p1), .val (.int c'), .unset] []) _ _ _
            have hc44_15i : ¬ (c'.toInt < 48) := fun q => hc44_15 (Int32.lt_iff_toInt_lt.mpr q)
            refine Ends.go (fun _ k => XS.iloadN X0.here hx rfl (hb hby at_47) rfl k) ?_
            show Ends p e below s s₁ (mkF m 48 #[.val (.int p0), .val (.int p1), .val (.int c'), .unset] [(.int c')]) _ _ _
            refine Ends.go (fun _ k => XS.bipush X0.here hx rfl (hb hby at_48) k) ?_
            show Ends p e below s s₁ (mkF m 50 #[.val (.int p0), .val (.int p1), .val (.int c'), .unset] [(.int (57 : Int32)), (.int c')]) _ _ _
            by_cases hc50_20 : (57 : Int32) < c'
            · refine Ends.go (fun _ k => XS.icmpNo X0.here hx rfl (hb hby at_50) rfl (tlt hc50_20).2.2.2 k) ?_
              show Ends p e below s s₁ (mkF m 53 #[.val (.int p0), .val (.int p1), .val (.int c'), .unset] []) _ _ _
              have hc50_20i : 57 < c'.toInt := Int32.lt_iff_toInt_lt.mp hc50_20
              refine Ends.go (fun _ k => XS.iloadN X0.here hx rfl (hb hby at_53) rfl k) ?_
              show Ends p e below s s₁ (mkF m 54 #[.val (.int p0), .val (.int p1), .val (.int c'), .unset] [(.int c')]) _ _ _
              refine Ends.go (fun _ k => XS.bipush X0.here hx rfl (hb hby at_54) k) ?_
              show Ends p e below s s₁ (mkF m 56 #[.val (.int p0), .val (.int p1), .val (.int c'), .unset] [(.int (45 : Int32)), (.int c')]) _ _ _
              by_cases hc56_21 : c' = (45 : Int32)
              · refine Ends.go (fun _ k => XS.icmpYes X0.here hx rfl (pc0 := 56) (pc' := 77) rfl (hb hby at_56) rfl (teq hc56_21).1 (by decide) (by decide) k) ?_
                show Ends p e below s s₁ (mkF m 77 #[.val (.int p0), .val (.int p1), .val (.int c'), .unset] []) _ _ _
                have hc56_21i : c'.toInt = 45 := congrArg Int32.toInt hc56_21
                refine Ends.go (fun _ k => XS.iconst X0.here hx rfl (hb hby at_77) k) ?_
                show Ends p e below s s₁ (mkF m 78 #[.val (.int p0), .val (.int p1), .val (.int c'), .unset] [(.int (1 : Int32))]) _ _ _
                refine Ends.go (fun _ k => XS.goto X0.here hx rfl (pc0 := 78) (pc' := 82) rfl (hb hby at_78) (by decide) (by decide) k) ?_
                show Ends p e below s s₁ (mkF m 82 #[.val (.int p0), .val (.int p1), .val (.int c'), .unset] [(.int (1 : Int32))]) _ _ _
                refine Ends.go (fun _ k => XS.istoreN X0.here hx rfl (hb hby at_82) rfl (l' := #[.val (.int p0), .val (.int p1), .val (.int c'), .val (.int (1 : Int32))]) rfl k) ?_
                show Ends p e below s s₁ (mkF m 83 #[.val (.int p0), .val (.int p1), .val (.int c'), .val (.int (1 : Int32))] []) _ _ _
                exact J83 1 (fun _ => rfl) (fun q => absurd (by unfold own_unres; omega) q)
              · refine Ends.go (fun _ k => XS.icmpNo X0.here hx rfl (hb hby at_56) rfl (feq hc56_21).1 k) ?_
                show Ends p e below s s₁ (mkF m 59 #[.val (.int p0), .val (.int p1), .val (.int c'), .unset] []) _ _ _
                have hc56_21i : ¬ (c'.toInt = 45) := fun q => hc56_21 (Int32.toInt_inj.mp q)
                refine Ends.go (fun _ k => XS.iloadN X0.here hx rfl (hb hby at_59) rfl k) ?_
                show Ends p e below s s₁ (mkF m 60 #[.val (.int p0), .val (.int p1), .val (.int c'), .unset] [(.int c')]) _ _ _
                refine Ends.go (fun _ k => XS.bipush X0.here hx rfl (hb hby at_60) k) ?_
                show Ends p e below s s₁ (mkF m 62 #[.val (.int p0), .val (.int p1), .val (.int c'), .unset] [(.int (46 : Int32)), (.int c')]) _ _ _
                by_cases hc62_22 : c' = (46 : Int32)
                · refine Ends.go (fun _ k => XS.icmpYes X0.here hx rfl (pc0 := 62) (pc' := 77) rfl (hb hby at_62) rfl (teq hc62_22).1 (by decide) (by decide) k) ?_
                  show Ends p e below s s₁ (mkF m 77 #[.val (.int p0), .val (.int p1), .val (.int c'), .unset] []) _ _ _
                  have hc62_22i : c'.toInt = 46 := congrArg Int32.toInt hc62_22
                  refine Ends.go (fun _ k => XS.iconst X0.here hx rfl (hb hby at_77) k) ?_
                  show Ends p e below s s₁ (mkF m 78 #[.val (.int p0), .val (.int p1), .val (.int c'), .unset] [(.int (1 : Int32))]) _ _ _
                  refine Ends.go (fun _ k => XS.goto X0.here hx rfl (pc0 := 78) (pc' := 82) rfl (hb hby at_78) (by decide) (by decide) k) ?_
                  show Ends p e below s s₁ (mkF m 82 #[.val (.int p0), .val (.int p1), .val (.int c'), .unset] [(.int (1 : Int32))]) _ _ _
                  refine Ends.go (fun _ k => XS.istoreN X0.here hx rfl (hb hby at_82) rfl (l' := #[.val (.int p0), .val (.int p1), .val (.int c'), .val (.int (1 : Int32))]) rfl k) ?_
                  show Ends p e below s s₁ (mkF m 83 #[.val (.int p0), .val (.int p1), .val (.int c'), .val (.int (1 : Int32))] []) _ _ _
                  exact J83 1 (fun _ => rfl) (fun q => absurd (by unfold own_unres; omega) q)
                · refine Ends.go (fun _ k => XS.icmpNo X0.here hx rfl (hb hby at_62) rfl (feq hc62_22).1 k) ?_
                  show Ends p e below s s₁ (mkF m 65 #[.val (.int p0), .val (.int p1), .val (.int c'), .unset] []) _ _ _
                  have hc62_22i : ¬ (c'.toInt = 46) := fun q => hc62_22 (Int32.toInt_inj.mp q)
                  refine Ends.go (fun _ k => XS.iloadN X0.here hx rfl (hb hby at_65) rfl k) ?_
                  show Ends p e below s s₁ (mkF m 66 #[.val (.int p0), .val (.int p1), .val (.int c'), .unset] [(.int c')]) _ _ _
                  refine Ends.go (fun _ k => XS.bipush X0.here hx rfl (hb hby at_66) k) ?_
                  show Ends p e below s s₁ (mkF m 68 #[.val (.int p0), .val (.int p1), .val (.int c'), .unset] [(.int (95 : Int32)), (.int c')]) _ _ _
                  by_cases hc68_23 : c' = (95 : Int32)
                  · refine Ends.go (fun _ k => XS.icmpYes X0.here hx rfl (pc0 := 68) (pc' := 77) rfl (hb hby at_68) rfl (teq hc68_23).1 (by decide) (by decide) k) ?_
                    show Ends p e below s s₁ (mkF m 77 #[.val (.int p0), .val (.int p1), .val (.int c'), .unset] []) _ _ _
                    have hc68_23i : c'.toInt = 95 := congrArg Int32.toInt hc68_23
                    refine Ends.go (fun _ k => XS.iconst X0.here hx rfl (hb hby at_77) k) ?_
                    show Ends p e below s s₁ (mkF m 78 #[.val (.int p0), .val (.int p1), .val (.int c'), .unset] [(.int (1 : Int32))]) _ _ _
                    refine Ends.go (fun _ k => XS.goto X0.here hx rfl (pc0 := 78) (pc' := 82) rfl (hb hby at_78) (by decide) (by decide) k) ?_
                    show Ends p e below s s₁ (mkF m 82 #[.val (.int p0), .val (.int p1), .val (.int c'), .unset] [(.int (1 : Int32))]) _ _ _
                    refine Ends.go (fun _ k => XS.istoreN X0.here hx rfl (hb hby at_82) rfl (l' := #[.val (.int p0), .val (.int p1), .val (.int c'), .val (.int (1 : Int32))]) rfl k) ?_
                    show Ends p e below s s₁ (mkF m 83 #[.val (.int p0), .val (.int p1), .val (.int c'), .val (.int (1 : Int32))] []) _ _ _
                    exact J83 1 (fun _ => rfl) (fun q => absurd (by unfold own_unres; omega) q)
                  · refine Ends.go (fun _ k => XS.icmpNo X0.here hx rfl (hb hby at_68) rfl (feq hc68_23).1 k) ?_
                    show Ends p e below s s₁ (mkF m 71 #[.val (.int p0), .val (.int p1), .val (.int c'), .unset] []) _ _ _
                    have hc68_23i : ¬ (c'.toInt = 95) := fun q => hc68_23 (Int32.toInt_inj.mp q)
                    refine Ends.go (fun _ k => XS.iloadN X0.here hx rfl (hb hby at_71) rfl k) ?_
                    show Ends p e below s s₁ (mkF m 72 #[.val (.int p0), .val (.int p1), .val (.int c'), .unset] [(.int c')]) _ _ _
                    refine Ends.go (fun _ k => XS.bipush X0.here hx rfl (hb hby at_72) k) ?_
                    show Ends p e below s s₁ (mkF m 74 #[.val (.int p0), .val (.int p1), .val (.int c'), .unset] [(.int (126 : Int32)), (.int c')]) _ _ _
                    by_cases hc74_24 : c' = (126 : Int32)
                    · refine Ends.go (fun _ k => XS.icmpNo X0.here hx rfl (hb hby at_74) rfl (teq hc74_24).2 k) ?_
                      show Ends p e below s s₁ (mkF m 77 #[.val (.int p0), .val (.int p1), .val (.int c'), .unset] []) _ _ _
                      have hc74_24i : c'.toInt = 126 := congrArg Int32.toInt hc74_24
                      refine Ends.go (fun _ k => XS.iconst X0.here hx rfl (hb hby at_77) k) ?_
                      show Ends p e below s s₁ (mkF m 78 #[.val (.int p0), .val (.int p1), .val (.int c'), .unset] [(.int (1 : Int32))]) _ _ _
                      refine Ends.go (fun _ k => XS.goto X0.here hx rfl (pc0 := 78) (pc' := 82) rfl (hb hby at_78) (by decide) (by decide) k) ?_
                      show Ends p e below s s₁ (mkF m 82 #[.val (.int p0), .val (.int p1), .val (.int c'), .unset] [(.int (1 : Int32))]) _ _ _
                      refine Ends.go (fun _ k => XS.istoreN X0.here hx rfl (hb hby at_82) rfl (l' := #[.val (.int p0), .val (.int p1), .val (.int c'), .val (.int (1 : Int32))]) rfl k) ?_
                      show Ends p e below s s₁ (mkF m 83 #[.val (.int p0), .val (.int p1), .val (.int c'), .val (.int (1 : Int32))] []) _ _ _
                      exact J83 1 (fun _ => rfl) (fun q => absurd (by unfold own_unres; omega) q)
                    · refine Ends.go (fun _ k => XS.icmpYes X0.here hx rfl (pc0 := 74) (pc' := 81) rfl (hb hby at_74) rfl (feq hc74_24).2 (by decide) (by decide) k) ?_
                      show Ends p e below s s₁ (mkF m 81 #[.val (.int p0), .val (.int p1), .val (.int c'), .unset] []) _ _ _
                      have hc74_24i : ¬ (c'.toInt = 126) := fun q => hc74_24 (Int32.toInt_inj.mp q)
                      refine Ends.go (fun _ k => XS.iconst X0.here hx rfl (hb hby at_81) k) ?_
                      show Ends p e below s s₁ (mkF m 82 #[.val (.int p0), .val (.int p1), .val (.int c'), .unset] [(.int (0 : Int32))]) _ _ _
                      refine Ends.go (fun _ k => XS.istoreN X0.here hx rfl (hb hby at_82) rfl (l' := #[.val (.int p0), .val (.int p1), .val (.int c'), .val (.int (0 : Int32))]) rfl k) ?_
                      show Ends p e below s s₁ (mkF m 83 #[.val (.int p0), .val (.int p1), .val (.int c'), .val (.int (0 : Int32))] []) _ _ _
                      exact J83 0 (fun q => absurd q (by unfold own_unres; omega)) (fun _ => rfl)
            · refine Ends.go (fun _ k => XS.icmpYes X0.here hx rfl (pc0 := 50) (pc' := 77) rfl (hb hby at_50) rfl (flt hc50_20).2.2.2 (by decide) (by decide) k) ?_
              show Ends p e below s s₁ (mkF m 77 #[.val (.int p0), .val (.int p1), .val (.int c'), .unset] []) _ _ _
              have hc50_20i : ¬ (57 < c'.toInt) := fun q => hc50_20 (Int32.lt_iff_toInt_lt.mpr q)
              refine Ends.go (fun _ k => XS.iconst X0.here hx rfl (hb hby at_77) k) ?_
              show Ends p e below s s₁ (mkF m 78 #[.val (.int p0), .val (.int p1), .val (.int c'), .unset] [(.int (1 : Int32))]) _ _ _
              refine Ends.go (fun _ k => XS.goto X0.here hx rfl (pc0 := 78) (pc' := 82) rfl (hb hby at_78) (by decide) (by decide) k) ?_
              show Ends p e below s s₁ (mkF m 82 #[.val (.int p0), .val (.int p1), .val (.int c'), .unset] [(.int (1 : Int32))]) _ _ _
              refine Ends.go (fun _ k => XS.istoreN X0.here hx rfl (hb hby at_82) rfl (l' := #[.val (.int p0), .val (.int p1), .val (.int c'), .val (.int (1 : Int32))]) rfl k) ?_
              show Ends p e below s s₁ (mkF m 83 #[.val (.int p0), .val (.int p1), .val (.int c'), .val (.int (1 : Int32))] []) _ _ _
              exact J83 1 (fun _ => rfl) (fun q => absurd (by unfold own_unres; omega) q)
        · refine Ends.go (fun _ k => XS.icmpYes X0.here hx rfl (pc0 := 38) (pc' := 77) rfl (hb hby at_38) rfl (flt hc38_14).2.2.2 (by decide) (by decide) k) ?_
          show Ends p e below s s₁ (mkF m 77 #[.val (.int p0), .val (.int p1), .val (.int c'), .unset] []) _ _ _
          have hc38_14i : ¬ (122 < c'.toInt) := fun q => hc38_14 (Int32.lt_iff_toInt_lt.mpr q)
          refine Ends.go (fun _ k => XS.iconst X0.here hx rfl (hb hby at_77) k) ?_
          show Ends p e below s s₁ (mkF m 78 #[.val (.int p0), .val (.int p1), .val (.int c'), .unset] [(.int (1 : Int32))]) _ _ _
          refine Ends.go (fun _ k => XS.goto X0.here hx rfl (pc0 := 78) (pc' := 82) rfl (hb hby at_78) (by decide) (by decide) k) ?_
          show Ends p e below s s₁ (mkF m 82 #[.val (.int p0), .val (.int p1), .val (.int c'), .unset] [(.int (1 : Int32))]) _ _ _
          refine Ends.go (fun _ k => XS.istoreN X0.here hx rfl (hb hby at_82) rfl (l' := #[.val (.int p0), .val (.int p1), .val (.int c'), .val (.int (1 : Int32))]) rfl k) ?_
          show Ends p e below s s₁ (mkF m 83 #[.val (.int p0), .val (.int p1), .val (.int c'), .val (.int (1 : Int32))] []) _ _ _
          exact J83 1 (fun _ => rfl) (fun q => absurd (by unfold own_unres; omega) q)
    · refine Ends.go (fun _ k => XS.icmpNo X0.here hx rfl (hb hby at_20) rfl (flt hc20_2).1 k) ?_
      show Ends p e below s s₁ (mkF m 23 #[.val (.int p0), .val (.int p1), .val (.int c'), .unset] []) _ _ _
      have hc20_2i : ¬ (c'.toInt < 65) := fun q => hc20_2 (Int32.lt_iff_toInt_lt.mpr q)
      refine Ends.go (fun _ k => XS.iloadN X0.here hx rfl (hb hby at_23) rfl k) ?_
      show Ends p e below s s₁ (mkF m 24 #[.val (.int p0), .val (.int p1), .val (.int c'), .unset] [(.int c')]) _ _ _
      refine Ends.go (fun _ k => XS.bipush X0.here hx rfl (hb hby at_24) k) ?_
      show Ends p e below s s₁ (mkF m 26 #[.val (.int p0), .val (.int p1), .val (.int c'), .unset] [(.int (90 : Int32)), (.int c')]) _ _ _
      by_cases hc26_25 : (90 : Int32) < c'
      · refine Ends.go (fun _ k => XS.icmpNo X0.here hx rfl (hb hby at_26) rfl (tlt hc26_25).2.2.2 k) ?_
        show Ends p e below s s₁ (mkF m 29 #[.val (.int p0), .val (.int p1), .val (.int c'), .unset] []) _ _ _
        have hc26_25i : 90 < c'.toInt := Int32.lt_iff_toInt_lt.mp hc26_25
        refine Ends.go (fun _ k => XS.iloadN X0.here hx rfl (hb hby at_29) rfl k) ?_
        show Ends p e below s s₁ (mkF m 30 #[.val (.int p0), .val (.int p1), .val (.int c'), .unset] [(.int c')]) _ _ _
        refine Ends.go (fun _ k => XS.bipush X0.here hx rfl (hb hby at_30) k) ?_
        show Ends p e below s s₁ (mkF m 32 #[.val (.int p0), .val (.int p1), .val (.int c'), .unset] [(.int (97 : Int32)), (.int c')]) _ _ _
        by_cases hc32_26 : c' < (97 : Int32)
        · refine Ends.go (fun _ k => XS.icmpYes X0.here hx rfl (pc0 := 32) (pc' := 41) rfl (hb hby at_32) rfl (tlt hc32_26).1 (by decide) (by decide) k) ?_
          show Ends p e below s s₁ (mkF m 41 #[.val (.int p0), .val (.int p1), .val (.int c'), .unset] []) _ _ _
          have hc32_26i : c'.toInt < 97 := Int32.lt_iff_toInt_lt.mp hc32_26
          refine Ends.go (fun _ k => XS.iloadN X0.here hx rfl (hb hby at_41) rfl k) ?_
          show Ends p e below s s₁ (mkF m 42 #[.val (.int p0), .val (.int p1), .val (.int c'), .unset] [(.int c')]) _ _ _
          refine Ends.go (fun _ k => XS.bipush X0.here hx rfl (hb hby at_42) k) ?_
          show Ends p e below s s₁ (mkF m 44 #[.val (.int p0), .val (.int p1), .val (.int c'), .unset] [(.int (48 : Int32)), (.int c')]) _ _ _
          by_cases hc44_27 : c' < (48 : Int32)
          · refine Ends.go (fun _ k => XS.icmpYes X0.here hx rfl (pc0 := 44) (pc' := 53) rfl (hb hby at_44) rfl (tlt hc44_27).1 (by decide) (by decide) k) ?_
            show Ends p e below s s₁ (mkF m 53 #[.val (.int p0), .val (.int p1), .val (.int c'), .unset] []) _ _ _
            have hc44_27i : c'.toInt < 48 := Int32.lt_iff_toInt_lt.mp hc44_27
            refine Ends.go (fun _ k => XS.iloadN X0.here hx rfl (hb hby at_53) rfl k) ?_
            show Ends p e below s s₁ (mkF m 54 #[.val (.int p0), .val (.int p1), .val (.int c'), .unset] [(.int c')]) _ _ _
            refine Ends.go (fun _ k => XS.bipush X0.here hx rfl (hb hby at_54) k) ?_
            show Ends p e below s s₁ (mkF m 56 #[.val (.int p0), .val (.int p1), .val (.int c'), .unset] [(.int (45 : Int32)), (.int c')]) _ _ _
            by_cases hc56_28 : c' = (45 : Int32)
            · refine Ends.go (fun _ k => XS.icmpYes X0.here hx rfl (pc0 := 56) (pc' := 77) rfl (hb hby at_56) rfl (teq hc56_28).1 (by decide) (by decide) k) ?_
              show Ends p e below s s₁ (mkF m 77 #[.val (.int p0), .val (.int p1), .val (.int c'), .unset] []) _ _ _
              have hc56_28i : c'.toInt = 45 := congrArg Int32.toInt hc56_28
              refine Ends.go (fun _ k => XS.iconst X0.here hx rfl (hb hby at_77) k) ?_
              show Ends p e below s s₁ (mkF m 78 #[.val (.int p0), .val (.int p1), .val (.int c'), .unset] [(.int (1 : Int32))]) _ _ _
              refine Ends.go (fun _ k => XS.goto X0.here hx rfl (pc0 := 78) (pc' := 82) rfl (hb hby at_78) (by decide) (by decide) k) ?_
              show Ends p e below s s₁ (mkF m 82 #[.val (.int p0), .val (.int p1), .val (.int c'), .unset] [(.int (1 : Int32))]) _ _ _
              refine Ends.go (fun _ k => XS.istoreN X0.here hx rfl (hb hby at_82) rfl (l' := #[.val (.int p0), .val (.int p1), .val (.int c'), .val (.int (1 : Int32))]) rfl k) ?_
              show Ends p e below s s₁ (mkF m 83 #[.val (.int p0), .val (.int p1), .val (.int c'), .val (.int (1 : Int32))] []) _ _ _
              exact J83 1 (fun _ => rfl) (fun q => absurd (by unfold own_unres; omega) q)
            · refine Ends.go (fun _ k => XS.icmpNo X0.here hx rfl (hb hby at_56) rfl (feq hc56_28).1 k) ?_
              show Ends p e below s s₁ (mkF m 59 #[.val (.int p0), .val (.int p1), .val (.int c'), .unset] []) _ _ _
              have hc56_28i : ¬ (c'.toInt = 45) := fun q => hc56_28 (Int32.toInt_inj.mp q)
              refine Ends.go (fun _ k => XS.iloadN X0.here hx rfl (hb hby at_59) rfl k) ?_
              show Ends p e below s s₁ (mkF m 60 #[.val (.int p0), .val (.int p1), .val (.int c'), .unset] [(.int c')]) _ _ _
              refine Ends.go (fun _ k => XS.bipush X0.here hx rfl (hb hby at_60) k) ?_
              show Ends p e below s s₁ (mkF m 62 #[.val (.int p0), .val (.int p1), .val (.int c'), .unset] [(.int (46 : Int32)), (.int c')]) _ _ _
              by_cases hc62_29 : c' = (46 : Int32)
              · refine Ends.go (fun _ k => XS.icmpYes X0.here hx rfl (pc0 := 62) (pc' := 77) rfl (hb hby at_62) rfl (teq hc62_29).1 (by decide) (by decide) k) ?_
                show Ends p e below s s₁ (mkF m 77 #[.val (.int p0), .val (.int p1), .val (.int c'), .unset] []) _ _ _
                have hc62_29i : c'.toInt = 46 := congrArg Int32.toInt hc62_29
                refine Ends.go (fun _ k => XS.iconst X0.here hx rfl (hb hby at_77) k) ?_
                show Ends p e below s s₁ (mkF m 78 #[.val (.int p0), .val (.int p1), .val (.int c'), .unset] [(.int (1 : Int32))]) _ _ _
                refine Ends.go (fun _ k => XS.goto X0.here hx rfl (pc0 := 78) (pc' := 82) rfl (hb hby at_78) (by decide) (by decide) k) ?_
                show Ends p e below s s₁ (mkF m 82 #[.val (.int p0), .val (.int p1), .val (.int c'), .unset] [(.int (1 : Int32))]) _ _ _
                refine Ends.go (fun _ k => XS.istoreN X0.here hx rfl (hb hby at_82) rfl (l' := #[.val (.int p0), .val (.int p1), .val (.int c'), .val (.int (1 : Int32))]) rfl k) ?_
                show Ends p e below s s₁ (mkF m 83 #[.val (.int p0), .val (.int p1), .val (.int c'), .val (.int (1 : Int32))] []) _ _ _
                exact J83 1 (fun _ => rfl) (fun q => absurd (by unfold own_unres; omega) q)
              · refine Ends.go (fun _ k => XS.icmpNo X0.here hx rfl (hb hby at_62) rfl (feq hc62_29).1 k) ?_
                show Ends p e below s s₁ (mkF m 65 #[.val (.int p0), .val (.int p1), .val (.int c'), .unset] []) _ _ _
                have hc62_29i : ¬ (c'.toInt = 46) := fun q => hc62_29 (Int32.toInt_inj.mp q)
                refine Ends.go (fun _ k => XS.iloadN X0.here hx rfl (hb hby at_65) rfl k) ?_
                show Ends p e below s s₁ (mkF m 66 #[.val (.int p0), .val (.int p1), .val (.int c'), .unset] [(.int c')]) _ _ _
                refine Ends.go (fun _ k => XS.bipush X0.here hx rfl (hb hby at_66) k) ?_
                show Ends p e below s s₁ (mkF m 68 #[.val (.int p0), .val (.int p1), .val (.int c'), .unset] [(.int (95 : Int32)), (.int c')]) _ _ _
                by_cases hc68_30 : c' = (95 : Int32)
                · refine Ends.go (fun _ k => XS.icmpYes X0.here hx rfl (pc0 := 68) (pc' := 77) rfl (hb hby at_68) rfl (teq hc68_30).1 (by decide) (by decide) k) ?_
                  show Ends p e below s s₁ (mkF m 77 #[.val (.int p0), .val (.int p1), .val (.int c'), .unset] []) _ _ _
                  have hc68_30i : c'.toInt = 95 := congrArg Int32.toInt hc68_30
                  refine Ends.go (fun _ k => XS.iconst X0.here hx rfl (hb hby at_77) k) ?_
                  show Ends p e below s s₁ (mkF m 78 #[.val (.int p0), .val (.int p1), .val (.int c'), .unset] [(.int (1 : Int32))]) _ _ _
                  refine Ends.go (fun _ k => XS.goto X0.here hx rfl (pc0 := 78) (pc' := 82) rfl (hb hby at_78) (by decide) (by decide) k) ?_
                  show Ends p e below s s₁ (mkF m 82 #[.val (.int p0), .val (.int p1), .val (.int c'), .unset] [(.int (1 : Int32))]) _ _ _
                  refine Ends.go (fun _ k => XS.istoreN X0.here hx rfl (hb hby at_82) rfl (l' := #[.val (.int p0), .val (.int p1), .val (.int c'), .val (.int (1 : Int32))]) rfl k) ?_
                  show Ends p e below s s₁ (mkF m 83 #[.val (.int p0), .val (.int p1), .val (.int c'), .val (.int (1 : Int32))] []) _ _ _
                  exact J83 1 (fun _ => rfl) (fun q => absurd (by unfold own_unres; omega) q)
                · refine Ends.go (fun _ k => XS.icmpNo X0.here hx rfl (hb hby at_68) rfl (feq hc68_30).1 k) ?_
                  show Ends p e below s s₁ (mkF m 71 #[.val (.int p0), .val (.int p1), .val (.int c'), .unset] []) _ _ _
                  have hc68_30i : ¬ (c'.toInt = 95) := fun q => hc68_30 (Int32.toInt_inj.mp q)
                  refine Ends.go (fun _ k => XS.iloadN X0.here hx rfl (hb hby at_71) rfl k) ?_
                  show Ends p e below s s₁ (mkF m 72 #[.val (.int p0), .val (.int p1), .val (.int c'), .unset] [(.int c')]) _ _ _
                  refine Ends.go (fun _ k => XS.bipush X0.here hx rfl (hb hby at_72) k) ?_
                  show Ends p e below s s₁ (mkF m 74 #[.val (.int p0), .val (.int p1), .val (.int c'), .unset] [(.int (126 : Int32)), (.int c')]) _ _ _
                  by_cases hc74_31 : c' = (126 : Int32)
                  · refine Ends.go (fun _ k => XS.icmpNo X0.here hx rfl (hb hby at_74) rfl (teq hc74_31).2 k) ?_
                    show Ends p e below s s₁ (mkF m 77 #[.val (.int p0), .val (.int p1), .val (.int c'), .unset] []) _ _ _
                    have hc74_31i : c'.toInt = 126 := congrArg Int32.toInt hc74_31
                    refine Ends.go (fun _ k => XS.iconst X0.here hx rfl (hb hby at_77) k) ?_
                    show Ends p e below s s₁ (mkF m 78 #[.val (.int p0), .val (.int p1), .val (.int c'), .unset] [(.int (1 : Int32))]) _ _ _
                    refine Ends.go (fun _ k => XS.goto X0.here hx rfl (pc0 := 78) (pc' := 82) rfl (hb hby at_78) (by decide) (by decide) k) ?_
                    show Ends p e below s s₁ (mkF m 82 #[.val (.int p0), .val (.int p1), .val (.int c'), .unset] [(.int (1 : Int32))]) _ _ _
                    refine Ends.go (fun _ k => XS.istoreN X0.here hx rfl (hb hby at_82) rfl (l' := #[.val (.int p0), .val (.int p1), .val (.int c'), .val (.int (1 : Int32))]) rfl k) ?_
                    show Ends p e below s s₁ (mkF m 83 #[.val (.int p0), .val (.int p1), .val (.int c'), .val (.int (1 : Int32))] []) _ _ _
                    exact J83 1 (fun _ => rfl) (fun q => absurd (by unfold own_unres; omega) q)
                  · refine Ends.go (fun _ k => XS.icmpYes X0.here hx rfl (pc0 := 74) (pc' := 81) rfl (hb hby at_74) rfl (feq hc74_31).2 (by decide) (by decide) k) ?_
                    show Ends p e below s s₁ (mkF m 81 #[.val (.int p0), .val (.int p1), .val (.int c'), .unset] []) _ _ _
                    have hc74_31i : ¬ (c'.toInt = 126) := fun q => hc74_31 (Int32.toInt_inj.mp q)
                    refine Ends.go (fun _ k => XS.iconst X0.here hx rfl (hb hby at_81) k) ?_
                    show Ends p e below s s₁ (mkF m 82 #[.val (.int p0), .val (.int p1), .val (.int c'), .unset] [(.int (0 : Int32))]) _ _ _
                    refine Ends.go (fun _ k => XS.istoreN X0.here hx rfl (hb hby at_82) rfl (l' := #[.val (.int p0), .val (.int p1), .val (.int c'), .val (.int (0 : Int32))]) rfl k) ?_
                    show Ends p e below s s₁ (mkF m 83 #[.val (.int p0), .val (.int p1), .val (.int c'), .val (.int (0 : Int32))] []) _ _ _
                    exact J83 0 (fun q => absurd q (by unfold own_unres; omega)) (fun _ => rfl)
          · refine Ends.go (fun _ k => XS.icmpNo X0.here hx rfl (hb hby at_44) rfl (flt hc44_27).1 k) ?_
            show Ends p e below s s₁ (mkF m 47 #[.val (.int p0), .val (.int p1), .val (.int c'), .unset] []) _ _ _
            have hc44_27i : ¬ (c'.toInt < 48) := fun q => hc44_27 (Int32.lt_iff_toInt_lt.mpr q)
            refine Ends.go (fun _ k => XS.iloadN X0.here hx rfl (hb hby at_47) rfl k) ?_
            show Ends p e below s s₁ (mkF m 48 #[.val (.int p0), .val (.int p1), .val (.int c'), .unset] [(.int c')]) _ _ _
            refine Ends.go (fun _ k => XS.bipush X0.here hx rfl (hb hby at_48) k) ?_
            show Ends p e below s s₁ (mkF m 50 #[.val (.int p0), .val (.int p1), .val (.int c'), .unset] [(.int (57 : Int32)), (.int c')]) _ _ _
            by_cases hc50_32 : (57 : Int32) < c'
            · refine Ends.go (fun _ k => XS.icmpNo X0.here hx rfl (hb hby at_50) rfl (tlt hc50_32).2.2.2 k) ?_
              show Ends p e below s s₁ (mkF m 53 #[.val (.int p0), .val (.int p1), .val (.int c'), .unset] []) _ _ _
              have hc50_32i : 57 < c'.toInt := Int32.lt_iff_toInt_lt.mp hc50_32
              refine Ends.go (fun _ k => XS.iloadN X0.here hx rfl (hb hby at_53) rfl k) ?_
              show Ends p e below s s₁ (mkF m 54 #[.val (.int p0), .val (.int p1), .val (.int c'), .unset] [(.int c')]) _ _ _
              refine Ends.go (fun _ k => XS.bipush X0.here hx rfl (hb hby at_54) k) ?_
              show Ends p e below s s₁ (mkF m 56 #[.val (.int p0), .val (.int p1), .val (.int c'), .unset] [(.int (45 : Int32)), (.int c')]) _ _ _
              by_cases hc56_33 : c' = (45 : Int32)
              · refine Ends.go (fun _ k => XS.icmpYes X0.here hx rfl (pc0 := 56) (pc' := 77) rfl (hb hby at_56) rfl (teq hc56_33).1 (by decide) (by decide) k) ?_
                show Ends p e below s s₁ (mkF m 77 #[.val (.int p0), .val (.int p1), .val (.int c'), .unset] []) _ _ _
                have hc56_33i : c'.toInt = 45 := congrArg Int32.toInt hc56_33
                refine Ends.go (fun _ k => XS.iconst X0.here hx rfl (hb hby at_77) k) ?_
                show Ends p e below s s₁ (mkF m 78 #[.val (.int p0), .val (.int p1), .val (.int c'), .unset] [(.int (1 : Int32))]) _ _ _
                refine Ends.go (fun _ k => XS.goto X0.here hx rfl (pc0 := 78) (pc' := 82) rfl (hb hby at_78) (by decide) (by decide) k) ?_
                show Ends p e below s s₁ (mkF m 82 #[.val (.int p0), .val (.int p1), .val (.int c'), .unset] [(.int (1 : Int32))]) _ _ _
                refine Ends.go (fun _ k => XS.istoreN X0.here hx rfl (hb hby at_82) rfl (l' := #[.val (.int p0), .val (.int p1), .val (.int c'), .val (.int (1 : Int32))]) rfl k) ?_
                show Ends p e below s s₁ (mkF m 83 #[.val (.int p0), .val (.int p1), .val (.int c'), .val (.int (1 : Int32))] []) _ _ _
                exact J83 1 (fun _ => rfl) (fun q => absurd (by unfold own_unres; omega) q)
              · refine Ends.go (fun _ k => XS.icmpNo X0.here hx rfl (hb hby at_56) rfl (feq hc56_33).1 k) ?_
                show Ends p e below s s₁ (mkF m 59 #[.val (.int p0), .val (.int p1), .val (.int c'), .unset] []) _ _ _
                have hc56_33i : ¬ (c'.toInt = 45) := fun q => hc56_33 (Int32.toInt_inj.mp q)
                refine Ends.go (fun _ k => XS.iloadN X0.here hx rfl (hb hby at_59) rfl k) ?_
                show Ends p e below s s₁ (mkF m 60 #[.val (.int p0), .val (.int p1), .val (.int c'), .unset] [(.int c')]) _ _ _
                refine Ends.go (fun _ k => XS.bipush X0.here hx rfl (hb hby at_60) k) ?_
                show Ends p e below s s₁ (mkF m 62 #[.val (.int p0), .val (.int p1), .val (.int c'), .unset] [(.int (46 : Int32)), (.int c')]) _ _ _
                by_cases hc62_34 : c' = (46 : Int32)
                · refine Ends.go (fun _ k => XS.icmpYes X0.here hx rfl (pc0 := 62) (pc' := 77) rfl (hb hby at_62) rfl (teq hc62_34).1 (by decide) (by decide) k) ?_
                  show Ends p e below s s₁ (mkF m 77 #[.val (.int p0), .val (.int p1), .val (.int c'), .unset] []) _ _ _
                  have hc62_34i : c'.toInt = 46 := congrArg Int32.toInt hc62_34
                  refine Ends.go (fun _ k => XS.iconst X0.here hx rfl (hb hby at_77) k) ?_
                  show Ends p e below s s₁ (mkF m 78 #[.val (.int p0), .val (.int p1), .val (.int c'), .unset] [(.int (1 : Int32))]) _ _ _
                  refine Ends.go (fun _ k => XS.goto X0.here hx rfl (pc0 := 78) (pc' := 82) rfl (hb hby at_78) (by decide) (by decide) k) ?_
                  show Ends p e below s s₁ (mkF m 82 #[.val (.int p0), .val (.int p1), .val (.int c'), .unset] [(.int (1 : Int32))]) _ _ _
                  refine Ends.go (fun _ k => XS.istoreN X0.here hx rfl (hb hby at_82) rfl (l' := #[.val (.int p0), .val (.int p1), .val (.int c'), .val (.int (1 : Int32))]) rfl k) ?_
                  show Ends p e below s s₁ (mkF m 83 #[.val (.int p0), .val (.int p1), .val (.int c'), .val (.int (1 : Int32))] []) _ _ _
                  exact J83 1 (fun _ => rfl) (fun q => absurd (by unfold own_unres; omega) q)
                · refine Ends.go (fun _ k => XS.icmpNo X0.here hx rfl (hb hby at_62) rfl (feq hc62_34).1 k) ?_
                  show Ends p e below s s₁ (mkF m 65 #[.val (.int p0), .val (.int p1), .val (.int c'), .unset] []) _ _ _
                  have hc62_34i : ¬ (c'.toInt = 46) := fun q => hc62_34 (Int32.toInt_inj.mp q)
                  refine Ends.go (fun _ k => XS.iloadN X0.here hx rfl (hb hby at_65) rfl k) ?_
                  show Ends p e below s s₁ (mkF m 66 #[.val (.int p0), .val (.int p1), .val (.int c'), .unset] [(.int c')]) _ _ _
                  refine Ends.go (fun _ k => XS.bipush X0.here hx rfl (hb hby at_66) k) ?_
                  show Ends p e below s s₁ (mkF m 68 #[.val (.int p0), .val (.int p1), .val (.int c'), .unset] [(.int (95 : Int32)), (.int c')]) _ _ _
                  by_cases hc68_35 : c' = (95 : Int32)
                  · refine Ends.go (fun _ k => XS.icmpYes X0.here hx rfl (pc0 := 68) (pc' := 77) rfl (hb hby at_68) rfl (teq hc68_35).1 (by decide) (by decide) k) ?_
                    show Ends p e below s s₁ (mkF m 77 #[.val (.int p0), .val (.int p1), .val (.int c'), .unset] []) _ _ _
                    have hc68_35i : c'.toInt = 95 := congrArg Int32.toInt hc68_35
                    refine Ends.go (fun _ k => XS.iconst X0.here hx rfl (hb hby at_77) k) ?_
                    show Ends p e below s s₁ (mkF m 78 #[.val (.int p0), .val (.int p1), .val (.int c'), .unset] [(.int (1 : Int32))]) _ _ _
                    refine Ends.go (fun _ k => XS.goto X0.here hx rfl (pc0 := 78) (pc' := 82) rfl (hb hby at_78) (by decide) (by decide) k) ?_
                    show Ends p e below s s₁ (mkF m 82 #[.val (.int p0), .val (.int p1), .val (.int c'), .unset] [(.int (1 : Int32))]) _ _ _
                    refine Ends.go (fun _ k => XS.istoreN X0.here hx rfl (hb hby at_82) rfl (l' := #[.val (.int p0), .val (.int p1), .val (.int c'), .val (.int (1 : Int32))]) rfl k) ?_
                    show Ends p e below s s₁ (mkF m 83 #[.val (.int p0), .val (.int p1), .val (.int c'), .val (.int (1 : Int32))] []) _ _ _
                    exact J83 1 (fun _ => rfl) (fun q => absurd (by unfold own_unres; omega) q)
                  · refine Ends.go (fun _ k => XS.icmpNo X0.here hx rfl (hb hby at_68) rfl (feq hc68_35).1 k) ?_
                    show Ends p e below s s₁ (mkF m 71 #[.val (.int p0), .val (.int p1), .val (.int c'), .unset] []) _ _ _
                    have hc68_35i : ¬ (c'.toInt = 95) := fun q => hc68_35 (Int32.toInt_inj.mp q)
                    refine Ends.go (fun _ k => XS.iloadN X0.here hx rfl (hb hby at_71) rfl k) ?_
                    show Ends p e below s s₁ (mkF m 72 #[.val (.int p0), .val (.int p1), .val (.int c'), .unset] [(.int c')]) _ _ _
                    refine Ends.go (fun _ k => XS.bipush X0.here hx rfl (hb hby at_72) k) ?_
                    show Ends p e below s s₁ (mkF m 74 #[.val (.int p0), .val (.int p1), .val (.int c'), .unset] [(.int (126 : Int32)), (.int c')]) _ _ _
                    by_cases hc74_36 : c' = (126 : Int32)
                    · refine Ends.go (fun _ k => XS.icmpNo X0.here hx rfl (hb hby at_74) rfl (teq hc74_36).2 k) ?_
                      show Ends p e below s s₁ (mkF m 77 #[.val (.int p0), .val (.int p1), .val (.int c'), .unset] []) _ _ _
                      have hc74_36i : c'.toInt = 126 := congrArg Int32.toInt hc74_36
                      refine Ends.go (fun _ k => XS.iconst X0.here hx rfl (hb hby at_77) k) ?_
                      show Ends p e below s s₁ (mkF m 78 #[.val (.int p0), .val (.int p1), .val (.int c'), .unset] [(.int (1 : Int32))]) _ _ _
                      refine Ends.go (fun _ k => XS.goto X0.here hx rfl (pc0 := 78) (pc' := 82) rfl (hb hby at_78) (by decide) (by decide) k) ?_
                      show Ends p e below s s₁ (mkF m 82 #[.val (.int p0), .val (.int p1), .val (.int c'), .unset] [(.int (1 : Int32))]) _ _ _
                      refine Ends.go (fun _ k => XS.istoreN X0.here hx rfl (hb hby at_82) rfl (l' := #[.val (.int p0), .val (.int p1), .val (.int c'), .val (.int (1 : Int32))]) rfl k) ?_
                      show Ends p e below s s₁ (mkF m 83 #[.val (.int p0), .val (.int p1), .val (.int c'), .val (.int (1 : Int32))] []) _ _ _
                      exact J83 1 (fun _ => rfl) (fun q => absurd (by unfold own_unres; omega) q)
                    · refine Ends.go (fun _ k => XS.icmpYes X0.here hx rfl (pc0 := 74) (pc' := 81) rfl (hb hby at_74) rfl (feq hc74_36).2 (by decide) (by decide) k) ?_
                      show Ends p e below s s₁ (mkF m 81 #[.val (.int p0), .val (.int p1), .val (.int c'), .unset] []) _ _ _
                      have hc74_36i : ¬ (c'.toInt = 126) := fun q => hc74_36 (Int32.toInt_inj.mp q)
                      refine Ends.go (fun _ k => XS.iconst X0.here hx rfl (hb hby at_81) k) ?_
                      show Ends p e below s s₁ (mkF m 82 #[.val (.int p0), .val (.int p1), .val (.int c'), .unset] [(.int (0 : Int32))]) _ _ _
                      refine Ends.go (fun _ k => XS.istoreN X0.here hx rfl (hb hby at_82) rfl (l' := #[.val (.int p0), .val (.int p1), .val (.int c'), .val (.int (0 : Int32))]) rfl k) ?_
                      show Ends p e below s s₁ (mkF m 83 #[.val (.int p0), .val (.int p1), .val (.int c'), .val (.int (0 : Int32))] []) _ _ _
                      exact J83 0 (fun q => absurd q (by unfold own_unres; omega)) (fun _ => rfl)
            · refine Ends.go (fun _ k => XS.icmpYes X0.here hx rfl (pc0 := 50) (pc' := 77) rfl (hb hby at_50) rfl (flt hc50_32).2.2.2 (by decide) (by decide) k) ?_
              show Ends p e below s s₁ (mkF m 77 #[.val (.int p0), .val (.int p1), .val (.int c'), .unset] []) _ _ _
              have hc50_32i : ¬ (57 < c'.toInt) := fun q => hc50_32 (Int32.lt_iff_toInt_lt.mpr q)
              refine Ends.go (fun _ k => XS.iconst X0.here hx rfl (hb hby at_77) k) ?_
              show Ends p e below s s₁ (mkF m 78 #[.val (.int p0), .val (.int p1), .val (.int c'), .unset] [(.int (1 : Int32))]) _ _ _
              refine Ends.go (fun _ k => XS.goto X0.here hx rfl (pc0 := 78) (pc' := 82) rfl (hb hby at_78) (by decide) (by decide) k) ?_
              show Ends p e below s s₁ (mkF m 82 #[.val (.int p0), .val (.int p1), .val (.int c'), .unset] [(.int (1 : Int32))]) _ _ _
              refine Ends.go (fun _ k => XS.istoreN X0.here hx rfl (hb hby at_82) rfl (l' := #[.val (.int p0), .val (.int p1), .val (.int c'), .val (.int (1 : Int32))]) rfl k) ?_
              show Ends p e below s s₁ (mkF m 83 #[.val (.int p0), .val (.int p1), .val (.int c'), .val (.int (1 : Int32))] []) _ _ _
              exact J83 1 (fun _ => rfl) (fun q => absurd (by unfold own_unres; omega) q)
        · refine Ends.go (fun _ k => XS.icmpNo X0.here hx rfl (hb hby at_32) rfl (flt hc32_26).1 k) ?_
          show Ends p e below s s₁ (mkF m 35 #[.val (.int p0), .val (.int p1), .val (.int c'), .unset] []) _ _ _
          have hc32_26i : ¬ (c'.toInt < 97) := fun q => hc32_26 (Int32.lt_iff_toInt_lt.mpr q)
          refine Ends.go (fun _ k => XS.iloadN X0.here hx rfl (hb hby at_35) rfl k) ?_
          show Ends p e below s s₁ (mkF m 36 #[.val (.int p0), .val (.int p1), .val (.int c'), .unset] [(.int c')]) _ _ _
          refine Ends.go (fun _ k => XS.bipush X0.here hx rfl (hb hby at_36) k) ?_
          show Ends p e below s s₁ (mkF m 38 #[.val (.int p0), .val (.int p1), .val (.int c'), .unset] [(.int (122 : Int32)), (.int c')]) _ _ _
          by_cases hc38_37 : (122 : Int32) < c'
          · refine Ends.go (fun _ k => XS.icmpNo X0.here hx rfl (hb hby at_38) rfl (tlt hc38_37).2.2.2 k) ?_
            show Ends p e below s s₁ (mkF m 41 #[.val (.int p0), .val (.int p1), .val (.int c'), .unset] []) _ _ _
            have hc38_37i : 122 < c'.toInt := Int32.lt_iff_toInt_lt.mp hc38_37
            refine Ends.go (fun _ k => XS.iloadN X0.here hx rfl (hb hby at_41) rfl k) ?_
            show Ends p e below s s₁ (mkF m 42 #[.val (.int p0), .val (.int p1), .val (.int c'), .unset] [(.int c')]) _ _ _
            refine Ends.go (fun _ k => XS.bipush X0.here hx rfl (hb hby at_42) k) ?_
            show Ends p e below s s₁ (mkF m 44 #[.val (.int p0), .val (.int p1), .val (.int c'), .unset] [(.int (48 : Int32)), (.int c')]) _ _ _
            by_cases hc44_38 : c' < (48 : Int32)
            · refine Ends.go (fun _ k => XS.icmpYes X0.here hx rfl (pc0 := 44) (pc' := 53) rfl (hb hby at_44) rfl (tlt hc44_38).1 (by decide) (by decide) k) ?_
              show Ends p e below s s₁ (mkF m 53 #[.val (.int p0), .val (.int p1), .val (.int c'), .unset] []) _ _ _
              have hc44_38i : c'.toInt < 48 := Int32.lt_iff_toInt_lt.mp hc44_38
              refine Ends.go (fun _ k => XS.iloadN X0.here hx rfl (hb hby at_53) rfl k) ?_
              show Ends p e below s s₁ (mkF m 54 #[.val (.int p0), .val (.int p1), .val (.int c'), .unset] [(.int c')]) _ _ _
              refine Ends.go (fun _ k => XS.bipush X0.here hx rfl (hb hby at_54) k) ?_
              show Ends p e below s s₁ (mkF m 56 #[.val (.int p0), .val (.int p1), .val (.int c'), .unset] [(.int (45 : Int32)), (.int c')]) _ _ _
              by_cases hc56_39 : c' = (45 : Int32)
              · refine Ends.go (fun _ k => XS.icmpYes X0.here hx rfl (pc0 := 56) (pc' := 77) rfl (hb hby at_56) rfl (teq hc56_39).1 (by decide) (by decide) k) ?_
                show Ends p e below s s₁ (mkF m 77 #[.val (.int p0), .val (.int p1), .val (.int c'), .unset] []) _ _ _
                have hc56_39i : c'.toInt = 45 := congrArg Int32.toInt hc56_39
                refine Ends.go (fun _ k => XS.iconst X0.here hx rfl (hb hby at_77) k) ?_
                show Ends p e below s s₁ (mkF m 78 #[.val (.int p0), .val (.int p1), .val (.int c'), .unset] [(.int (1 : Int32))]) _ _ _
                refine Ends.go (fun _ k => XS.goto X0.here hx rfl (pc0 := 78) (pc' := 82) rfl (hb hby at_78) (by decide) (by decide) k) ?_
                show Ends p e below s s₁ (mkF m 82 #[.val (.int p0), .val (.int p1), .val (.int c'), .unset] [(.int (1 : Int32))]) _ _ _
                refine Ends.go (fun _ k => XS.istoreN X0.here hx rfl (hb hby at_82) rfl (l' := #[.val (.int p0), .val (.int p1), .val (.int c'), .val (.int (1 : Int32))]) rfl k) ?_
                show Ends p e below s s₁ (mkF m 83 #[.val (.int p0), .val (.int p1), .val (.int c'), .val (.int (1 : Int32))] []) _ _ _
                exact J83 1 (fun _ => rfl) (fun q => absurd (by unfold own_unres; omega) q)
              · refine Ends.go (fun _ k => XS.icmpNo X0.here hx rfl (hb hby at_56) rfl (feq hc56_39).1 k) ?_
                show Ends p e below s s₁ (mkF m 59 #[.val (.int p0), .val (.int p1), .val (.int c'), .unset] []) _ _ _
                have hc56_39i : ¬ (c'.toInt = 45) := fun q => hc56_39 (Int32.toInt_inj.mp q)
                refine Ends.go (fun _ k => XS.iloadN X0.here hx rfl (hb hby at_59) rfl k) ?_
                show Ends p e below s s₁ (mkF m 60 #[.val (.int p0), .val (.int p1), .val (.int c'), .unset] [(.int c')]) _ _ _
                refine Ends.go (fun _ k => XS.bipush X0.here hx rfl (hb hby at_60) k) ?_
                show Ends p e below s s₁ (mkF m 62 #[.val (.int p0), .val (.int p1), .val (.int c'), .unset] [(.int (46 : Int32)), (.int c')]) _ _ _
                by_cases hc62_40 : c' = (46 : Int32)
                · refine Ends.go (fun _ k => XS.icmpYes X0.here hx rfl (pc0 := 62) (pc' := 77) rfl (hb hby at_62) rfl (teq hc62_40).1 (by decide) (by decide) k) ?_
                  show Ends p e below s s₁ (mkF m 77 #[.val (.int p0), .val (.int p1), .val (.int c'), .unset] []) _ _ _
                  have hc62_40i : c'.toInt = 46 := congrArg Int32.toInt hc62_40
                  refine Ends.go (fun _ k => XS.iconst X0.here hx rfl (hb hby at_77) k) ?_
                  show Ends p e below s s₁ (mkF m 78 #[.val (.int p0), .val (.int p1), .val (.int c'), .unset] [(.int (1 : Int32))]) _ _ _
                  refine Ends.go (fun _ k => XS.goto X0.here hx rfl (pc0 := 78) (pc' := 82) rfl (hb hby at_78) (by decide) (by decide) k) ?_
                  show Ends p e below s s₁ (mkF m 82 #[.val (.int p0), .val (.int p1), .val (.int c'), .unset] [(.int (1 : Int32))]) _ _ _
                  refine Ends.go (fun _ k => XS.istoreN X0.here hx rfl (hb hby at_82) rfl (l' := #[.val (.int p0), .val (.int p1), .val (.int c'), .val (.int (1 : Int32))]) rfl k) ?_
                  show Ends p e below s s₁ (mkF m 83 #[.val (.int p0), .val (.int p1), .val (.int c'), .val (.int (1 : Int32))] []) _ _ _
                  exact J83 1 (fun _ => rfl) (fun q => absurd (by unfold own_unres; omega) q)
                · refine Ends.go (fun _ k => XS.icmpNo X0.here hx rfl (hb hby at_62) rfl (feq hc62_40).1 k) ?_
                  show Ends p e below s s₁ (mkF m 65 #[.val (.int p0), .val (.int p1), .val (.int c'), .unset] []) _ _ _
                  have hc62_40i : ¬ (c'.toInt = 46) := fun q => hc62_40 (Int32.toInt_inj.mp q)
                  refine Ends.go (fun _ k => XS.iloadN X0.here hx rfl (hb hby at_65) rfl k) ?_
                  show Ends p e below s s₁ (mkF m 66 #[.val (.int p0), .val (.int p1), .val (.int c'), .unset] [(.int c')]) _ _ _
                  refine Ends.go (fun _ k => XS.bipush X0.here hx rfl (hb hby at_66) k) ?_
                  show Ends p e below s s₁ (mkF m 68 #[.val (.int p0), .val (.int p1), .val (.int c'), .unset] [(.int (95 : Int32)), (.int c')]) _ _ _
                  by_cases hc68_41 : c' = (95 : Int32)
                  · refine Ends.go (fun _ k => XS.icmpYes X0.here hx rfl (pc0 := 68) (pc' := 77) rfl (hb hby at_68) rfl (teq hc68_41).1 (by decide) (by decide) k) ?_
                    show Ends p e below s s₁ (mkF m 77 #[.val (.int p0), .val (.int p1), .val (.int c'), .unset] []) _ _ _
                    have hc68_41i : c'.toInt = 95 := congrArg Int32.toInt hc68_41
                    refine Ends.go (fun _ k => XS.iconst X0.here hx rfl (hb hby at_77) k) ?_
                    show Ends p e below s s₁ (mkF m 78 #[.val (.int p0), .val (.int p1), .val (.int c'), .unset] [(.int (1 : Int32))]) _ _ _
                    refine Ends.go (fun _ k => XS.goto X0.here hx rfl (pc0 := 78) (pc' := 82) rfl (hb hby at_78) (by decide) (by decide) k) ?_
                    show Ends p e below s s₁ (mkF m 82 #[.val (.int p0), .val (.int p1), .val (.int c'), .unset] [(.int (1 : Int32))]) _ _ _
                    refine Ends.go (fun _ k => XS.istoreN X0.here hx rfl (hb hby at_82) rfl (l' := #[.val (.int p0), .val (.int p1), .val (.int c'), .val (.int (1 : Int32))]) rfl k) ?_
                    show Ends p e below s s₁ (mkF m 83 #[.val (.int p0), .val (.int p1), .val (.int c'), .val (.int (1 : Int32))] []) _ _ _
                    exact J83 1 (fun _ => rfl) (fun q => absurd (by unfold own_unres; omega) q)
                  · refine Ends.go (fun _ k => XS.icmpNo X0.here hx rfl (hb hby at_68) rfl (feq hc68_41).1 k) ?_
                    show Ends p e below s s₁ (mkF m 71 #[.val (.int p0), .val (.int p1), .val (.int c'), .unset] []) _ _ _
                    have hc68_41i : ¬ (c'.toInt = 95) := fun q => hc68_41 (Int32.toInt_inj.mp q)
                    refine Ends.go (fun _ k => XS.iloadN X0.here hx rfl (hb hby at_71) rfl k) ?_
                    show Ends p e below s s₁ (mkF m 72 #[.val (.int p0), .val (.int p1), .val (.int c'), .unset] [(.int c')]) _ _ _
                    refine Ends.go (fun _ k => XS.bipush X0.here hx rfl (hb hby at_72) k) ?_
                    show Ends p e below s s₁ (mkF m 74 #[.val (.int p0), .val (.int p1), .val (.int c'), .unset] [(.int (126 : Int32)), (.int c')]) _ _ _
                    by_cases hc74_42 : c' = (126 : Int32)
                    · refine Ends.go (fun _ k => XS.icmpNo X0.here hx rfl (hb hby at_74) rfl (teq hc74_42).2 k) ?_
                      show Ends p e below s s₁ (mkF m 77 #[.val (.int p0), .val (.int p1), .val (.int c'), .unset] []) _ _ _
                      have hc74_42i : c'.toInt = 126 := congrArg Int32.toInt hc74_42
                      refine Ends.go (fun _ k => XS.iconst X0.here hx rfl (hb hby at_77) k) ?_
                      show Ends p e below s s₁ (mkF m 78 #[.val (.int p0), .val (.int p1), .val (.int c'), .unset] [(.int (1 : Int32))]) _ _ _
                      refine Ends.go (fun _ k => XS.goto X0.here hx rfl (pc0 := 78) (pc' := 82) rfl (hb hby at_78) (by decide) (by decide) k) ?_
                      show Ends p e below s s₁ (mkF m 82 #[.val (.int p0), .val (.int p1), .val (.int c'), .unset] [(.int (1 : Int32))]) _ _ _
                      refine Ends.go (fun _ k => XS.istoreN X0.here hx rfl (hb hby at_82) rfl (l' := #[.val (.int p0), .val (.int p1), .val (.int c'), .val (.int (1 : Int32))]) rfl k) ?_
                      show Ends p e below s s₁ (mkF m 83 #[.val (.int p0), .val (.int p1), .val (.int c'), .val (.int (1 : Int32))] []) _ _ _
                      exact J83 1 (fun _ => rfl) (fun q => absurd (by unfold own_unres; omega) q)
                    · refine Ends.go (fun _ k => XS.icmpYes X0.here hx rfl (pc0 := 74) (pc' := 81) rfl (hb hby at_74) rfl (feq hc74_42).2 (by decide) (by decide) k) ?_
                      show Ends p e below s s₁ (mkF m 81 #[.val (.int p0), .val (.int p1), .val (.int c'), .unset] []) _ _ _
                      have hc74_42i : ¬ (c'.toInt = 126) := fun q => hc74_42 (Int32.toInt_inj.mp q)
                      refine Ends.go (fun _ k => XS.iconst X0.here hx rfl (hb hby at_81) k) ?_
                      show Ends p e below s s₁ (mkF m 82 #[.val (.int p0), .val (.int p1), .val (.int c'), .unset] [(.int (0 : Int32))]) _ _ _
                      refine Ends.go (fun _ k => XS.istoreN X0.here hx rfl (hb hby at_82) rfl (l' := #[.val (.int p0), .val (.int p1), .val (.int c'), .val (.int (0 : Int32))]) rfl k) ?_
                      show Ends p e below s s₁ (mkF m 83 #[.val (.int p0), .val (.int p1), .val (.int c'), .val (.int (0 : Int32))] []) _ _ _
                      exact J83 0 (fun q => absurd q (by unfold own_unres; omega)) (fun _ => rfl)
            · refine Ends.go (fun _ k => XS.icmpNo X0.here hx rfl (hb hby at_44) rfl (flt hc44_38).1 k) ?_
              show Ends p e below s s₁ (mkF m 47 #[.val (.int p0), .val (.int p1), .val (.int c'), .unset] []) _ _ _
              have hc44_38i : ¬ (c'.toInt < 48) := fun q => hc44_38 (Int32.lt_iff_toInt_lt.mpr q)
              refine Ends.go (fun _ k => XS.iloadN X0.here hx rfl (hb hby at_47) rfl k) ?_
              show Ends p e below s s₁ (mkF m 48 #[.val (.int p0), .val (.int p1), .val (.int c'), .unset] [(.int c')]) _ _ _
              refine Ends.go (fun _ k => XS.bipush X0.here hx rfl (hb hby at_48) k) ?_
              show Ends p e below s s₁ (mkF m 50 #[.val (.int p0), .val (.int p1), .val (.int c'), .unset] [(.int (57 : Int32)), (.int c')]) _ _ _
              by_cases hc50_43 : (57 : Int32) < c'
              · refine Ends.go (fun _ k => XS.icmpNo X0.here hx rfl (hb hby at_50) rfl (tlt hc50_43).2.2.2 k) ?_
                show Ends p e below s s₁ (mkF m 53 #[.val (.int p0), .val (.int p1), .val (.int c'), .unset] []) _ _ _
                have hc50_43i : 57 < c'.toInt := Int32.lt_iff_toInt_lt.mp hc50_43
                refine Ends.go (fun _ k => XS.iloadN X0.here hx rfl (hb hby at_53) rfl k) ?_
                show Ends p e below s s₁ (mkF m 54 #[.val (.int p0), .val (.int p1), .val (.int c'), .unset] [(.int c')]) _ _ _
                refine Ends.go (fun _ k => XS.bipush X0.here hx rfl (hb hby at_54) k) ?_
                show Ends p e below s s₁ (mkF m 56 #[.val (.int p0), .val (.int p1), .val (.int c'), .unset] [(.int (45 : Int32)), (.int c')]) _ _ _
                by_cases hc56_44 : c' = (45 : Int32)
                · refine Ends.go (fun _ k => XS.icmpYes X0.here hx rfl (pc0 := 56) (pc' := 77) rfl (hb hby at_56) rfl (teq hc56_44).1 (by decide) (by decide) k) ?_
                  show Ends p e below s s₁ (mkF m 77 #[.val (.int p0), .val (.int p1), .val (.int c'), .unset] []) _ _ _
                  have hc56_44i : c'.toInt = 45 := congrArg Int32.toInt hc56_44
                  refine Ends.go (fun _ k => XS.iconst X0.here hx rfl (hb hby at_77) k) ?_
                  show Ends p e below s s₁ (mkF m 78 #[.val (.int p0), .val (.int p1), .val (.int c'), .unset] [(.int (1 : Int32))]) _ _ _
                  refine Ends.go (fun _ k => XS.goto X0.here hx rfl (pc0 := 78) (pc' := 82) rfl (hb hby at_78) (by decide) (by decide) k) ?_
                  show Ends p e below s s₁ (mkF m 82 #[.val (.int p0), .val (.int p1), .val (.int c'), .unset] [(.int (1 : Int32))]) _ _ _
                  refine Ends.go (fun _ k => XS.istoreN X0.here hx rfl (hb hby at_82) rfl (l' := #[.val (.int p0), .val (.int p1), .val (.int c'), .val (.int (1 : Int32))]) rfl k) ?_
                  show Ends p e below s s₁ (mkF m 83 #[.val (.int p0), .val (.int p1), .val (.int c'), .val (.int (1 : Int32))] []) _ _ _
                  exact J83 1 (fun _ => rfl) (fun q => absurd (by unfold own_unres; omega) q)
                · refine Ends.go (fun _ k => XS.icmpNo X0.here hx rfl (hb hby at_56) rfl (feq hc56_44).1 k) ?_
                  show Ends p e below s s₁ (mkF m 59 #[.val (.int p0), .val (.int p1), .val (.int c'), .unset] []) _ _ _
                  have hc56_44i : ¬ (c'.toInt = 45) := fun q => hc56_44 (Int32.toInt_inj.mp q)
                  refine Ends.go (fun _ k => XS.iloadN X0.here hx rfl (hb hby at_59) rfl k) ?_
                  show Ends p e below s s₁ (mkF m 60 #[.val (.int p0), .val (.int p1), .val (.int c'), .unset] [(.int c')]) _ _ _
                  refine Ends.go (fun _ k => XS.bipush X0.here hx rfl (hb hby at_60) k) ?_
                  show Ends p e below s s₁ (mkF m 62 #[.val (.int p0), .val (.int p1), .val (.int c'), .unset] [(.int (46 : Int32)), (.int c')]) _ _ _
                  by_cases hc62_45 : c' = (46 : Int32)
                  · refine Ends.go (fun _ k => XS.icmpYes X0.here hx rfl (pc0 := 62) (pc' := 77) rfl (hb hby at_62) rfl (teq hc62_45).1 (by decide) (by decide) k) ?_
                    show Ends p e below s s₁ (mkF m 77 #[.val (.int p0), .val (.int p1), .val (.int c'), .unset] []) _ _ _
                    have hc62_45i : c'.toInt = 46 := congrArg Int32.toInt hc62_45
                    refine Ends.go (fun _ k => XS.iconst X0.here hx rfl (hb hby at_77) k) ?_
                    show Ends p e below s s₁ (mkF m 78 #[.val (.int p0), .val (.int p1), .val (.int c'), .unset] [(.int (1 : Int32))]) _ _ _
                    refine Ends.go (fun _ k => XS.goto X0.here hx rfl (pc0 := 78) (pc' := 82) rfl (hb hby at_78) (by decide) (by decide) k) ?_
                    show Ends p e below s s₁ (mkF m 82 #[.val (.int p0), .val (.int p1), .val (.int c'), .unset] [(.int (1 : Int32))]) _ _ _
                    refine Ends.go (fun _ k => XS.istoreN X0.here hx rfl (hb hby at_82) rfl (l' := #[.val (.int p0), .val (.int p1), .val (.int c'), .val (.int (1 : Int32))]) rfl k) ?_
                    show Ends p e below s s₁ (mkF m 83 #[.val (.int p0), .val (.int p1), .val (.int c'), .val (.int (1 : Int32))] []) _ _ _
                    exact J83 1 (fun _ => rfl) (fun q => absurd (by unfold own_unres; omega) q)
                  · refine Ends.go (fun _ k => XS.icmpNo X0.here hx rfl (hb hby at_62) rfl (feq hc62_45).1 k) ?_
                    show Ends p e below s s₁ (mkF m 65 #[.val (.int p0), .val (.int p1), .val (.int c'), .unset] []) _ _ _
                    have hc62_45i : ¬ (c'.toInt = 46) := fun q => hc62_45 (Int32.toInt_inj.mp q)
                    refine Ends.go (fun _ k => XS.iloadN X0.here hx rfl (hb hby at_65) rfl k) ?_
                    show Ends p e below s s₁ (mkF m 66 #[.val (.int p0), .val (.int p1), .val (.int c'), .unset] [(.int c')]) _ _ _
                    refine Ends.go (fun _ k => XS.bipush X0.here hx rfl (hb hby at_66) k) ?_
                    show Ends p e below s s₁ (mkF m 68 #[.val (.int p0), .val (.int p1), .val (.int c'), .unset] [(.int (95 : Int32)), (.int c')]) _ _ _
                    by_cases hc68_46 : c' = (95 : Int32)
                    · refine Ends.go (fun _ k => XS.icmpYes X0.here hx rfl (pc0 := 68) (pc' := 77) rfl (hb hby at_68) rfl (teq hc68_46).1 (by decide) (by decide) k) ?_
                      show Ends p e below s s₁ (mkF m 77 #[.val (.int p0), .val (.int p1), .val (.int c'), .unset] []) _ _ _
                      have hc68_46i : c'.toInt = 95 := congrArg Int32.toInt hc68_46
                      refine Ends.go (fun _ k => XS.iconst X0.here hx rfl (hb hby at_77) k) ?_
                      show Ends p e below s s₁ (mkF m 78 #[.val (.int p0), .val (.int p1), .val (.int c'), .unset] [(.int (1 : Int32))]) _ _ _
                      refine Ends.go (fun _ k => XS.goto X0.here hx rfl (pc0 := 78) (pc' := 82) rfl (hb hby at_78) (by decide) (by decide) k) ?_
                      show Ends p e below s s₁ (mkF m 82 #[.val (.int p0), .val (.int p1), .val (.int c'), .unset] [(.int (1 : Int32))]) _ _ _
                      refine Ends.go (fun _ k => XS.istoreN X0.here hx rfl (hb hby at_82) rfl (l' := #[.val (.int p0), .val (.int p1), .val (.int c'), .val (.int (1 : Int32))]) rfl k) ?_
                      show Ends p e below s s₁ (mkF m 83 #[.val (.int p0), .val (.int p1), .val (.int c'), .val (.int (1 : Int32))] []) _ _ _
                      exact J83 1 (fun _ => rfl) (fun q => absurd (by unfold own_unres; omega) q)
                    · refine Ends.go (fun _ k => XS.icmpNo X0.here hx rfl (hb hby at_68) rfl (feq hc68_46).1 k) ?_
                      show Ends p e below s s₁ (mkF m 71 #[.val (.int p0), .val (.int p1), .val (.int c'), .unset] []) _ _ _
                      have hc68_46i : ¬ (c'.toInt = 95) := fun q => hc68_46 (Int32.toInt_inj.mp q)
                      refine Ends.go (fun _ k => XS.iloadN X0.here hx rfl (hb hby at_71) rfl k) ?_
                      show Ends p e below s s₁ (mkF m 72 #[.val (.int p0), .val (.int p1), .val (.int c'), .unset] [(.int c')]) _ _ _
                      refine Ends.go (fun _ k => XS.bipush X0.here hx rfl (hb hby at_72) k) ?_
                      show Ends p e below s s₁ (mkF m 74 #[.val (.int p0), .val (.int p1), .val (.int c'), .unset] [(.int (126 : Int32)), (.int c')]) _ _ _
                      by_cases hc74_47 : c' = (126 : Int32)
                      · refine Ends.go (fun _ k => XS.icmpNo X0.here hx rfl (hb hby at_74) rfl (teq hc74_47).2 k) ?_
                        show Ends p e below s s₁ (mkF m 77 #[.val (.int p0), .val (.int p1), .val (.int c'), .unset] []) _ _ _
                        have hc74_47i : c'.toInt = 126 := congrArg Int32.toInt hc74_47
                        refine Ends.go (fun _ k => XS.iconst X0.here hx rfl (hb hby at_77) k) ?_
                        show Ends p e below s s₁ (mkF m 78 #[.val (.int p0), .val (.int p1), .val (.int c'), .unset] [(.int (1 : Int32))]) _ _ _
                        refine Ends.go (fun _ k => XS.goto X0.here hx rfl (pc0 := 78) (pc' := 82) rfl (hb hby at_78) (by decide) (by decide) k) ?_
                        show Ends p e below s s₁ (mkF m 82 #[.val (.int p0), .val (.int p1), .val (.int c'), .unset] [(.int (1 : Int32))]) _ _ _
                        refine Ends.go (fun _ k => XS.istoreN X0.here hx rfl (hb hby at_82) rfl (l' := #[.val (.int p0), .val (.int p1), .val (.int c'), .val (.int (1 : Int32))]) rfl k) ?_
                        show Ends p e below s s₁ (mkF m 83 #[.val (.int p0), .val (.int p1), .val (.int c'), .val (.int (1 : Int32))] []) _ _ _
                        exact J83 1 (fun _ => rfl) (fun q => absurd (by unfold own_unres; omega) q)
                      · refine Ends.go (fun _ k => XS.icmpYes X0.here hx rfl (pc0 := 74) (pc' := 81) rfl (hb hby at_74) rfl (feq hc74_47).2 (by decide) (by decide) k) ?_
                        show Ends p e below s s₁ (mkF m 81 #[.val (.int p0), .val (.int p1), .val (.int c'), .unset] []) _ _ _
                        have hc74_47i : ¬ (c'.toInt = 126) := fun q => hc74_47 (Int32.toInt_inj.mp q)
                        refine Ends.go (fun _ k => XS.iconst X0.here hx rfl (hb hby at_81) k) ?_
                        show Ends p e below s s₁ (mkF m 82 #[.val (.int p0), .val (.int p1), .val (.int c'), .unset] [(.int (0 : Int32))]) _ _ _
                        refine Ends.go (fun _ k => XS.istoreN X0.here hx rfl (hb hby at_82) rfl (l' := #[.val (.int p0), .val (.int p1), .val (.int c'), .val (.int (0 : Int32))]) rfl k) ?_
                        show Ends p e below s s₁ (mkF m 83 #[.val (.int p0), .val (.int p1), .val (.int c'), .val (.int (0 : Int32))] []) _ _ _
                        exact J83 0 (fun q => absurd q (by unfold own_unres; omega)) (fun _ => rfl)
              · refine Ends.go (fun _ k => XS.icmpYes X0.here hx rfl (pc0 := 50) (pc' := 77) rfl (hb hby at_50) rfl (flt hc50_43).2.2.2 (by decide) (by decide) k) ?_
                show Ends p e below s s₁ (mkF m 77 #[.val (.int p0), .val (.int p1), .val (.int c'), .unset] []) _ _ _
                have hc50_43i : ¬ (57 < c'.toInt) := fun q => hc50_43 (Int32.lt_iff_toInt_lt.mpr q)
                refine Ends.go (fun _ k => XS.iconst X0.here hx rfl (hb hby at_77) k) ?_
                show Ends p e below s s₁ (mkF m 78 #[.val (.int p0), .val (.int p1), .val (.int c'), .unset] [(.int (1 : Int32))]) _ _ _
                refine Ends.go (fun _ k => XS.goto X0.here hx rfl (pc0 := 78) (pc' := 82) rfl (hb hby at_78) (by decide) (by decide) k) ?_
                show Ends p e below s s₁ (mkF m 82 #[.val (.int p0), .val (.int p1), .val (.int c'), .unset] [(.int (1 : Int32))]) _ _ _
                refine Ends.go (fun _ k => XS.istoreN X0.here hx rfl (hb hby at_82) rfl (l' := #[.val (.int p0), .val (.int p1), .val (.int c'), .val (.int (1 : Int32))]) rfl k) ?_
                show Ends p e below s s₁ (mkF m 83 #[.val (.int p0), .val (.int p1), .val (.int c'), .val (.int (1 : Int32))] []) _ _ _
                exact J83 1 (fun _ => rfl) (fun q => absurd (by unfold own_unres; omega) q)
          · refine Ends.go (fun _ k => XS.icmpYes X0.here hx rfl (pc0 := 38) (pc' := 77) rfl (hb hby at_38) rfl (flt hc38_37).2.2.2 (by decide) (by decide) k) ?_
            show Ends p e below s s₁ (mkF m 77 #[.val (.int p0), .val (.int p1), .val (.int c'), .unset] []) _ _ _
            have hc38_37i : ¬ (122 < c'.toInt) := fun q => hc38_37 (Int32.lt_iff_toInt_lt.mpr q)
            refine Ends.go (fun _ k => XS.iconst X0.here hx rfl (hb hby at_77) k) ?_
            show Ends p e below s s₁ (mkF m 78 #[.val (.int p0), .val (.int p1), .val (.int c'), .unset] [(.int (1 : Int32))]) _ _ _
            refine Ends.go (fun _ k => XS.goto X0.here hx rfl (pc0 := 78) (pc' := 82) rfl (hb hby at_78) (by decide) (by decide) k) ?_
            show Ends p e below s s₁ (mkF m 82 #[.val (.int p0), .val (.int p1), .val (.int c'), .unset] [(.int (1 : Int32))]) _ _ _
            refine Ends.go (fun _ k => XS.istoreN X0.here hx rfl (hb hby at_82) rfl (l' := #[.val (.int p0), .val (.int p1), .val (.int c'), .val (.int (1 : Int32))]) rfl k) ?_
            show Ends p e below s s₁ (mkF m 83 #[.val (.int p0), .val (.int p1), .val (.int c'), .val (.int (1 : Int32))] []) _ _ _
            exact J83 1 (fun _ => rfl) (fun q => absurd (by unfold own_unres; omega) q)
      · refine Ends.go (fun _ k => XS.icmpYes X0.here hx rfl (pc0 := 26) (pc' := 77) rfl (hb hby at_26) rfl (flt hc26_25).2.2.2 (by decide) (by decide) k) ?_
        show Ends p e below s s₁ (mkF m 77 #[.val (.int p0), .val (.int p1), .val (.int c'), .unset] []) _ _ _
        have hc26_25i : ¬ (90 < c'.toInt) := fun q => hc26_25 (Int32.lt_iff_toInt_lt.mpr q)
        refine Ends.go (fun _ k => XS.iconst X0.here hx rfl (hb hby at_77) k) ?_
        show Ends p e below s s₁ (mkF m 78 #[.val (.int p0), .val (.int p1), .val (.int c'), .unset] [(.int (1 : Int32))]) _ _ _
        refine Ends.go (fun _ k => XS.goto X0.here hx rfl (pc0 := 78) (pc' := 82) rfl (hb hby at_78) (by decide) (by decide) k) ?_
        show Ends p e below s s₁ (mkF m 82 #[.val (.int p0), .val (.int p1), .val (.int c'), .unset] [(.int (1 : Int32))]) _ _ _
        refine Ends.go (fun _ k => XS.istoreN X0.here hx rfl (hb hby at_82) rfl (l' := #[.val (.int p0), .val (.int p1), .val (.int c'), .val (.int (1 : Int32))]) rfl k) ?_
        show Ends p e below s s₁ (mkF m 83 #[.val (.int p0), .val (.int p1), .val (.int c'), .val (.int (1 : Int32))] []) _ _ _
        exact J83 1 (fun _ => rfl) (fun q => absurd (by unfold own_unres; omega) q)
  show Ends p e below s s₁ (mkF m 0 #[.val (.int p0), .val (.int p1), .unset, .unset] []) _ _ _
  refine Ends.go (fun _ k => XS.iloadN X0.here hx rfl (hb hby at_0) rfl k) ?_
  show Ends p e below s s₁ (mkF m 1 #[.val (.int p0), .val (.int p1), .unset, .unset] [(.int p1)]) _ _ _
  refine Ends.go (fun _ k => XS.iconst X0.here hx rfl (hb hby at_1) k) ?_
  show Ends p e below s s₁ (mkF m 2 #[.val (.int p0), .val (.int p1), .unset, .unset] [(.int (1 : Int32)), (.int p1)]) _ _ _
  refine Ends.go (fun _ k => XS.iand X0.here hx rfl (hb hby at_2) rfl k) ?_
  show Ends p e below s s₁ (mkF m 3 #[.val (.int p0), .val (.int p1), .unset, .unset] [(.int (p1 &&& (1 : Int32)))]) _ _ _
  by_cases hc3_48 : (p1 &&& (1 : Int32)) = (0 : Int32)
  · refine Ends.go (fun _ k => XS.ifYes X0.here hx rfl (pc0 := 3) (pc' := 14) rfl (hb hby at_3) rfl ((if0 _ _).trans (teq hc3_48).1) (by decide) (by decide) k) ?_
    show Ends p e below s s₁ (mkF m 14 #[.val (.int p0), .val (.int p1), .unset, .unset] []) _ _ _
    refine Ends.go (fun _ k => XS.iloadN X0.here hx rfl (hb hby at_14) rfl k) ?_
    show Ends p e below s s₁ (mkF m 15 #[.val (.int p0), .val (.int p1), .unset, .unset] [(.int p0)]) _ _ _
    refine Ends.go (fun _ k => XS.i2c X0.here hx rfl (hb hby at_15) rfl k) ?_
    show Ends p e below s s₁ (mkF m 16 #[.val (.int p0), .val (.int p1), .unset, .unset] [(.int (p0.toUInt32.toUInt16.toUInt32.toInt32))]) _ _ _
    refine Ends.go (fun _ k => XS.istoreN X0.here hx rfl (hb hby at_16) rfl (l' := #[.val (.int p0), .val (.int p1), .val (.int (p0.toUInt32.toUInt16.toUInt32.toInt32)), .unset]) rfl k) ?_
    show Ends p e below s s₁ (mkF m 17 #[.val (.int p0), .val (.int p1), .val (.int (p0.toUInt32.toUInt16.toUInt32.toInt32)), .unset] []) _ _ _
    exact J17 _ (c_i2c _).2.1 (c_i2c _).2.2
  · refine Ends.go (fun _ k => XS.ifNo X0.here hx rfl (hb hby at_3) rfl ((if0 _ _).trans (feq hc3_48).1) k) ?_
    show Ends p e below s s₁ (mkF m 6 #[.val (.int p0), .val (.int p1), .unset, .unset] []) _ _ _
    refine Ends.go (fun _ k => XS.iloadN X0.here hx rfl (hb hby at_6) rfl k) ?_
    show Ends p e below s s₁ (mkF m 7 #[.val (.int p0), .val (.int p1), .unset, .unset] [(.int p0)]) _ _ _
    refine Ends.go (fun _ k => XS.bipush X0.here hx rfl (hb hby at_7) k) ?_
    show Ends p e below s s₁ (mkF m 9 #[.val (.int p0), .val (.int p1), .unset, .unset] [(.int (127 : Int32)), (.int p0)]) _ _ _
    refine Ends.go (fun _ k => XS.iand X0.here hx rfl (hb hby at_9) rfl k) ?_
    show Ends p e below s s₁ (mkF m 10 #[.val (.int p0), .val (.int p1), .unset, .unset] [(.int (p0 &&& (127 : Int32)))]) _ _ _
    refine Ends.go (fun _ k => XS.i2c X0.here hx rfl (hb hby at_10) rfl k) ?_
    show Ends p e below s s₁ (mkF m 11 #[.val (.int p0), .val (.int p1), .unset, .unset] [(.int ((p0 &&& (127 : Int32)).toUInt32.toUInt16.toUInt32.toInt32))]) _ _ _
    refine Ends.go (fun _ k => XS.goto X0.here hx rfl (pc0 := 11) (pc' := 16) rfl (hb hby at_11) (by decide) (by decide) k) ?_
    show Ends p e below s s₁ (mkF m 16 #[.val (.int p0), .val (.int p1), .unset, .unset] [(.int ((p0 &&& (127 : Int32)).toUInt32.toUInt16.toUInt32.toInt32))]) _ _ _
    refine Ends.go (fun _ k => XS.istoreN X0.here hx rfl (hb hby at_16) rfl (l' := #[.val (.int p0), .val (.int p1), .val (.int ((p0 &&& (127 : Int32)).toUInt32.toUInt16.toUInt32.toInt32)), .unset]) rfl k) ?_
    show Ends p e below s s₁ (mkF m 17 #[.val (.int p0), .val (.int p1), .val (.int ((p0 &&& (127 : Int32)).toUInt32.toUInt16.toUInt32.toInt32)), .unset] []) _ _ _
    exact J17 _ (c_i2c _).2.1 (c_i2c _).2.2
set_option maxRecDepth 65536 in
set_option maxHeartbeats 40000000 in
theorem comes_1 {Post : Tables → Env → Array Value → State → Outcome → State → Prop} (hpost : ∀ tb e args s v u, (limb_1_1.after args s (.returned v) u = true ∧ limb_1_2.after args s (.returned v) u = true ∧ True) → FrameEnd s (.returned v) u (Jvm.fieldLocs frame_1_writes args s ++ Jvm.arrayLocs frame_1_arrays args s ++ Jvm.staticLocs frame_1_statics s) 0 0 → Post tb e args s (.returned v) u) :
    ArmFor flags0 classFile x code maxLocals ret World_1 tables_1 room_1 Calls_1 rest_1 Pre_1 Post := by
  intro l hfl _ _ p e ha hc hk s m args below hf hA hF happ hP
  obtain ⟨hcalls, hrest, hpre⟩ := hP
  obtain ⟨-, -, -, hnamed, -, -, -, hat⟩ := (Spec.applies_iff hf).mp happ
  obtain ⟨hg, hn⟩ := and_e (Cond.before_iff.mp (show (Jvm.Cond.and given_1 narrow_1).before args s = true from hpre))
  obtain ⟨g0a, g0b⟩ := and_e hg
  obtain ⟨g1a, g1b⟩ := and_e g0b
  obtain ⟨w0, w1, rfl⟩ : ∃ w0 w1 : Value, args = #[w0, w1] := by
    have hs : args.size = 2 := by simpa [Cond.value, given_1] using g0a
    obtain ⟨L⟩ := args
    match L, hs with
    | [w0, w1], _ => exact ⟨w0, w1, rfl⟩
  have hw := fun d (hd : d ∈ tables_1) => atoms_spec (ws := Jvm.Cond.code x code maxLocals ret :: tables_1) hat d (List.mem_cons_of_mem _ hd)
  have hfit : Fit s := fun {y c} hc i hi => by
    obtain ⟨ha, rfl⟩ := Array.getElem?_eq_some_iff.mp hc
    have q := List.all_eq_true.mp ((Array.all_eq_true_iff_forall_mem.mp hF) _ (Array.getElem_mem ha)) i (List.mem_range.mpr hi)
    simpa [Array.getElem?_eq_getElem hi] using q
  obtain ⟨i0, ei0⟩ := is_v g1a
  obtain rfl : w0 = (.int i0) := Option.some.inj ei0
  obtain ⟨i1, ei1⟩ := is_v g1b
  obtain rfl : w1 = (.int i1) := Option.some.inj ei1
  obtain ⟨n0a, n0b⟩ := and_e hn
  obtain ⟨n1a, n1b⟩ := and_e n0b
  obtain ⟨n2a, n2b⟩ := and_e n1b
  obtain ⟨n3a, n3b⟩ := and_e n2b
  obtain ⟨n4a, n4b⟩ := and_e n3b
  obtain ⟨n5a, n5b⟩ := and_e n4b
  obtain ⟨n6a, n6b⟩ := and_e n5b
  obtain ⟨n7a, n7b⟩ := and_e n6b
  obtain ⟨n8a, n8b⟩ := and_e n7b
  obtain ⟨n9a, n9b⟩ := and_e n8b
  obtain ⟨n10a, n10b⟩ := and_e n9b
  obtain ⟨n11a, n11b⟩ := and_e n10b
  obtain ⟨n12a, n12b⟩ := and_e n11b
  obtain ⟨n13a, n13b⟩ := and_e n12b
  obtain ⟨n14a, n14b⟩ := and_e n13b
  obtain ⟨n15a, n15b⟩ := and_e n14b
  obtain ⟨n16a, n16b⟩ := and_e n15b
  obtain ⟨n17a, n17b⟩ := and_e n16b
  obtain ⟨n18a, n18b⟩ := and_e n17b
  obtain ⟨n19a, n19b⟩ := and_e n18b
  obtain ⟨n20a, n20b⟩ := and_e n19b
  obtain ⟨n21a, n21b⟩ := and_e n20b
  obtain ⟨n22a, n22b⟩ := and_e n21b
  obtain ⟨n23a, n23b⟩ := and_e n22b
  obtain ⟨n24a, n24b⟩ := and_e n23b
  obtain ⟨n25a, n25b⟩ := and_e n24b
  obtain ⟨n26a, n26b⟩ := and_e n25b
  obtain ⟨n27a, n27b⟩ := and_e n26b
  obtain ⟨n28a, n28b⟩ := and_e n27b
  obtain ⟨n29a, n29b⟩ := and_e n28b
  obtain ⟨n30a, n30b⟩ := and_e n29b
  obtain ⟨n31a, n31b⟩ := and_e n30b
  obtain ⟨n32a, n32b⟩ := and_e n31b
  obtain ⟨w_C, ev_C⟩ := arr_v n0a
  have S_C := Sta.start ev_C (Or.inr ⟨(hw _ (List.mem_of_getElem? (i := 2) rfl)), (hw _ (List.mem_of_getElem? (i := 5) rfl))⟩)
  obtain ⟨cl, Ac⟩ := Arr.start ev_C n0a
  have a6 := Ac.fin (Vm.Alike.refl _)
  obtain ⟨l6, v6⟩ := own_len ev_C a6 n1a
  have H := Tab.start hfit Ac (by simp) l6 v6 (by decide)
  have et : ∀ idx, (Jvm.Term.static "com/example/authority/authority/UriGrammar" "CLASSES" "[S").eval #[.int i0, .int i1] s none idx s = some (.ref w_C) := fun _ => ev_C
  have t0 := own_rng0 (hi := 33) (v := 0) et a6 H n2a
  have t1 := own_pt (k := 33) (v := 32) et a6 (by decide) n3a
  have t2 := own_pt (k := 34) (v := 0) et a6 (by decide) n4a
  have t3 := own_pt (k := 35) (v := 0) et a6 (by decide) n5a
  have t4 := own_pt (k := 36) (v := 32) et a6 (by decide) n6a
  have t5 := own_pt (k := 37) (v := 1024) et a6 (by decide) n7a
  have t6 := own_rng (lo := 38) (hi := 43) (v := 32) et a6 H n8a
  have t7 := own_pt (k := 43) (v := 40) et a6 (by decide) n9a
  have t8 := own_pt (k := 44) (v := 32) et a6 (by decide) n10a
  have t9 := own_pt (k := 45) (v := 24) et a6 (by decide) n11a
  have t10 := own_pt (k := 46) (v := 24) et a6 (by decide) n12a
  have t11 := own_pt (k := 47) (v := 256) et a6 (by decide) n13a
  have t12 := own_rng (lo := 48) (hi := 58) (v := 30) et a6 H n14a
  have t13 := own_pt (k := 58) (v := 64) et a6 (by decide) n15a
  have t14 := own_pt (k := 59) (v := 32) et a6 (by decide) n16a
  have t15 := own_pt (k := 60) (v := 0) et a6 (by decide) n17a
  have t16 := own_pt (k := 61) (v := 32) et a6 (by decide) n18a
  have t17 := own_pt (k := 62) (v := 0) et a6 (by decide) n19a
  have t18 := own_pt (k := 63) (v := 512) et a6 (by decide) n20a
  have t19 := own_pt (k := 64) (v := 128) et a6 (by decide) n21a
  have t20 := own_rng (lo := 65) (hi := 71) (v := 29) et a6 H n22a
  have t21 := own_rng (lo := 71) (hi := 91) (v := 25) et a6 H n23a
  have t22 := own_rng (lo := 91) (hi := 95) (v := 0) et a6 H n24a
  have t23 := own_pt (k := 95) (v := 16) et a6 (by decide) n25a
  have t24 := own_pt (k := 96) (v := 0) et a6 (by decide) n26a
  have t25 := own_rng (lo := 97) (hi := 103) (v := 29) et a6 H n27a
  have t26 := own_rng (lo := 103) (hi := 123) (v := 25) et a6 H n28a
  have t27 := own_pt (k := 123) (v := 0) et a6 (by decide) n29a
  have t28 := own_pt (k := 124) (v := 0) et a6 (by decide) n30a
  have t29 := own_pt (k := 125) (v := 0) et a6 (by decide) n31a
  have t30 := own_pt (k := 126) (v := 16) et a6 (by decide) n32a
  have t31 := own_pt (k := 127) (v := 0) et a6 (by decide) n32b
  have hT := own_tab H.2.1 t0 t1 t2 t3 t4 t5 t6 t7 t8 t9 t10 t11 t12 t13 t14 t15 t16 t17 t18 t19 t20 t21 t22 t23 t24 t25 t26 t27 t28 t29 t30 t31
  obtain ⟨n, o, h1, h2, h3, _, L, rfl, ⟨rfl, N⟩, hq⟩ := rm0 l s _ hw tables_1 s.heap.size s.heap (Old.start s) i0 i1 w_C cl S_C H hT p e ha hc hk s m _ below hf ((Spec.applies_iff_loose hf).mp happ).1 ⟨rfl, State.Warmed39.refl s, rfl⟩ trivial
  refine ⟨n, _, h1, h2, h3, hpost _ _ _ _ _ _ ⟨Cond.after_iff.mpr rfl, Cond.after_iff.mpr (eq_i res_at (Term.int_eval (1)) rfl), trivial⟩ ⟨hq.1, hq.2.1, (hq.2.2.sift fun y hy => Or.inr (N y hy)).mono (by decide) (by decide)⟩⟩
theorem main_1_1 : Claimed_1_1 := comes_1 fun _ _ _ _ _ _ h hF => ⟨h.1, hF⟩
theorem main_1_2 : Claimed_1_2 := comes_1 fun _ _ _ _ _ _ h hF => ⟨h.2.1, hF⟩
end Jvm.Pilot.@@N@@
namespace Jvm.Pilot.@@N@@
open Jvm Jvm.ClassFile Sem Op Lib Jvm.Free Jvm.Stand Jvm.Pilot.@@N@@.Jvm.D
/-! MADE BY PROGRAM (witnessworld.py) out of the Statement's table words and the real class files: 11 classes; the members and pool entries that the words name. The judged class is class 1, her method 1. -/
namespace start1
open Jvm.ClassFile
def u (s : String) : CpInfo := .utf8 (stringToUtf16 s)
/-- a pool by its gaps: so many unusable entries, then the entry; so many at the end -/
def gap : Nat → List CpInfo → List CpInfo
  | 0, r => r
  | n + 1, r => .unusable :: gap n r
def poolList (es : List (Nat × CpInfo)) (last : Nat) : List CpInfo := es.foldr (fun e r => gap e.1 (e.2 :: r)) (gap last [])
def pool (es : List (Nat × CpInfo)) (last : Nat) : Array CpInfo := ⟨poolList es last⟩
def fileOf (pool : Array CpInfo) (this : Nat) (attrs : Array Attribute := #[]) (ms : Array MethodInfo := #[]) (fl : Nat := 33) (sup : Nat := 0) (ifs : Array Nat := #[]) (fds : Array FieldInfo := #[]) : ClassFile where
  minorVersion := 0
  majorVersion := 65
  constantPool := pool
  accessFlags := fl
  thisClass := this
  superClass := sup
  interfaces := ifs
  fields := fds
  methods := ms
  attributes := attrs
def plain (name : String) (sup : Option ClassId) : Class where
  name := name
  kind := .ordinary
  loader := none
  accessFlags := 33
  super := sup
  interfaces := #[]
  cf := none
  fields := #[]
  methods := #[]
  instanceTypes := #[]
  staticTypes := #[]
  resolved := #[]
  callSites := []
  init := .initialized
  statics := none
  mirror := none

def pool0 : Array CpInfo := pool [(5, u "<init>"), (0, u "()V"), (1, .class_ 10), (1, u "java/lang/Object")] 113

def k0m0 : Method := { name := "<init>", desc := "()V", sig := { parameters := [], returnType := none }, accessFlags := 1, code := none }
/-- java/lang/Object -/
def k0 : Class := { plain "java/lang/Object" none with
  accessFlags := 33
  interfaces := #[]
  cf := some (fileOf pool0 8 #[] #[{ accessFlags := 1, nameIndex := 5, descriptorIndex := 6, attributes := #[] }] 33 0 #[] #[])
  fields := #[]
  methods := #[k0m0]
  instanceTypes := #[]
  staticTypes := #[]
  resolved := Array.replicate 124 none
  statics := none }

def pool1 : Array CpInfo := pool [(2, .class_ 4), (1, u "java/lang/Object"), (0, u "<init>"), (0, u "()V"), (0, .methodref 8 9), (0, .class_ 10), (0, .nameAndType 11 12), (0, u "com/example/authority/authority/UriGrammar"), (0, u "isUnreserved"), (0, u "(C)Z"), (0, .class_ 14), (0, u "com/example/authority/authority/UriGrammarIsUnreservedPinLaw"), (2, u "law"), (0, u "(II)Z")] 3

def k1m0 : Method := { name := "<init>", desc := "()V", sig := { parameters := [], returnType := none }, accessFlags := 2, code := none }
def k1c1 : Code := { maxStack := 2, maxLocals := 4, code := code, exceptionTable := #[], attributes := #[] }
def k1m1 : Method := { name := "law", desc := "(II)Z", sig := { parameters := [.int, .int], returnType := some .boolean }, accessFlags := 9, code := some k1c1 }
/-- com/example/authority/authority/UriGrammarIsUnreservedPinLaw -/
def k1 : Class := { plain "com/example/authority/authority/UriGrammarIsUnreservedPinLaw" (some 0) with
  accessFlags := 49
  interfaces := #[]
  cf := some (fileOf pool1 13 #[] #[{ accessFlags := 2, nameIndex := 5, descriptorIndex := 6, attributes := #[] }, { accessFlags := 9, nameIndex := 17, descriptorIndex := 18, attributes := #[] }] 49 2 #[] #[])
  fields := #[]
  methods := #[k1m0, k1m1]
  instanceTypes := #[]
  staticTypes := #[]
  resolved := Array.replicate 22 none
  statics := none }

def pool2 : Array CpInfo := pool [(1, .class_ 2), (0, u "com/example/authority/authority/UriGrammar"), (1, .class_ 6), (1, u "java/lang/Object"), (0, u "<init>"), (0, u "()V"), (10, .fieldref 1 20), (0, .nameAndType 21 22), (0, u "CLASSES"), (0, u "[S"), (37, u "HEX_DIGITS"), (0, u "[C"), (75, u "ALPHA"), (0, u "I"), (2, u "DIGIT"), (1, u "HEXDIG"), (1, u "SCHEME"), (1, u "UNRESERVED"), (1, u "SUB_DELIM"), (1, u "COLON"), (1, u "AT"), (1, u "SLASH"), (1, u "QUESTION_MARK"), (1, u "PERCENT"), (1, u "PORT"), (0, u "REG_NAME"), (1, u "USERINFO"), (1, u "SEGMENT_NZ_NC"), (1, u "PATH"), (1, u "QUERY"), (1, u "FRAGMENT"), (0, u "IPV_FUTURE_TAIL"), (7, u "isUnreserved"), (0, u "(C)Z")] 8

def k2m0 : Method := { name := "<init>", desc := "()V", sig := { parameters := [], returnType := none }, accessFlags := 2, code := none }
def k2c1 : Code := { maxStack := 2, maxLocals := 1, code := prog_4_method_7_code, exceptionTable := #[], attributes := #[] }
def k2m1 : Method := { name := "isUnreserved", desc := "(C)Z", sig := { parameters := [.char], returnType := some .boolean }, accessFlags := 8, code := some k2c1 }
/-- com/example/authority/authority/UriGrammar -/
def k2 : Class := { plain "com/example/authority/authority/UriGrammar" (some 0) with
  accessFlags := 48
  interfaces := #[]
  cf := some (fileOf pool2 1 #[] #[{ accessFlags := 2, nameIndex := 7, descriptorIndex := 8, attributes := #[] }, { accessFlags := 8, nameIndex := 181, descriptorIndex := 182, attributes := #[] }] 48 4 #[] #[{ accessFlags := 26, nameIndex := 137, descriptorIndex := 138, attributes := #[] }, { accessFlags := 26, nameIndex := 141, descriptorIndex := 138, attributes := #[] }, { accessFlags := 26, nameIndex := 143, descriptorIndex := 138, attributes := #[] }, { accessFlags := 26, nameIndex := 145, descriptorIndex := 138, attributes := #[] }, { accessFlags := 26, nameIndex := 147, descriptorIndex := 138, attributes := #[] }, { accessFlags := 26, nameIndex := 149, descriptorIndex := 138, attributes := #[] }, { accessFlags := 26, nameIndex := 151, descriptorIndex := 138, attributes := #[] }, { accessFlags := 26, nameIndex := 153, descriptorIndex := 138, attributes := #[] }, { accessFlags := 26, nameIndex := 155, descriptorIndex := 138, attributes := #[] }, { accessFlags := 26, nameIndex := 157, descriptorIndex := 138, attributes := #[] }, { accessFlags := 26, nameIndex := 159, descriptorIndex := 138, attributes := #[] }, { accessFlags := 24, nameIndex := 161, descriptorIndex := 138, attributes := #[] }, { accessFlags := 24, nameIndex := 162, descriptorIndex := 138, attributes := #[] }, { accessFlags := 24, nameIndex := 164, descriptorIndex := 138, attributes := #[] }, { accessFlags := 24, nameIndex := 166, descriptorIndex := 138, attributes := #[] }, { accessFlags := 24, nameIndex := 168, descriptorIndex := 138, attributes := #[] }, { accessFlags := 24, nameIndex := 170, descriptorIndex := 138, attributes := #[] }, { accessFlags := 24, nameIndex := 172, descriptorIndex := 138, attributes := #[] }, { accessFlags := 26, nameIndex := 173, descriptorIndex := 138, attributes := #[] }, { accessFlags := 26, nameIndex := 21, descriptorIndex := 22, attributes := #[] }, { accessFlags := 26, nameIndex := 60, descriptorIndex := 61, attributes := #[] }])
  fields := #[{ name := "ALPHA", type := .int, accessFlags := 26, slot := 0, constantValue := 0 }, { name := "DIGIT", type := .int, accessFlags := 26, slot := 1, constantValue := 0 }, { name := "HEXDIG", type := .int, accessFlags := 26, slot := 2, constantValue := 0 }, { name := "SCHEME", type := .int, accessFlags := 26, slot := 3, constantValue := 0 }, { name := "UNRESERVED", type := .int, accessFlags := 26, slot := 4, constantValue := 0 }, { name := "SUB_DELIM", type := .int, accessFlags := 26, slot := 5, constantValue := 0 }, { name := "COLON", type := .int, accessFlags := 26, slot := 6, constantValue := 0 }, { name := "AT", type := .int, accessFlags := 26, slot := 7, constantValue := 0 }, { name := "SLASH", type := .int, accessFlags := 26, slot := 8, constantValue := 0 }, { name := "QUESTION_MARK", type := .int, accessFlags := 26, slot := 9, constantValue := 0 }, { name := "PERCENT", type := .int, accessFlags := 26, slot := 10, constantValue := 0 }, { name := "PORT", type := .int, accessFlags := 24, slot := 11, constantValue := 0 }, { name := "REG_NAME", type := .int, accessFlags := 24, slot := 12, constantValue := 0 }, { name := "USERINFO", type := .int, accessFlags := 24, slot := 13, constantValue := 0 }, { name := "SEGMENT_NZ_NC", type := .int, accessFlags := 24, slot := 14, constantValue := 0 }, { name := "PATH", type := .int, accessFlags := 24, slot := 15, constantValue := 0 }, { name := "QUERY", type := .int, accessFlags := 24, slot := 16, constantValue := 0 }, { name := "FRAGMENT", type := .int, accessFlags := 24, slot := 17, constantValue := 0 }, { name := "IPV_FUTURE_TAIL", type := .int, accessFlags := 26, slot := 18, constantValue := 0 }, { name := "CLASSES", type := (.array .short), accessFlags := 26, slot := 19, constantValue := 0 }, { name := "HEX_DIGITS", type := (.array .char), accessFlags := 26, slot := 20, constantValue := 0 }]
  methods := #[k2m0, k2m1]
  instanceTypes := #[]
  staticTypes := #[.int, .int, .int, .int, .int, .int, .int, .int, .int, .int, .int, .int, .int, .int, .int, .int, .int, .int, .int, (.array .short), (.array .char)]
  resolved := Array.replicate 191 none
  statics := some 0 }

def pool3 : Array CpInfo := pool [(1, u "java/lang/Cloneable"), (0, .class_ 1), (0, u "java/lang/Object"), (0, .class_ 3)] 3

/-- java/lang/Cloneable -/
def k3 : Class := { plain "java/lang/Cloneable" (some 0) with
  accessFlags := 1537
  interfaces := #[]
  cf := some (fileOf pool3 2 #[] #[] 1537 4 #[] #[])
  fields := #[]
  methods := #[]
  instanceTypes := #[]
  staticTypes := #[]
  resolved := Array.replicate 8 none
  statics := none }

def pool4 : Array CpInfo := pool [(1, u "java/io/Serializable"), (0, .class_ 1), (0, u "java/lang/Object"), (0, .class_ 3)] 3

/-- java/io/Serializable -/
def k4 : Class := { plain "java/io/Serializable" (some 0) with
  accessFlags := 1537
  interfaces := #[]
  cf := some (fileOf pool4 2 #[] #[] 1537 4 #[] #[])
  fields := #[]
  methods := #[]
  instanceTypes := #[]
  staticTypes := #[]
  resolved := Array.replicate 8 none
  statics := none }

/-- the primitive byte -/
def k5 : Class := { plain "byte" none with kind := .primitive 'B', accessFlags := 0x411 }
/-- [B -/
def k6 : Class := { plain "[B" (some 0) with kind := .array 5 .byte, interfaces := #[3, 4], accessFlags := 1041 }

/-- the primitive int -/
def k7 : Class := { plain "int" none with kind := .primitive 'I', accessFlags := 0x411 }
/-- [I -/
def k8 : Class := { plain "[I" (some 0) with kind := .array 7 .int, interfaces := #[3, 4], accessFlags := 1041 }

/-- the primitive short -/
def k9 : Class := { plain "short" none with kind := .primitive 'S', accessFlags := 0x411 }
/-- [S -/
def k10 : Class := { plain "[S" (some 0) with kind := .array 9 .short, interfaces := #[3, 4], accessFlags := 1041 }

def heap : Heap := #[{ cls := 2, slots := #[.int 0, .int 0, .int 0, .int 0, .int 0, .int 0, .int 0, .int 0, .int 0, .int 0, .int 0, .int 0, .int 0, .int 0, .int 0, .int 0, .int 0, .int 0, .int 0, .ref 1, .null], vm := .statics 2 },
  { cls := 10, slots := #[.int 0, .int 0, .int 0, .int 0, .int 0, .int 0, .int 0, .int 0, .int 0, .int 0, .int 0, .int 0, .int 0, .int 0, .int 0, .int 0, .int 0, .int 0, .int 0, .int 0, .int 0, .int 0, .int 0, .int 0, .int 0, .int 0, .int 0, .int 0, .int 0, .int 0, .int 0, .int 0, .int 0, .int 32, .int 0, .int 0, .int 32, .int 1024, .int 32, .int 32, .int 32, .int 32, .int 32, .int 40, .int 32, .int 24, .int 24, .int 256, .int 30, .int 30, .int 30, .int 30, .int 30, .int 30, .int 30, .int 30, .int 30, .int 30, .int 64, .int 32, .int 0, .int 32, .int 0, .int 512, .int 128, .int 29, .int 29, .int 29, .int 29, .int 29, .int 29, .int 25, .int 25, .int 25, .int 25, .int 25, .int 25, .int 25, .int 25, .int 25, .int 25, .int 25, .int 25, .int 25, .int 25, .int 25, .int 25, .int 25, .int 25, .int 25, .int 25, .int 0, .int 0, .int 0, .int 0, .int 16, .int 0, .int 29, .int 29, .int 29, .int 29, .int 29, .int 29, .int 25, .int 25, .int 25, .int 25, .int 25, .int 25, .int 25, .int 25, .int 25, .int 25, .int 25, .int 25, .int 25, .int 25, .int 25, .int 25, .int 25, .int 25, .int 25, .int 25, .int 0, .int 0, .int 0, .int 16, .int 0], vm := .none }]
def classes : Array Class := #[k0, k1, k2, k3, k4, k5, k6, k7, k8, k9, k10]
def interned : List (Array UInt16 × Addr) := []
def slotsUsed : Nat := 149
def theMethod : MethodId := ⟨1, 1⟩
def args0 : Array Value := #[.int 5, .int 6]
def aboutOver (below : List Frame) : State where
  vm := { classes := classes, interned := interned.toArray }
  heap := heap
  slotsUsed := slotsUsed
  threads := #[{ frames := .invoking theMethod args0 :: below }]
def below0 : List Frame := [.native { method := ⟨0, 0⟩, args := #[] }]
def about1 : State := aboutOver below0
def p0 : Program := .bare "" "" ""
def e0 : Env := launch0.env 0 0 0
theorem w_frames : about1.frames = Frame.invoking theMethod args0 :: below0 := rfl
set_option maxRecDepth 65536 in
theorem w_args : argsFit about1.vm theMethod args0 = true := by decide +kernel
set_option maxRecDepth 65536 in
theorem w_heap : heapFits about1 = true := by decide +kernel
set_option maxRecDepth 65536 in
theorem w_runnable : about1.curStatus? = some .runnable := by decide +kernel
set_option maxRecDepth 65536 in
theorem w_alone : about1.alone = true := by decide +kernel
set_option maxRecDepth 65536 in
theorem w_named : about1.methodNamed? x = some theMethod := by decide +kernel
set_option maxRecDepth 65536 in
theorem w_hears : about1.hears theMethod below0 = true := by decide +kernel
set_option maxRecDepth 65536 in
theorem w_ripe : about1.ripe theMethod args0 below0 = true := by decide +kernel
theorem w_running : about1.status = .running := rfl
set_option maxRecDepth 65536 in
theorem w_room : about1.hasRoom e0.platform room_1 = true :=
  launch0.hasRoom_least _ room_1 (by decide +kernel) (by decide +kernel) (by decide +kernel) (by decide +kernel) (by decide +kernel) (by decide +kernel)
theorem allAtoms_all (ts : List Jvm.Cond) (a : Array Jvm.Value) (st : Jvm.State) : (allAtoms ts).before a st = ts.all (fun c => c.before a st) := by
  induction ts with
  | nil => rfl
  | cons c t ih =>
    show (Jvm.Cond.and c (allAtoms t)).before a st = _
    rw [Jvm.Cond.before_and, ih, List.all_cons]
def words1 : List Jvm.Cond := Jvm.Cond.code x code maxLocals ret :: tables_1
/-- a 'code' word, met by the world's own term for the bytes: nothing is compared byte by byte -/
theorem code_word {y : MethodName} {bytes : ByteArray} {mx : Nat} {rt : Option FieldType} {a : Array Value} {s : State} {m : MethodId} {meth : Method} {c : Code} (h1 : s.methodNamed? y = some m) (h2 : s.vm.method? m = some meth) (h3 : meth.code = some c) (h4 : c.code = bytes)
    (h5 : (c.maxLocals == mx && c.exceptionTable.isEmpty && decide (c.maxStack ≤ mostOperands) && decide (meth.sig.returnType = rt) && !meth.locks && decide (parseMethodDescriptor y.desc = some meth.sig)) = true) : (Jvm.Cond.code y bytes mx rt).before a s = true := by
  simp only [Bool.and_eq_true, beq_iff_eq, Bool.not_eq_true', decide_eq_true_eq] at h5
  obtain ⟨⟨⟨⟨⟨g1, g2⟩, g3⟩, g4⟩, g5⟩, g6⟩ := h5
  simp [Cond.before, Cond.holds, Cond.value, h1, h2, h3, h4, g1, g2, g3, g4, g5, g6]
def isCode : Jvm.Cond → Bool
  | .code _ _ _ _ => true
  | _ => false
theorem all_split {L : List Jvm.Cond} {P : Jvm.Cond → Bool} (h1 : L.all (fun c => isCode c || P c) = true) (h2 : ∀ c ∈ L.filter isCode, P c = true) : L.all P = true := by
  refine List.all_eq_true.mpr fun c hc => ?_
  have h := List.all_eq_true.mp h1 c hc
  rcases Bool.eq_false_or_eq_true (isCode c) with hi | hi
  · exact h2 c (List.mem_filter.mpr ⟨hc, hi⟩)
  · simpa [hi] using h
set_option maxRecDepth 65536 in
theorem w_c0 : (Jvm.Cond.code x code maxLocals ret).before args0 about1 = true := code_word (m := ⟨1, 1⟩) (meth := k1m1) (c := k1c1) (by decide +kernel) rfl rfl rfl (by decide +kernel)
set_option maxRecDepth 65536 in
theorem w_c1 : (Jvm.Cond.code ({ cls := "com/example/authority/authority/UriGrammar", name := "isUnreserved", desc := "(C)Z" } : Jvm.MethodName) prog_4_method_7_code (1 : Nat) (Option.some Jvm.ClassFile.FieldType.boolean)).before args0 about1 = true := code_word (m := ⟨2, 1⟩) (meth := k2m1) (c := k2c1) (by decide +kernel) rfl rfl rfl (by decide +kernel)
def codes1 : List Jvm.Cond := [Jvm.Cond.code x code maxLocals ret, Jvm.Cond.code ({ cls := "com/example/authority/authority/UriGrammar", name := "isUnreserved", desc := "(C)Z" } : Jvm.MethodName) prog_4_method_7_code (1 : Nat) (Option.some Jvm.ClassFile.FieldType.boolean)]
set_option maxRecDepth 65536 in
theorem codes_eq : words1.filter isCode = codes1 := rfl
theorem w_codes : ∀ c ∈ words1.filter isCode, c.before args0 about1 = true := by
  rw [codes_eq]
  intro c hc
  simp only [codes1, List.mem_cons, List.not_mem_nil, or_false] at hc
  rcases hc with rfl | rfl
  · exact w_c0
  · exact w_c1
set_option maxRecDepth 65536 in
theorem w_t1 : words1.all (fun c => isCode c || c.before args0 about1) = true := by decide +kernel
theorem w_tables : (allAtoms (Jvm.Cond.code x code maxLocals ret :: tables_1)).before args0 about1 = true := by
  rw [allAtoms_all]
  show words1.all (fun c => c.before args0 about1) = true
  refine all_split ?_ w_codes
  rw [w_t1]
set_option maxRecDepth 65536 in
theorem w_case : (Jvm.Cond.and given_1 narrow_1).before args0 about1 = true := by decide +kernel
theorem w_applies : (headSpec (Jvm.Cond.code x code maxLocals ret :: tables_1) room_1).applies x e0.platform about1 = true :=
  (Spec.applies_iff w_frames).mpr ⟨w_running, w_runnable, w_alone, w_named, w_hears, w_ripe, w_room, w_tables⟩
theorem atStart : AtStart classFile x code maxLocals ret World_1 tables_1 room_1 Calls_1 rest_1 Pre_1 launch0 p0 e0 about1 theMethod args0 below0 :=
  ⟨lists_1, trivial, launch0.admits_env _ _ _, launch0.least_env, fairChoices_fair.cas, fairChoices_fair.clock, w_frames, w_args, w_heap, w_applies, trivial, trivial, w_case⟩
end start1
theorem witness_1 : WitnessClaimed_1 := ⟨start1.p0, start1.e0, start1.about1, start1.theMethod, start1.args0, start1.below0, start1.atStart⟩
end Jvm.Pilot.@@N@@
