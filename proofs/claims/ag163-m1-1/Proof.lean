import JvmDerived
import JvmDerived.Pilot.@@N@@Statement
import JvmDerived.Pilot.@@N@@Code
set_option linter.unusedVariables false
set_option linter.unusedSimpArgs false
namespace Jvm.Pilot.@@N@@
open Jvm Jvm.ClassFile Sem Op Lib Jvm.Free Jvm.Stand Jvm.LawKit Jvm.RoadKit Bundle Jvm.Pilot.@@N@@.Jvm.D

section OwnEnds
variable {p : Program} {l : Launch} {e : Env} {R : Room} {s : State} {m : MethodId} {args : Array Value} {below : List Frame} {meth : Method} {c : Code} {T : State} {locs : List Loc} {cells slots : Nat}
/-- from here the body comes to its end, returns, and leaves what Q says -/
def Ends (p : Program) (e : Env) (below : List Frame) (s T : State) (g : JFrame) (kc ks : Nat) (Q : Option Value → Heap → List Loc → Prop) : Prop :=
  ∃ s₂ o, Steps p.tables e below (T.setTop g) s₂ ∧ s₂.status = .running ∧ Ended s₂ below o ∧ ∃ v L, o = .returned v ∧ Q v s₂.heap L ∧ FrameEnd s o s₂ L kc ks
theorem Ends.go {T' : State} {g g' : JFrame} {kc ks : Nat} {Q : Option Value → Heap → List Loc → Prop} (h : ∀ target, Steps p.tables e below (T'.setTop g') target → Steps p.tables e below (T.setTop g) target) (k : Ends p e below s T' g' kc ks Q) : Ends p e below s T g kc ks Q := by
  obtain ⟨s₂, o, h1, h2⟩ := k
  exact ⟨s₂, o, h _ h1, h2⟩
theorem Ends.ret (X : Stand p l e R s m args below meth c T locs cells slots) (hx : p.tables.exec = Jvm.exec) (hlocks : meth.locks = false) {pc : Nat} {Ls : Array Slot} {w : Value} {t : FieldType} {i : Instr} {rest : List Value} (hret : meth.sig.returnType = some t) (hn : narrow t w = w)
    (hi : (i = .ireturn ∧ (t = .int ∨ t = .boolean ∨ t = .byte ∨ t = .char ∨ t = .short) ∧ ∃ z, w = .int z) ∨ (i = .lreturn ∧ t = .long ∧ ∃ z, w = .long z) ∨ (i = .dreturn ∧ t = .double ∧ ∃ z, w = .double z) ∨ (i = .freturn ∧ t = .float ∧ ∃ z, w = .float z) ∨ (i = .areturn ∧ t.isReference = true ∧ w.isRef = true))
    (hd : decode c.code pc = .ok (i, 1)) {kc ks : Nat} {Q : Option Value → Heap → List Loc → Prop} (hc : cells ≤ kc) (hs : slots ≤ ks) (hq : Q (some w) T.heap locs) : Ends p e below s T (mkF m pc Ls (w :: rest)) kc ks Q := by
  obtain ⟨fs, hr, hrun, hended, hW, hsame⟩ := X.leave (v := some w) (fun h => by rw [hret] at h; cases h) hlocks
  exact ⟨_, _, retOut X hx hret hn hi hd hr, hrun, hended, _, _, rfl, hq, ⟨_, rfl⟩, hW, hsame.mono hc hs⟩
theorem Ends.retZ (X : Stand p l e R s m args below meth c T locs cells slots) (hx : p.tables.exec = Jvm.exec) (hlocks : meth.locks = false) {pc : Nat} {Ls : Array Slot} {z : Int32} {t : FieldType} {rest : List Value} (hret : meth.sig.returnType = some t) (ht : t = .boolean ∨ t = .byte ∨ t = .char ∨ t = .short)
    (hd : decode c.code pc = .ok (.ireturn, 1)) {kc ks : Nat} {Q : Option Value → Heap → List Loc → Prop} (hc : cells ≤ kc) (hs : slots ≤ ks) (hq : Q (some (.int (nar t z))) T.heap locs) : Ends p e below s T (mkF m pc Ls (.int z :: rest)) kc ks Q := by
  obtain ⟨fs, hr, hrun, hended, hW, hsame⟩ := X.leave (v := some (.int (nar t z))) (fun h => by rw [hret] at h; cases h) hlocks
  exact ⟨_, _, retN X hx hret ht hd hr, hrun, hended, _, _, rfl, hq, ⟨_, rfl⟩, hW, hsame.mono hc hs⟩
theorem Ends.retV (X : Stand p l e R s m args below meth c T locs cells slots) (hx : p.tables.exec = Jvm.exec) (hlocks : meth.locks = false) {pc : Nat} {Ls : Array Slot} (hret : meth.sig.returnType = none)
    (hd : decode c.code pc = .ok (.return_, 1)) {kc ks : Nat} {Q : Option Value → Heap → List Loc → Prop} (hc : cells ≤ kc) (hs : slots ≤ ks) (hq : Q none T.heap locs) : Ends p e below s T (mkF m pc Ls []) kc ks Q := by
  obtain ⟨fs, hr, hrun, hended, hW, hsame⟩ := X.leave (v := none) (fun _ => rfl) hlocks
  exact ⟨_, _, X.returnOut hx hret hd hr, hrun, hended, _, _, rfl, hq, ⟨_, rfl⟩, hW, hsame.mono hc hs⟩
theorem own_mono (X : Stand p l e R s m args below meth c T locs cells slots) {kc ks : Nat} (hc : cells ≤ kc) (hs : slots ≤ ks) : Stand p l e R s m args below meth c T locs kc ks := { X with same := X.same.mono hc hs }
end OwnEnds
abbrev Meets1 (l : Launch) (y : MethodName) (bytes : ByteArray) (ml : Nat) (rt : Option FieldType) (ws : List Jvm.Cond) (rm : Room) (av : Array Value) (Z : State) (h0 : Heap) (Q : Option Value → Heap → List Loc → Prop) : Prop :=
  MetFree l y (head1 (Jvm.Cond.code y bytes ml rt :: ws) rm) (fun a U => a = av ∧ Z.Warmed39 U.vm ∧ U.heap = h0) (fun _ _ _ _ _ => True) (fun _ U o U' => ∃ v L, o = .returned v ∧ Q v U'.heap L ∧ FrameEnd U o U' L rm.cells rm.slots)
theorem own_backOf {p : Program} {l : Launch} {e : Env} {R : Room} {s : State} {args : Array Value} {below : List Frame} {Z : State} {a0 : Array Value} {h : Heap} {y : MethodName} {bytes : ByteArray} {maxL : Nat} {ret : Option FieldType} {rm : Room} {len W : Nat} {as' : Array Value} {Q : Option Value → Heap → List Loc → Prop}
    (hM : Meets1 l y bytes maxL ret [] rm as' Z h Q) (hZ : Z.Warmed39 s.vm) (wc : (Jvm.Cond.code y bytes maxL ret).before a0 Z = true) (wz : (Jvm.Cond.initialized y.cls).before a0 Z = true) (hf : rm.frames + 1 ≤ R.frames) (hl : W + (maxL + 11) + rm.locals ≤ R.locals) :
    Back l R p e below s args y len W (fun A a => a = as' ∧ A.U.heap = h ∧ A.cells + rm.cells ≤ R.cells ∧ A.slots + rm.slots ≤ R.slots)
      (fun A _ v B => ∃ L, Q v B.U.heap L ∧ B.locs = A.locs ++ L ∧ B.cells = A.cells + rm.cells ∧ B.slots = A.slots + rm.slots) := backOf (Q := Q) hM hZ wc wz hf hl
theorem ow {Z : State} {a0 : Array Value} (hw : ∀ d ∈ tables_1, d.before a0 Z = true) {d : Jvm.Cond} (i : Nat) (h : tables_1[i]? = some d) : d.before a0 Z = true := hw d (List.mem_of_getElem? h)
theorem own_old_le {Z : State} {n0 : Nat} {h : Heap} (O : Old Z n0 h) : n0 ≤ h.size := O.1 ▸ O.2.1
theorem own_eqI {args : Array Value} {s : State} {t : Term} {k : Int32} (h : (Jvm.Cond.eq t (.int k)).value args s none s [] = some true) : t.eval args s none [] s = some (.int k) := by
  cases ht : t.eval args s none [] s with
  | none => simp [Cond.value, ht] at h
  | some x => cases x <;> simp_all [Cond.value, Term.eval]
section OwnFloat
open Jvm.FP Jvm.FP.Core
def own_U : Nat := 2 ^ 1074
theorem own_Upos : 0 < own_U := Nat.two_pow_pos 1074
theorem own_Ue : own_U = 2 ^ 1074 := rfl
/-- a number c / 2^j of the format -/
theorem own_dy {c j : Nat} (hc : c < 2 ^ 53) (hj : j ≤ 60) : ∃ V, FP.Core.fits b64 V ∧ V ≠ .nan ∧ sgn V = false ∧ zmag b64 V * 2 ^ j = c * own_U := by
  obtain ⟨c', q', h1, h2⟩ := round_exact good_b64 false (c := c) (q := -(j : Int)) hc (by rw [qmin_b64]; omega) (by rw [show b64.qmax = 971 by decide]; omega)
  refine ⟨round b64 (.fin false c (-(j : Int))), round_fits good_b64 _, by rw [h1]; exact Datum.noConfusion, by rw [h1]; rfl, ?_⟩
  rw [h1]
  show inUnits c' q' b64.qmin * 2 ^ j = _
  rw [h2]
  unfold inUnits
  rw [qmin_b64, show (-(j : Int) - (-1074)).toNat = 1074 - j by omega, Nat.mul_assoc, ← Nat.pow_add, show 1074 - j + j = 1074 by omega, own_Ue]
theorem own_rle {A n c j : Nat} (hn : 0 < n) (hc : c < 2 ^ 53) (hj : j ≤ 60) (h : A * 2 ^ j ≤ c * n) : zmag b64 (roundRatio b64 false A n 0) * 2 ^ j ≤ c * own_U := by
  obtain ⟨V, v1, v2, v3, v4⟩ := own_dy hc hj
  have hle := zmag_roundRatio_le good_b64 (s := false) (A := A) (B := n) (e := 0) (e0 := b64.qmin) hn v1 v2 (by omega) (by rw [qmin_b64]; omega) (by
    rw [Int.sub_self, Int.toNat_zero, Nat.pow_zero, Nat.mul_one]
    unfold inUnits
    rw [qmin_b64, show ((0 : Int) - (-1074)).toNat = 1074 by decide, ← own_Ue]
    refine Nat.le_of_mul_le_mul_right (c := 2 ^ j) ?_ (Nat.two_pow_pos _)
    rw [Nat.mul_right_comm (zmag b64 V), v4]
    generalize own_U = U at *
    calc A * U * 2 ^ j = A * 2 ^ j * U := Nat.mul_right_comm ..
      _ ≤ c * n * U := Nat.mul_le_mul_right _ h
      _ = c * U * n := Nat.mul_right_comm ..)
  exact Nat.le_trans (Nat.mul_le_mul_right _ hle) (Nat.le_of_eq v4)
theorem own_rge {A n c j : Nat} (hn : 0 < n) (hc : c < 2 ^ 53) (hj : j ≤ 60) (h : c * n ≤ A * 2 ^ j) : c * own_U ≤ zmag b64 (roundRatio b64 false A n 0) * 2 ^ j := by
  obtain ⟨V, v1, v2, v3, v4⟩ := own_dy hc hj
  have hge := zmag_roundRatio_ge good_b64 (s := false) (A := A) (B := n) (e := 0) (e0 := b64.qmin) hn v1 (by omega) (by rw [qmin_b64]; omega) (by
    rw [Int.sub_self, Int.toNat_zero, Nat.pow_zero, Nat.mul_one]
    unfold inUnits
    rw [qmin_b64, show ((0 : Int) - (-1074)).toNat = 1074 by decide, ← own_Ue]
    refine Nat.le_of_mul_le_mul_right (c := 2 ^ j) ?_ (Nat.two_pow_pos _)
    rw [Nat.mul_right_comm (zmag b64 V), v4]
    generalize own_U = U at *
    calc c * U * n = c * n * U := Nat.mul_right_comm ..
      _ ≤ A * 2 ^ j * U := Nat.mul_le_mul_right _ h
      _ = A * U * 2 ^ j := Nat.mul_right_comm ..)
  exact Nat.le_trans (Nat.le_of_eq v4.symm) (Nat.mul_le_mul_right _ hge)
/-- the quotient's datum -/
theorem own_qval {x y : Int32} (hx : 0 ≤ x.toInt) (hy : 0 < y.toInt) : val64 (Core.ddiv (Core.i2d x) (Core.i2d y)) = roundRatio b64 false x.toInt.toNat y.toInt.toNat 0 := by
  rw [val64_ddiv]
  have a := i2d_int x
  have b := i2d_int y
  unfold DInt at a b
  cases ha : val64 (Core.i2d x) with
  | nan => rw [ha] at a; exact a.elim
  | inf => rw [ha] at a; exact a.elim
  | fin s c q =>
  cases hb : val64 (Core.i2d y) with
  | nan => rw [hb] at b; exact b.elim
  | inf => rw [hb] at b; exact b.elim
  | fin t d r =>
  rw [ha] at a
  rw [hb] at b
  have d0 : d ≠ 0 := fun h => by have := (whole_zero b).mp h; omega
  have ts : t = false := by have := whole_sign b (by omega); rw [this]; simp; omega
  have na := whole_natAbs a
  have nb := whole_natAbs b
  have sx : s = false := by
    rw [val64_i2d, ofInt] at ha
    have : sgn (round b64 (.fin (decide (x.toInt < 0)) x.toInt.natAbs 0)) = decide (x.toInt < 0) := sgn_roundRatio ..
    rw [ha] at this
    rw [show sgn (.fin s c q) = s from rfl] at this
    rw [this]; simp; omega
  subst ts sx
  simp only [quotient, if_neg d0]
  refine roundRatio_congr (Nat.pos_of_ne_zero d0) (by omega) ?_
  have ex : x.toInt.natAbs = x.toInt.toNat := by omega
  have ey : y.toInt.natAbs = y.toInt.toNat := by omega
  rw [ex] at na
  rw [ey] at nb
  generalize x.toInt.toNat = X at *
  generalize y.toInt.toNat = Y at *
  have e1 : (q - r - 0).toNat + (q.toNat + (-r).toNat - (q - r - 0).toNat) = q.toNat + (-r).toNat := by omega
  have e2 : (0 - (q - r)).toNat + (q.toNat + (-r).toNat - (q - r - 0).toNat) = (-q).toNat + r.toNat := by omega
  generalize q.toNat + (-r).toNat - (q - r - 0).toNat = w at e1 e2
  refine Nat.eq_of_mul_eq_mul_right (Nat.two_pow_pos w) ?_
  rw [Nat.mul_assoc (c * Y), ← Nat.pow_add, e1, Nat.mul_assoc (X * d), ← Nat.pow_add, e2, Nat.pow_add, Nat.pow_add]
  calc c * Y * (2 ^ q.toNat * 2 ^ (-r).toNat) = (c * 2 ^ q.toNat) * (Y * 2 ^ (-r).toNat) := by ac_rfl
    _ = (X * 2 ^ (-q).toNat) * (d * 2 ^ r.toNat) := by rw [na, ← nb]
    _ = X * d * (2 ^ (-q).toNat * 2 ^ r.toNat) := by ac_rfl
/-- a scale on which all that is compared lies -/
theorem own_j {n k A : Nat} (h1 : n * k ≤ A) (h2 : A < 2 ^ 31) (h3 : n < 2 ^ 31) (h4 : 0 < n) : ∃ j, j ≤ 31 ∧ n ≤ 2 ^ j ∧ (k + 1) * 2 ^ j ≤ 2 ^ 52 := by
  by_cases h : k < 2 ^ 21
  · exact ⟨31, by omega, by omega, by omega⟩
  · have a : n * 2 ^ 21 ≤ n * k := Nat.mul_le_mul_left _ (by omega)
    have b : 1 * k ≤ n * k := Nat.mul_le_mul_right _ h4
    rw [Nat.one_mul] at b
    have c : n * 2097152 ≤ n * k := a
    refine ⟨10, by omega, ?_, ?_⟩
    · show n ≤ 1024
      omega
    · have d : k + 1 ≤ 2147483648 := by omega
      exact Nat.le_trans (Nat.mul_le_mul_right (2 ^ 10) d) (by decide)
section
variable {A n k r : Nat} (hn : 0 < n) (hA : A = n * k + r)
theorem own_z0 (hk : k < 2 ^ 53) (hn : 0 < n) (hA : A = n * k) : zmag b64 (roundRatio b64 false A n 0) = k * own_U := by
  have a := own_rle (A := A) (c := k) (j := 0) hn hk (by omega) (by rw [hA, Nat.pow_zero, Nat.mul_one, Nat.mul_comm]; exact Nat.le_refl _)
  have b := own_rge (A := A) (c := k) (j := 0) hn hk (by omega) (by rw [hA, Nat.pow_zero, Nat.mul_one, Nat.mul_comm]; exact Nat.le_refl _)
  rw [Nat.pow_zero, Nat.mul_one] at a b
  exact Nat.le_antisymm a b
theorem own_zgt {j : Nat} (hj : j ≤ 31) (h1 : n ≤ 2 ^ j) (h2 : (k + 1) * 2 ^ j ≤ 2 ^ 52) (hn : 0 < n) (hA : A = n * k + r) (hr : 0 < r) : k * own_U < zmag b64 (roundRatio b64 false A n 0) := by
  have hP := Nat.two_pow_pos j
  have a := own_rge (A := A) (n := n) (c := k * 2 ^ j + 1) (j := j) hn (by rw [Nat.add_mul] at h2; omega) (by omega) (by
    generalize 2 ^ j = P at *
    have e1 : (k * P + 1) * n = n * k * P + n := by rw [Nat.add_mul, Nat.one_mul]; congr 1; ac_rfl
    have e2 : A * P = n * k * P + r * P := by rw [hA, Nat.add_mul]
    have e3 : 1 * P ≤ r * P := Nat.mul_le_mul_right _ hr
    omega)
  have hU := own_Upos
  generalize own_U = U at *
  generalize zmag b64 (roundRatio b64 false A n 0) = Z at *
  refine Nat.lt_of_mul_lt_mul_right (a := 2 ^ j) ?_
  have e : (k * 2 ^ j + 1) * U = k * U * 2 ^ j + U := by rw [Nat.add_mul, Nat.one_mul, Nat.mul_right_comm]
  omega
theorem own_zlt {j : Nat} (hj : j ≤ 31) (h1 : n ≤ 2 ^ j) (h2 : (k + 1) * 2 ^ j ≤ 2 ^ 52) (hn : 0 < n) (hA : A = n * k + r) (hr : r < n) : zmag b64 (roundRatio b64 false A n 0) < (k + 1) * own_U := by
  have hP := Nat.two_pow_pos j
  have hq : 2 ^ j ≤ (k + 1) * 2 ^ j := Nat.le_mul_of_pos_left _ (by omega)
  have a := own_rle (A := A) (n := n) (c := (k + 1) * 2 ^ j - 1) (j := j) hn (by omega) (by omega) (by
    generalize 2 ^ j = P at *
    have e1 : ((k + 1) * P - 1) * n = n * k * P + n * P - n := by rw [Nat.sub_mul, Nat.one_mul]; congr 1; rw [Nat.add_mul, Nat.add_mul, Nat.one_mul, Nat.mul_comm P n]; congr 1; ac_rfl
    have e2 : A * P = n * k * P + r * P := by rw [hA, Nat.add_mul]
    have e3 : (r + 1) * P ≤ n * P := Nat.mul_le_mul_right _ hr
    rw [Nat.add_mul, Nat.one_mul] at e3
    omega)
  have hU := own_Upos
  generalize own_U = U at *
  generalize zmag b64 (roundRatio b64 false A n 0) = Z at *
  refine Nat.lt_of_mul_lt_mul_right (a := 2 ^ j) ?_
  have e : ((k + 1) * 2 ^ j - 1) * U = (k + 1) * U * 2 ^ j - U := by rw [Nat.sub_mul, Nat.one_mul, Nat.mul_right_comm]
  have e2 : 1 * (1 * U) ≤ 2 ^ j * ((k + 1) * U) := Nat.mul_le_mul hP (Nat.mul_le_mul_right _ (by omega))
  rw [Nat.mul_comm (2 ^ j)] at e2
  omega
theorem zval_negate' {b : UInt64} {x : Int} : x + zval b64 (negate (val64 b)) = x - zval b64 (val64 b) := by rw [zval_negate]; omega
/-- the difference of two numbers of the format, rounded, beside c / 2^j -/
theorem own_dle {a b : UInt64} {c j : Nat} (ha : ∃ s m q, val64 a = .fin s m q) (hb : ∃ s m q, val64 b = .fin s m q) (hc : c < 2 ^ 53) (hj : j ≤ 60) (h : (zval b64 (val64 a) - zval b64 (val64 b)) * ((2 ^ j : Nat) : Int) ≤ ((c * own_U : Nat) : Int)) :
    zval b64 (val64 (Core.dsub a b)) * ((2 ^ j : Nat) : Int) ≤ ((c * own_U : Nat) : Int) := by
  obtain ⟨s, m, q, ha⟩ := ha
  obtain ⟨t, d, w, hb⟩ := hb
  obtain ⟨V, v1, v2, v3, v4⟩ := own_dy hc hj
  have fa := val64_fits a
  have fb := negate_fits (val64_fits b)
  rw [val64_dsub]
  rw [← zval_negate'] at h
  rw [ha] at fa h ⊢
  rw [hb] at fb h ⊢
  obtain ⟨sg, e, ex, s1, s2, s3⟩ := sum_units fa fb
  rw [show negate (.fin t d w) = .fin (!t) d w from rfl] at h ⊢
  rw [s1]
  have hP : (0 : Int) < ((2 ^ j : Nat) : Int) := by have := Nat.two_pow_pos j; omega
  have hv : zval b64 V * ((2 ^ j : Nat) : Int) = ((c * own_U : Nat) : Int) := by
    unfold zval
    rw [v3, ← v4]
    show (((zmag b64 V : Nat) : Int)) * _ = _
    rw [Int.natCast_mul]
  have hle := zval_round_le good_b64 (s := sg) (c := e) (q := ex) (e0 := b64.qmin) v1 v2 (by omega) s2 (by
    rw [Int.sub_self, Int.toNat_zero, Nat.pow_zero, s3]
    rw [← hv] at h
    have := Int.le_of_mul_le_mul_right h hP
    simpa using this)
  rw [← hv]
  exact Int.mul_le_mul_of_nonneg_right hle (Int.le_of_lt hP)
theorem own_dge {a b : UInt64} {c j : Nat} (ha : ∃ s m q, val64 a = .fin s m q) (hb : ∃ s m q, val64 b = .fin s m q) (hc : c < 2 ^ 53) (hj : j ≤ 60) (h : ((c * own_U : Nat) : Int) ≤ (zval b64 (val64 a) - zval b64 (val64 b)) * ((2 ^ j : Nat) : Int)) :
    ((c * own_U : Nat) : Int) ≤ zval b64 (val64 (Core.dsub a b)) * ((2 ^ j : Nat) : Int) := by
  obtain ⟨s, m, q, ha⟩ := ha
  obtain ⟨t, d, w, hb⟩ := hb
  obtain ⟨V, v1, v2, v3, v4⟩ := own_dy hc hj
  have fa := val64_fits a
  have fb := negate_fits (val64_fits b)
  rw [val64_dsub]
  rw [← zval_negate'] at h
  rw [ha] at fa h ⊢
  rw [hb] at fb h ⊢
  obtain ⟨sg, e, ex, s1, s2, s3⟩ := sum_units fa fb
  rw [show negate (.fin t d w) = .fin (!t) d w from rfl] at h ⊢
  rw [s1]
  have hP : (0 : Int) < ((2 ^ j : Nat) : Int) := by have := Nat.two_pow_pos j; omega
  have hv : zval b64 V * ((2 ^ j : Nat) : Int) = ((c * own_U : Nat) : Int) := by
    unfold zval
    rw [v3, ← v4]
    show (((zmag b64 V : Nat) : Int)) * _ = _
    rw [Int.natCast_mul]
  have hge := zval_round_ge good_b64 (s := sg) (c := e) (q := ex) (e0 := b64.qmin) v1 v2 (by omega) s2 (by
    rw [Int.sub_self, Int.toNat_zero, Nat.pow_zero, s3]
    rw [← hv] at h
    have := Int.le_of_mul_le_mul_right h hP
    simpa using this)
  rw [← hv]
  exact Int.mul_le_mul_of_nonneg_right hge (Int.le_of_lt hP)
end
/-! ## the law's comparisons -/
theorem own_half : val64 4602678819172646912 = .fin false (2 ^ 52) (-53) := by decide +kernel
theorem own_halfz : zval b64 (val64 4602678819172646912) * 2 = ((own_U : Nat) : Int) := by
  rw [own_half]
  show (((2 ^ 52 * 2 ^ ((-53 : Int) - b64.qmin).toNat : Nat)) : Int) * 2 = _
  rw [qmin_b64, show ((-53 : Int) - (-1074)).toNat = 1021 by decide, ← Nat.pow_add, show (2 : Int) = ((2 ^ 1 : Nat) : Int) from rfl, ← Int.natCast_mul, ← Nat.pow_add, own_Ue]
theorem own_zl {a : Int64} {k : Nat} (h : a.toInt = (k : Int)) (hk : k ≤ 2 ^ 32) : zval b64 (val64 (Core.l2d a)) = ((k * own_U : Nat) : Int) ∧ ∃ s m q, val64 (Core.l2d a) = .fin s m q := by
  have w : Whole a.toInt (val64 (Core.l2d a)) := l2d_int (by omega)
  refine ⟨?_, ?_⟩
  · rw [whole_zval good_b64 (val64_fits _) w, h, qmin_b64, show (-(-1074 : Int)).toNat = 1074 by decide, ← own_Ue, Int.natCast_mul]
  · cases hv : val64 (Core.l2d a) with
    | nan => rw [hv] at w; exact w.elim
    | inf => rw [hv] at w; exact w.elim
    | fin s m q => exact ⟨s, m, q, rfl⟩
theorem own_zq {x y : Int32} (hx : 0 ≤ x.toInt) (hy : 0 < y.toInt) : zval b64 (val64 (Core.ddiv (Core.i2d x) (Core.i2d y))) = ((zmag b64 (roundRatio b64 false x.toInt.toNat y.toInt.toNat 0) : Nat) : Int) := by
  rw [own_qval hx hy]
  unfold zval
  rw [sgn_roundRatio]; rfl
theorem own_qfin {x y : Int32} (hx : 0 ≤ x.toInt) (hy : 0 < y.toInt) {k r : Nat} (hA : x.toInt.toNat = y.toInt.toNat * k + r) (hr : r < y.toInt.toNat) : (∃ s m q, val64 (Core.ddiv (Core.i2d x) (Core.i2d y)) = .fin s m q) ∧ ∃ j, j ≤ 31 ∧ y.toInt.toNat ≤ 2 ^ j ∧ (k + 1) * 2 ^ j ≤ 2 ^ 52 := by
  have x1 := x.toInt_lt
  have y1 := y.toInt_lt
  have hn : 0 < y.toInt.toNat := by omega
  obtain ⟨j, j1, j2, j3⟩ := own_j (n := y.toInt.toNat) (k := k) (A := x.toInt.toNat) (by omega) (by omega) (by omega) hn
  refine ⟨?_, j, j1, j2, j3⟩
  rcases roundRatio_cases b64 false x.toInt.toNat y.toInt.toNat 0 with ⟨c, q, h⟩ | h
  · exact ⟨_, _, _, (own_qval hx hy).trans h⟩
  · exfalso
    have lt := own_zlt j1 j2 j3 hn hA hr
    rw [h] at lt
    change b64.tails * 2 ^ (b64.exps - 2) < _ at lt
    rw [tails_b64, show b64.exps - 2 = 2046 by decide, ← Nat.pow_add] at lt
    have k1 : k + 1 ≤ 2 ^ 52 := Nat.le_trans (Nat.le_mul_of_pos_right _ (Nat.two_pow_pos j)) j3
    have e : (k + 1) * own_U ≤ 2 ^ 52 * own_U := Nat.mul_le_mul_right _ k1
    rw [own_Ue, ← Nat.pow_add] at e
    rw [own_Ue] at lt
    have e2 : 2 ^ (52 + 1074) ≤ 2 ^ (52 + 2046) := Nat.pow_le_pow_right (by decide) (by decide)
    exact absurd (Nat.lt_of_lt_of_le lt (Nat.le_trans e e2)) (Nat.lt_irrefl _)
theorem own_finne {a : UInt64} (h : ∃ s m q, val64 a = .fin s m q) : val64 a ≠ .nan := by
  obtain ⟨s, m, q, h⟩ := h
  rw [h]; exact Datum.noConfusion
theorem own_dcmp {a b : UInt64} {o : Ordering} (ha : val64 a ≠ .nan) (hb : val64 b ≠ .nan) (h : compare (zval b64 (val64 a)) (zval b64 (val64 b)) = o) : Core.dcmp a b = some o := by rw [dcmp_zval ha hb, h]
theorem own_lt {a b : Int} (h : a < b) : compare a b = .lt := by rw [compare_ite, if_pos h]
theorem own_eq {a b : Int} (h : a = b) : compare a b = .eq := by rw [compare_ite, if_neg (by omega), if_pos h]
theorem own_gt {a b : Int} (h : b < a) : compare a b = .gt := by rw [compare_ite, if_neg (by omega), if_neg (by omega)]
section
variable {x y : Int32} {a b : Int64} {k r : Nat}
theorem own_p0 (hx : 0 ≤ x.toInt) (hy : 0 < y.toInt) (ha : a.toInt = (k : Int)) (hA : x.toInt.toNat = y.toInt.toNat * k + r) (h : r = 0) : Core.dcmp (Core.ddiv (Core.i2d x) (Core.i2d y)) (Core.l2d a) = some .eq := by
  have x1 := x.toInt_lt
  subst h
  obtain ⟨f1, j, j1, j2, j3⟩ := own_qfin hx hy hA (by omega)
  have k1 : k + 1 ≤ 2 ^ 52 := Nat.le_trans (Nat.le_mul_of_pos_right _ (Nat.two_pow_pos j)) j3
  have k2 : 1 * k ≤ y.toInt.toNat * k := Nat.mul_le_mul_right _ (by omega)
  obtain ⟨z1, f2⟩ := own_zl ha (by omega)
  refine own_dcmp (own_finne f1) (own_finne f2) (own_eq ?_)
  rw [own_zq hx hy, z1, own_z0 (k := k) (by omega) (by omega) (by rw [hA]; rfl)]
theorem own_p1 (hx : 0 ≤ x.toInt) (hy : 0 < y.toInt) (ha : a.toInt = (k : Int)) (hb : b.toInt = (k : Int) + 1) (hA : x.toInt.toNat = y.toInt.toNat * k + r) (hr : r < y.toInt.toNat) (h : 0 < r) :
    Core.dcmp (Core.ddiv (Core.i2d x) (Core.i2d y)) (Core.l2d a) = some .gt ∧ Core.dcmp (Core.ddiv (Core.i2d x) (Core.i2d y)) (Core.l2d b) = some .lt := by
  have x1 := x.toInt_lt
  obtain ⟨f1, j, j1, j2, j3⟩ := own_qfin hx hy hA hr
  have k2 : 1 * k ≤ y.toInt.toNat * k := Nat.mul_le_mul_right _ (by omega)
  obtain ⟨z1, f2⟩ := own_zl ha (by omega)
  obtain ⟨z2, f3⟩ := own_zl (k := k + 1) (by rw [hb]; rfl) (by omega)
  have g1 := own_zgt j1 j2 j3 (by omega) hA h
  have g2 := own_zlt j1 j2 j3 (by omega) hA hr
  refine ⟨own_dcmp (own_finne f1) (own_finne f2) (own_gt ?_), own_dcmp (own_finne f1) (own_finne f3) (own_lt ?_)⟩
  · rw [own_zq hx hy, z1]; exact Int.ofNat_lt.mpr g1
  · rw [own_zq hx hy, z2]; exact Int.ofNat_lt.mpr g2
theorem own_subne {p q : UInt64} (h1 : ∃ s m e, val64 p = .fin s m e) (h2 : ∃ s m e, val64 q = .fin s m e) : val64 (Core.dsub p q) ≠ .nan := by
  obtain ⟨s, m, e, h1⟩ := h1
  obtain ⟨t, d, w, h2⟩ := h2
  rw [val64_dsub, h1, h2]
  exact roundRatio_ne_nan b64 _ _ 1 _
theorem own_e1 (k P Q U : Nat) : (k * P + Q) * U = k * U * P + Q * U := by rw [Nat.add_mul]; congr 1; ac_rfl
theorem own_e2 (k U : Nat) : (2 * k + 1) * U = k * U * 2 + U := by rw [Nat.add_mul, Nat.one_mul]; congr 1; ac_rfl
theorem own_pf (hx : 0 ≤ x.toInt) (hy : 0 < y.toInt) (ha : a.toInt = (k : Int)) (hA : x.toInt.toNat = y.toInt.toNat * k + r) (hr : r < y.toInt.toNat) :
    val64 (Core.dsub (Core.ddiv (Core.i2d x) (Core.i2d y)) (Core.l2d a)) ≠ .nan ∧
    (2 * r < y.toInt.toNat → Core.dcmp (Core.dsub (Core.ddiv (Core.i2d x) (Core.i2d y)) (Core.l2d a)) 4602678819172646912 = some .lt) ∧
    (2 * r = y.toInt.toNat → Core.dcmp (Core.dsub (Core.ddiv (Core.i2d x) (Core.i2d y)) (Core.l2d a)) 4602678819172646912 = some .eq) ∧
    (y.toInt.toNat < 2 * r → Core.dcmp (Core.dsub (Core.ddiv (Core.i2d x) (Core.i2d y)) (Core.l2d a)) 4602678819172646912 = some .gt) := by
  have x1 := x.toInt_lt
  obtain ⟨f1, j, j1, j2, j3⟩ := own_qfin hx hy hA hr
  have k2 : 1 * k ≤ y.toInt.toNat * k := Nat.mul_le_mul_right _ (by omega)
  obtain ⟨z1, f2⟩ := own_zl ha (by omega)
  have hh : val64 4602678819172646912 ≠ .nan := by rw [own_half]; exact Datum.noConfusion
  have hz := own_halfz
  have hne := own_subne f1 f2
  have hq := own_zq hx hy
  have hn : 0 < y.toInt.toNat := by omega
  have k53 : k + 1 ≤ 2 ^ 52 := Nat.le_trans (Nat.le_mul_of_pos_right _ (Nat.two_pow_pos j)) j3
  have hP := Nat.two_pow_pos j
  have e52 : (k + 1) * 2 ^ j = k * 2 ^ j + 2 ^ j := by rw [Nat.add_mul, Nat.one_mul]
  have ep : 2 ^ (j + 1) = 2 * 2 ^ j := by rw [Nat.pow_succ, Nat.mul_comm]
  have ek : k * 2 ^ (j + 1) = 2 * (k * 2 ^ j) := by rw [ep]; ac_rfl
  generalize Core.ddiv (Core.i2d x) (Core.i2d y) = Q at *
  generalize Core.l2d a = K at *
  have hle := fun c j h1 h2 => own_dle (a := Q) (b := K) (c := c) (j := j) f1 f2 h1 h2
  have hge := fun c j h1 h2 => own_dge (a := Q) (b := K) (c := c) (j := j) f1 f2 h1 h2
  rw [hq, z1] at hle hge
  generalize x.toInt.toNat = A at *
  generalize y.toInt.toNat = n at *
  generalize hF : Core.dsub Q K = F at *
  refine ⟨hne, fun h => ?_, fun h => ?_, fun h => ?_⟩
  · refine own_dcmp hne hh (own_lt ?_)
    have a1 := own_rle (A := A) (n := n) (c := k * 2 ^ (j + 1) + (2 ^ j - 1)) (j := j + 1) hn (by omega) (by omega) (by
      rw [ep]
      generalize 2 ^ j = P at *
      have e1 : (k * (2 * P) + (P - 1)) * n = 2 * (n * k * P) + (P * n - n) := by rw [Nat.add_mul, Nat.sub_mul, Nat.one_mul]; congr 1; ac_rfl
      have e2 : A * (2 * P) = 2 * (n * k * P) + 2 * r * P := by rw [hA, Nat.add_mul]; congr 1 <;> ac_rfl
      have e3 : (2 * r + 1) * P ≤ n * P := Nat.mul_le_mul_right _ h
      rw [Nat.add_mul, Nat.one_mul] at e3
      rw [Nat.mul_comm P n] at e1
      omega)
    have a2 := hle (2 ^ j - 1) (j + 1) (by omega) (by omega) (by
      rw [own_e1] at a1
      rw [Int.sub_mul, ← Int.natCast_mul, ← Int.natCast_mul]
      generalize (2 ^ j - 1) * own_U = w1 at *
      generalize k * own_U * 2 ^ (j + 1) = w2 at *
      generalize zmag b64 (roundRatio b64 false A n 0) * 2 ^ (j + 1) = w3 at *
      omega)
    rw [ep] at a2
    have hU := own_Upos
    generalize own_U = U at *
    generalize zval b64 (val64 F) = z at *
    generalize zval b64 (val64 4602678819172646912) = y at *
    have e4 : ((2 ^ j - 1) * U : Nat) < 2 ^ j * U := Nat.mul_lt_mul_of_pos_right (by omega) hU
    have e5 : z * ((2 * 2 ^ j : Nat) : Int) < y * ((2 * 2 ^ j : Nat) : Int) := by
      refine Int.lt_of_le_of_lt a2 ?_
      rw [Int.natCast_mul 2, ← Int.mul_assoc, show y * ((2 : Nat) : Int) = y * 2 from rfl, hz, ← Int.natCast_mul, Nat.mul_comm U]
      exact Int.ofNat_lt.mpr e4
    exact Int.lt_of_mul_lt_mul_right e5 (by omega)
  · refine own_dcmp hne hh (own_eq ?_)
    have b1 : A * 2 ^ 1 = (2 * k + 1) * n := by
      have e : (2 * k + 1) * n = n * k * 2 + n := own_e2 k n ▸ (by rw [Nat.mul_comm k n])
      rw [e, hA, Nat.pow_one, Nat.add_mul]
      omega
    have a1 := own_rle (A := A) (n := n) (c := 2 * k + 1) (j := 1) hn (by omega) (by omega) (Nat.le_of_eq b1)
    have a2 := own_rge (A := A) (n := n) (c := 2 * k + 1) (j := 1) hn (by omega) (by omega) (Nat.le_of_eq b1.symm)
    rw [own_e2] at a1 a2
    have d1 := hle 1 1 (by omega) (by omega) (by rw [Nat.one_mul]; omega)
    have d2 := hge 1 1 (by omega) (by omega) (by rw [Nat.one_mul]; omega)
    rw [Nat.one_mul] at d1 d2
    generalize own_U = U at *
    omega
  · refine own_dcmp hne hh (own_gt ?_)
    have a1 := own_rge (A := A) (n := n) (c := k * 2 ^ (j + 1) + (2 ^ j + 1)) (j := j + 1) hn (by omega) (by omega) (by
      rw [ep]
      generalize 2 ^ j = P at *
      have e1 : (k * (2 * P) + (P + 1)) * n = 2 * (n * k * P) + (n * P + n) := by rw [Nat.add_mul, Nat.add_mul P, Nat.one_mul, Nat.mul_comm P n]; congr 1; ac_rfl
      have e2 : A * (2 * P) = 2 * (n * k * P) + 2 * r * P := by rw [hA, Nat.add_mul]; congr 1 <;> ac_rfl
      have e3 : (n + 1) * P ≤ 2 * r * P := Nat.mul_le_mul_right _ h
      rw [Nat.add_mul, Nat.one_mul] at e3
      omega)
    have a2 := hge (2 ^ j + 1) (j + 1) (by omega) (by omega) (by
      rw [own_e1] at a1
      rw [Int.sub_mul, ← Int.natCast_mul, ← Int.natCast_mul]
      generalize (2 ^ j + 1) * own_U = w1 at *
      generalize k * own_U * 2 ^ (j + 1) = w2 at *
      generalize zmag b64 (roundRatio b64 false A n 0) * 2 ^ (j + 1) = w3 at *
      omega)
    rw [ep] at a2
    have hU := own_Upos
    generalize own_U = U at *
    generalize zval b64 (val64 F) = z at *
    generalize zval b64 (val64 4602678819172646912) = y at *
    have e4 : (2 ^ j * U : Nat) < (2 ^ j + 1) * U := Nat.mul_lt_mul_of_pos_right (by omega) hU
    have e5 : y * ((2 * 2 ^ j : Nat) : Int) < z * ((2 * 2 ^ j : Nat) : Int) := by
      refine Int.lt_of_lt_of_le ?_ a2
      rw [Int.natCast_mul 2, ← Int.mul_assoc, show y * ((2 : Nat) : Int) = y * 2 from rfl, hz, ← Int.natCast_mul, Nat.mul_comm U]
      exact Int.ofNat_lt.mpr e4
    exact Int.lt_of_mul_lt_mul_right e5 (by omega)
end
end OwnFloat
theorem own_nn (x : Int32) {y : Int32} (h : (0 : Int32) < y) : Jvm.Free.Fl.NoNaN64 (FP.ddiv (FP.i2d x) (FP.i2d y)) := by
  have h0 : y ≠ 0 := fun q => by subst q; exact absurd h (by decide)
  exact Jvm.Free.Fl.ddiv_out (Jvm.Free.Fl.i2d_fin x).noNaN (Jvm.Free.Fl.i2d_fin y) ((Jvm.Free.Fl.nz64_iff _).mpr (Jvm.FP.Core.i2d_ne_zero h0))
theorem own_nz1 (u : Int32) (h : 0 ≤ u.toInt) : u.toInt64 + (1 : Int64) ≠ 0 := by
  intro q
  have h1 := c_ladd u.toInt64 1
  have h2 := c_i2l u
  have h3 := rng32 u
  have h4 : (u.toInt64 + (1 : Int64)).toInt = 0 := by rw [q]; rfl
  have h5 : (1 : Int64).toInt = 1 := by decide
  rw [h5] at h1
  omega
theorem own_t (p1 u t : Int32) (h : 0 ≤ u.toInt) (ht : ((((p1.toInt64) &&& (2147483647 : Int64)) - ((p1.toInt64) &&& (2147483647 : Int64)) / ((u.toInt64) + (1 : Int64)) * ((u.toInt64) + (1 : Int64))).toInt32) = t) : 0 ≤ t.toInt ∧ t.toInt ≤ u.toInt := by
  have h1 := c_maskL p1.toInt64 2147483647 31 (by decide) (by decide)
  have h2 := c_i2l u
  have h3 := rng32 u
  have h4 := c_ladd u.toInt64 1
  have h5 : (1 : Int64).toInt = 1 := by decide
  have h6 := rng64 (u.toInt64 + 1)
  have h7 : (u.toInt64 + (1 : Int64)).toInt = u.toInt + 1 := by rw [h5] at h4; omega
  generalize hx : (p1.toInt64 &&& (2147483647 : Int64)) = x at *
  have h0 : 0 ≤ x.toInt := by rw [h1]; omega
  have h8 := (c_lrem x (u.toInt64 + 1) (u.toInt + 1) h7).1 h0
  have h9 := Int.emod_nonneg x.toInt (show u.toInt + 1 ≠ 0 by omega)
  have h10 := Int.emod_lt_of_pos x.toInt (show 0 < u.toInt + 1 by omega)
  have h11 := c_l2i (x - x / (u.toInt64 + 1) * (u.toInt64 + 1))
  rw [ht] at h11
  have h12 := rng32 t
  omega
theorem own_ut {u t : Int32} (hu : 0 ≤ u.toInt) (ht : 0 ≤ t.toInt ∧ t.toInt ≤ u.toInt) (h : ¬ (0 : Int32) < (u - t)) : (u - t) = 0 := by
  have h4 := c_isub u t
  have h6 := rng32 u
  have h7 := rng32 (u - t)
  have h8 : ¬ 0 < (u - t).toInt := fun q => h (Int32.lt_iff_toInt_lt.mpr q)
  exact Int32.toInt_inj.mp (show (u - t).toInt = 0 by omega)
theorem own_tri (a b : Int64) : a < b ∨ a = b ∨ b < a := by
  rcases Int.lt_trichotomy a.toInt b.toInt with q | q | q
  · exact Or.inl (Int64.lt_iff_toInt_lt.mpr q)
  · exact Or.inr (Or.inl (Int64.toInt_inj.mp q))
  · exact Or.inr (Or.inr (Int64.lt_iff_toInt_lt.mpr q))
theorem own_nl0 {a b : Int64} (h : a = b) (q : a < b) : False := by subst h; exact Int64.lt_irrefl q
theorem own_nl1 {a b : Int64} (h : b < a) (q : a < b) : False := by rw [Int64.lt_iff_toInt_lt] at h q; omega
theorem own_ng0 {a b : Int64} (h : a = b) (q : b < a) : False := by subst h; exact Int64.lt_irrefl q
theorem own_ngm {a b : Int64} (h : a < b) (q : b < a) : False := by rw [Int64.lt_iff_toInt_lt] at h q; omega
theorem own_nzy {y : Int32} (h : 0 < y.toInt) : y.toInt64 ≠ 0 := fun q => by
  have a := c_i2l y
  rw [q] at a
  have e : (0 : Int64).toInt = 0 := by decide
  omega
theorem own_I {x y : Int32} (hx : 0 ≤ x.toInt) (hy : 0 < y.toInt) : ∃ k r : Nat, (x.toInt64 / y.toInt64).toInt = (k : Int) ∧ (x.toInt64 / y.toInt64 + (1 : Int64)).toInt = (k : Int) + 1 ∧ (x.toInt64 - x.toInt64 / y.toInt64 * y.toInt64).toInt = (r : Int) ∧ x.toInt.toNat = y.toInt.toNat * k + r ∧ r < y.toInt.toNat := by
  have ex := c_i2l x
  have ey := c_i2l y
  have x1 := rng32 x
  have y1 := rng32 y
  have hne : y.toInt64 ≠ -1 := fun q => by
    rw [q] at ey
    have e : (-1 : Int64).toInt = -1 := by decide
    omega
  have d := (c_ldiv x.toInt64 y.toInt64 y.toInt ey hne).1 (by omega)
  have m := (c_lrem x.toInt64 y.toInt64 y.toInt ey).1 (by omega)
  rw [ex] at d m
  have e1 := Int.mul_ediv_add_emod x.toInt y.toInt
  have e2 := Int.emod_nonneg x.toInt (show y.toInt ≠ 0 by omega)
  have e3 := Int.emod_lt_of_pos x.toInt hy
  have e4 := Int.ediv_nonneg hx (Int.le_of_lt hy)
  have e5 := Int.ediv_le_self y.toInt hx
  have a1 := c_ladd (x.toInt64 / y.toInt64) 1
  have a2 := rng64 (x.toInt64 / y.toInt64 + (1 : Int64))
  have a3 : (1 : Int64).toInt = 1 := by decide
  refine ⟨(x.toInt / y.toInt).toNat, (x.toInt % y.toInt).toNat, by omega, by omega, by omega, ?_, by omega⟩
  have k1 : ((x.toInt / y.toInt).toNat : Int) = x.toInt / y.toInt := Int.toNat_of_nonneg e4
  have k2 : ((x.toInt % y.toInt).toNat : Int) = x.toInt % y.toInt := Int.toNat_of_nonneg e2
  have k3 : ((y.toInt.toNat : Nat) : Int) = y.toInt := Int.toNat_of_nonneg (Int.le_of_lt hy)
  have k4 : ((y.toInt.toNat * (x.toInt / y.toInt).toNat + (x.toInt % y.toInt).toNat : Nat) : Int) = x.toInt := by rw [Int.natCast_add, Int.natCast_mul, k1, k2, k3, e1]
  omega
section
variable {x y : Int32} (hx : 0 ≤ x.toInt) (hy : 0 < y.toInt)
theorem own_c0 (hx : 0 ≤ x.toInt) (hy : 0 < y.toInt) (h : (lcmpW (x.toInt64 - x.toInt64 / y.toInt64 * y.toInt64) (0 : Int64)) = (0 : Int32)) (o : CmpOp) : cmpValue (FP.dcmp (FP.ddiv (FP.i2d x) (FP.i2d y)) (FP.l2d (x.toInt64 / y.toInt64))) o = (0 : Int32) := by
  obtain ⟨k, r, h1, h2, h3, h4, h5⟩ := own_I hx hy
  have hm := (lw_eq _ _).mp h
  have e : (0 : Int64).toInt = 0 := by decide
  rw [hm, e] at h3
  have q := own_p0 hx hy h1 h4 (by omega)
  show cmpValue (FP.Core.dcmp (FP.Core.ddiv (FP.Core.i2d x) (FP.Core.i2d y)) (FP.Core.l2d (x.toInt64 / y.toInt64))) o = 0
  rw [q]; rfl
theorem own_rpos {m : Int64} {r : Nat} (h : ¬ (lcmpW m (0 : Int64)) = (0 : Int32)) (h3 : m.toInt = (r : Int)) : 0 < r := by
  refine Nat.pos_of_ne_zero fun q => h ((lw_eq _ _).mpr (Int64.toInt_inj.mp ?_))
  have e : (0 : Int64).toInt = 0 := by decide
  omega
theorem own_c1 (hx : 0 ≤ x.toInt) (hy : 0 < y.toInt) (h : ¬ (lcmpW (x.toInt64 - x.toInt64 / y.toInt64 * y.toInt64) (0 : Int64)) = (0 : Int32)) (o : CmpOp) : cmpValue (FP.dcmp (FP.ddiv (FP.i2d x) (FP.i2d y)) (FP.l2d (x.toInt64 / y.toInt64))) o = (1 : Int32) := by
  obtain ⟨k, r, h1, h2, h3, h4, h5⟩ := own_I hx hy
  have q := (own_p1 hx hy h1 h2 h4 h5 (own_rpos h h3)).1
  show cmpValue (FP.Core.dcmp (FP.Core.ddiv (FP.Core.i2d x) (FP.Core.i2d y)) (FP.Core.l2d (x.toInt64 / y.toInt64))) o = 1
  rw [q]; rfl
theorem own_c2 (hx : 0 ≤ x.toInt) (hy : 0 < y.toInt) (h : ¬ (lcmpW (x.toInt64 - x.toInt64 / y.toInt64 * y.toInt64) (0 : Int64)) = (0 : Int32)) (o : CmpOp) : cmpValue (FP.dcmp (FP.ddiv (FP.i2d x) (FP.i2d y)) (FP.l2d (x.toInt64 / y.toInt64 + (1 : Int64)))) o = (-1 : Int32) := by
  obtain ⟨k, r, h1, h2, h3, h4, h5⟩ := own_I hx hy
  have q := (own_p1 hx hy h1 h2 h4 h5 (own_rpos h h3)).2
  show cmpValue (FP.Core.dcmp (FP.Core.ddiv (FP.Core.i2d x) (FP.Core.i2d y)) (FP.Core.l2d (x.toInt64 / y.toInt64 + (1 : Int64)))) o = -1
  rw [q]; rfl
theorem own_nnF (hx : 0 ≤ x.toInt) (hy : 0 < y.toInt) : Jvm.Free.Fl.NoNaN64 (FP.dsub (FP.ddiv (FP.i2d x) (FP.i2d y)) (FP.l2d (x.toInt64 / y.toInt64))) := by
  obtain ⟨k, r, h1, h2, h3, h4, h5⟩ := own_I hx hy
  exact Jvm.Free.Fl.val64_no.mpr (own_pf hx hy h1 h4 h5).1
theorem own_tw {x y : Int32} {m : Int64} {r : Nat} (h3 : m.toInt = (r : Int)) (h5 : r < y.toInt.toNat) : ((2 : Int64) * m).toInt = 2 * (r : Int) ∧ y.toInt64.toInt = ((y.toInt.toNat : Nat) : Int) := by
  have a := c_lmul 2 m
  have b := rng64 ((2 : Int64) * m)
  have e : (2 : Int64).toInt = 2 := by decide
  have y1 := rng32 y
  have ey := c_i2l y
  rw [e] at a
  omega
theorem own_f1 (hx : 0 ≤ x.toInt) (hy : 0 < y.toInt) (h : ((2 : Int64) * (x.toInt64 - x.toInt64 / y.toInt64 * y.toInt64)) < y.toInt64) (o : CmpOp) : cmpValue (FP.dcmp (FP.dsub (FP.ddiv (FP.i2d x) (FP.i2d y)) (FP.l2d (x.toInt64 / y.toInt64))) (4602678819172646912 : UInt64)) o = (-1 : Int32) := by
  obtain ⟨k, r, h1, h2, h3, h4, h5⟩ := own_I hx hy
  have t := own_tw (x := x) h3 h5
  have q := (own_pf hx hy h1 h4 h5).2.1 (by rw [Int64.lt_iff_toInt_lt] at h; omega)
  show cmpValue (FP.Core.dcmp (FP.Core.dsub (FP.Core.ddiv (FP.Core.i2d x) (FP.Core.i2d y)) (FP.Core.l2d (x.toInt64 / y.toInt64))) 4602678819172646912) o = -1
  rw [q]; rfl
theorem own_f2 (hx : 0 ≤ x.toInt) (hy : 0 < y.toInt) (h : ((2 : Int64) * (x.toInt64 - x.toInt64 / y.toInt64 * y.toInt64)) = y.toInt64) (o : CmpOp) : cmpValue (FP.dcmp (FP.dsub (FP.ddiv (FP.i2d x) (FP.i2d y)) (FP.l2d (x.toInt64 / y.toInt64))) (4602678819172646912 : UInt64)) o = (0 : Int32) := by
  obtain ⟨k, r, h1, h2, h3, h4, h5⟩ := own_I hx hy
  have t := own_tw (x := x) h3 h5
  have q := (own_pf hx hy h1 h4 h5).2.2.1 (by have := congrArg Int64.toInt h; omega)
  show cmpValue (FP.Core.dcmp (FP.Core.dsub (FP.Core.ddiv (FP.Core.i2d x) (FP.Core.i2d y)) (FP.Core.l2d (x.toInt64 / y.toInt64))) 4602678819172646912) o = 0
  rw [q]; rfl
theorem own_f3 (hx : 0 ≤ x.toInt) (hy : 0 < y.toInt) (h : y.toInt64 < ((2 : Int64) * (x.toInt64 - x.toInt64 / y.toInt64 * y.toInt64))) (o : CmpOp) : cmpValue (FP.dcmp (FP.dsub (FP.ddiv (FP.i2d x) (FP.i2d y)) (FP.l2d (x.toInt64 / y.toInt64))) (4602678819172646912 : UInt64)) o = (1 : Int32) := by
  obtain ⟨k, r, h1, h2, h3, h4, h5⟩ := own_I hx hy
  have t := own_tw (x := x) h3 h5
  have q := (own_pf hx hy h1 h4 h5).2.2.2 (by rw [Int64.lt_iff_toInt_lt] at h; omega)
  show cmpValue (FP.Core.dcmp (FP.Core.dsub (FP.Core.ddiv (FP.Core.i2d x) (FP.Core.i2d y)) (FP.Core.l2d (x.toInt64 / y.toInt64))) 4602678819172646912) o = 1
  rw [q]; rfl
end
def Facts (Z : State) (w_EMPTY : Addr) : Prop :=
  Sta Z Z.heap "java/util/OptionalDouble" "EMPTY" "Ljava/util/OptionalDouble;" (.ref w_EMPTY) ∧
  Exa Z Z.heap w_EMPTY "java/util/OptionalDouble" ∧
  Fld Z Z.heap w_EMPTY "java/util/OptionalDouble" "isPresent" "Z" (.int (0 : Int32))
theorem d5_0 : decode jdk_2648_method_3_code 0 = .ok (.aload_n 0, 1) := by decide +kernel
theorem d5_1 : decode jdk_2648_method_3_code 1 = .ok (.invokespecial 1, 3) := by decide +kernel
theorem d5_4 : decode jdk_2648_method_3_code 4 = .ok (.aload_n 0, 1) := by decide +kernel
theorem d5_5 : decode jdk_2648_method_3_code 5 = .ok (.iconst 1, 1) := by decide +kernel
theorem d5_6 : decode jdk_2648_method_3_code 6 = .ok (.putfield 7, 3) := by decide +kernel
theorem d5_9 : decode jdk_2648_method_3_code 9 = .ok (.aload_n 0, 1) := by decide +kernel
theorem d5_10 : decode jdk_2648_method_3_code 10 = .ok (.dload_n 1, 1) := by decide +kernel
theorem d5_11 : decode jdk_2648_method_3_code 11 = .ok (.putfield 17, 3) := by decide +kernel
theorem d5_14 : decode jdk_2648_method_3_code 14 = .ok (.return_, 1) := by decide +kernel
theorem pn5 : plainName "java/util/OptionalDouble" = true := by first | (simp [plainName, overriddenIn]; done) | decide +kernel
theorem ef5 (m : MethodId) (o0 : Addr) (d1 : UInt64) : entryFrame m #[(.ref o0), (.double d1)] 3 = mkF m 0 #[.val (.ref o0), .val (.double d1), .second] [] := by first | (simp [entryFrame, mkF, argsToLocals, Value.category]; done) | rfl
set_option maxRecDepth 65536 in
set_option maxHeartbeats 40000000 in
theorem rmJ (l : Launch) (Z : State) (a0 : Array Value) (hw : ∀ d ∈ tables_1, d.before a0 Z = true) (ws : List Jvm.Cond) (n0 : Nat) (h0 : Heap) (O0 : Old Z n0 h0) (o0 : Addr) (d1 : UInt64) (g_o0 : n0 ≤ o0) (Ex0 : Exa Z h0 o0 "java/util/OptionalDouble") (F0p : Fld Z h0 o0 "java/util/OptionalDouble" "isPresent" "Z" (.int (0 : Int32))) (F0v : Fld Z h0 o0 "java/util/OptionalDouble" "value" "D" (.double (0 : UInt64))) :
    Meets1 l (⟨"java/util/OptionalDouble", "<init>", "(D)V"⟩ : MethodName) jdk_2648_method_3_code 3 none ws ({ frames := 1, cells := 0, slots := 0, locals := 12 } : Room) #[(.ref o0), (.double d1)] Z h0 (fun v h L => v = none ∧ Fr n0 L ∧ Keep h0 h [o0] ∧ Exa Z h o0 "java/util/OptionalDouble" ∧ Fld Z h o0 "java/util/OptionalDouble" "isPresent" "Z" (.int (1 : Int32)) ∧ Fld Z h o0 "java/util/OptionalDouble" "value" "D" (.double d1)) := by
  refine MetFree.of_bodySF (plainFor_of_name pn5) hisR ?_
  intro p e s m args below meth c s₁ Bd hml0 hP hK
  obtain ⟨rfl, hZ, hh⟩ := hP
  have hx := Bd.exec
  have hby := Bd.bytes
  have hml : c.maxLocals = 3 := hml0
  have hown : s.vm.findClass "java/util/OptionalDouble" = some m.cls := findClass_of_methodNamed Bd.named
  have hnm := (name_of_methodNamed Bd.named Bd.method).1
  have X0 : Stand p l e ({ frames := 1, cells := 0, slots := 0, locals := 12 } : Room) s m #[(.ref o0), (.double d1)] below meth c s₁ [] 0 0 := Stand.of_body Bd
  have e0 : s₁.heap = h0 := by rw [← hh, Bd.state]; rfl
  have N0 := Fr.nil n0
  have Z0 := own_old_le O0
  show Ends p e below s s₁ (entryFrame m #[(.ref o0), (.double d1)] 3) ({ frames := 1, cells := 0, slots := 0, locals := 12 } : Room).cells ({ frames := 1, cells := 0, slots := 0, locals := 12 } : Room).slots (fun v h L => v = none ∧ Fr n0 L ∧ Keep h0 h [o0] ∧ Exa Z h o0 "java/util/OptionalDouble" ∧ Fld Z h o0 "java/util/OptionalDouble" "isPresent" "Z" (.int (1 : Int32)) ∧ Fld Z h o0 "java/util/OptionalDouble" "value" "D" (.double d1))
  refine Ends.go (fun _ k => castTop (ef5 m o0 d1) k) ?_
  have K0 := Keep.refl h0 [o0]
  show Ends p e below s s₁ (mkF m 0 #[.val (.ref o0), .val (.double d1), .second] []) _ _ _
  refine Ends.go (fun _ k => XS.aloadN X0.here hx rfl (hb hby d5_0) rfl rfl k) ?_
  show Ends p e below s s₁ (mkF m 1 #[.val (.ref o0), .val (.double d1), .second] [(.ref o0)]) _ _ _
  obtain ⟨T1, X1, e1, st1⟩ := initO X0 hx hZ hown (ow hw 27 rfl) (ow hw 28 rfl) (ow hw 29 rfl) e0 (g := (mkF m 1 #[.val (.ref o0), .val (.double d1), .second] [(.ref o0)])) rfl (by rw [hml]; rfl) rfl (hb hby d5_1) (by decide) (W := 0) (by show 2 * 0 + _ ≤ _; exact Nat.le_of_eq rfl) (by decide)
  refine Ends.go st1 ?_
  show Ends p e below s T1 (mkF m 4 #[.val (.ref o0), .val (.double d1), .second] []) _ _ _
  refine Ends.go (fun _ k => XS.aloadN X1.here hx rfl (hb hby d5_4) rfl rfl k) ?_
  show Ends p e below s T1 (mkF m 5 #[.val (.ref o0), .val (.double d1), .second] [(.ref o0)]) _ _ _
  refine Ends.go (fun _ k => XS.iconst X1.here hx rfl (hb hby d5_5) k) ?_
  show Ends p e below s T1 (mkF m 6 #[.val (.ref o0), .val (.double d1), .second] [(.int (1 : Int32)), (.ref o0)]) _ _ _
  obtain ⟨T2, h2, X2, e2, W2, st2⟩ := putFN X1 hx hZ hown (ow hw 16 rfl) Via.refl e1 F0p Ex0 (Or.inr ⟨(ow hw 17 rfl), rfl, hnm⟩) (ow hw 22 rfl) (ty := .boolean) (v' := (.int (1 : Int32))) (by decide) rfl (by decide) (g := (mkF m 6 #[.val (.ref o0), .val (.double d1), .second] [(.int (1 : Int32)), (.ref o0)])) rfl rfl (hb hby d5_6)
  refine Ends.go st2 ?_
  have Fw2 := F0p.same W2
  have K2 := K0.wr W2 (Or.inl (List.mem_of_getElem? (i := 0) rfl))
  have O2 := O0.wr W2 g_o0
  have N2 := Fr.snoc X2 N0 g_o0
  show Ends p e below s T2 (mkF m 9 #[.val (.ref o0), .val (.double d1), .second] []) _ _ _
  refine Ends.go (fun _ k => XS.aloadN X2.here hx rfl (hb hby d5_9) rfl rfl k) ?_
  show Ends p e below s T2 (mkF m 10 #[.val (.ref o0), .val (.double d1), .second] [(.ref o0)]) _ _ _
  refine Ends.go (fun _ k => XS.dloadN X2.here hx rfl (hb hby d5_10) rfl k) ?_
  show Ends p e below s T2 (mkF m 11 #[.val (.ref o0), .val (.double d1), .second] [(.double d1), (.ref o0)]) _ _ _
  obtain ⟨T3, h3, X3, e3, W3, st3⟩ := putF X2 hx hZ hown (host := "") (Or.inl (ow hw 30 rfl)) Via.refl e2 (F0v.other W2 (Or.inr (slot_ne (Or.inr (ow hw 31 rfl)) (Or.inr (ow hw 17 rfl)) (by decide) (t := .double) (t' := .boolean) (by decide) (by decide)))) (Ex0.wr W2) (Or.inr ⟨(ow hw 31 rfl), rfl, hnm⟩) (ow hw 22 rfl) (ty := .double) (by decide) rfl rfl (g := (mkF m 11 #[.val (.ref o0), .val (.double d1), .second] [(.double d1), (.ref o0)])) rfl rfl (hb hby d5_11)
  refine Ends.go st3 ?_
  have Fw3 := (F0v.other W2 (Or.inr (slot_ne (Or.inr (ow hw 31 rfl)) (Or.inr (ow hw 17 rfl)) (by decide) (t := .double) (t' := .boolean) (by decide) (by decide)))).same W3
  have K3 := K2.wr W3 (Or.inl (List.mem_of_getElem? (i := 0) rfl))
  have O3 := O2.wr W3 g_o0
  have N3 := Fr.snoc X3 N2 g_o0
  show Ends p e below s T3 (mkF m 14 #[.val (.ref o0), .val (.double d1), .second] []) _ _ _
  refine Ends.retV X3 hx Bd.notSynchronized Bd.returns (hb hby d5_14) (by decide) (by decide) ?_
  rw [e3]
  exact ⟨rfl, N3, K3, ((Ex0.wr W2).wr W3), (Fw2.other W3 (Or.inr (slot_ne (Or.inr (ow hw 17 rfl)) (Or.inr (ow hw 31 rfl)) (by decide) (t := .boolean) (t' := .double) (by decide) (by decide)))), Fw3⟩
theorem d4_0 : decode jdk_2648_method_4_code 0 = .ok (.new 8, 3) := by decide +kernel
theorem d4_3 : decode jdk_2648_method_4_code 3 = .ok (.dup, 1) := by decide +kernel
theorem d4_4 : decode jdk_2648_method_4_code 4 = .ok (.dload_n 0, 1) := by decide +kernel
theorem d4_5 : decode jdk_2648_method_4_code 5 = .ok (.invokespecial 25, 3) := by decide +kernel
theorem d4_8 : decode jdk_2648_method_4_code 8 = .ok (.areturn, 1) := by decide +kernel
theorem pn4 : plainName "java/util/OptionalDouble" = true := by first | (simp [plainName, overriddenIn]; done) | decide +kernel
theorem pd4_0 : parseMethodDescriptor "(D)V" = some ⟨[.double], none⟩ := by decide +kernel
theorem ef4 (m : MethodId) (d0 : UInt64) : entryFrame m #[(.double d0)] 2 = mkF m 0 #[.val (.double d0), .second] [] := by first | (simp [entryFrame, mkF, argsToLocals, Value.category]; done) | rfl
set_option maxRecDepth 65536 in
set_option maxHeartbeats 40000000 in
theorem rmO (l : Launch) (Z : State) (a0 : Array Value) (hw : ∀ d ∈ tables_1, d.before a0 Z = true) (ws : List Jvm.Cond) (n0 : Nat) (h0 : Heap) (O0 : Old Z n0 h0) (d0 : UInt64)  :
    Meets1 l (⟨"java/util/OptionalDouble", "of", "(D)Ljava/util/OptionalDouble;"⟩ : MethodName) jdk_2648_method_4_code 2 (some (.object "java/util/OptionalDouble")) ws ({ frames := 2, cells := 1, slots := 2, locals := 27 } : Room) #[(.double d0)] Z h0 (fun v h L => ∃ b : Addr, v = some (.ref b) ∧ Fr n0 L ∧ h0.size ≤ b ∧ Keep h0 h [] ∧ Exa Z h b "java/util/OptionalDouble" ∧ Fld Z h b "java/util/OptionalDouble" "isPresent" "Z" (.int (1 : Int32)) ∧ Fld Z h b "java/util/OptionalDouble" "value" "D" (.double d0)) := by
  refine MetFree.of_bodySF (plainFor_of_name pn4) hisR ?_
  intro p e s m args below meth c s₁ Bd hml0 hP hK
  obtain ⟨rfl, hZ, hh⟩ := hP
  have hx := Bd.exec
  have hby := Bd.bytes
  have hml : c.maxLocals = 2 := hml0
  have hown : s.vm.findClass "java/util/OptionalDouble" = some m.cls := findClass_of_methodNamed Bd.named
  have hnm := (name_of_methodNamed Bd.named Bd.method).1
  have X0 : Stand p l e ({ frames := 2, cells := 1, slots := 2, locals := 27 } : Room) s m #[(.double d0)] below meth c s₁ [] 0 0 := Stand.of_body Bd
  have e0 : s₁.heap = h0 := by rw [← hh, Bd.state]; rfl
  have N0 := Fr.nil n0
  have Z0 := own_old_le O0
  show Ends p e below s s₁ (entryFrame m #[(.double d0)] 2) ({ frames := 2, cells := 1, slots := 2, locals := 27 } : Room).cells ({ frames := 2, cells := 1, slots := 2, locals := 27 } : Room).slots (fun v h L => ∃ b : Addr, v = some (.ref b) ∧ Fr n0 L ∧ h0.size ≤ b ∧ Keep h0 h [] ∧ Exa Z h b "java/util/OptionalDouble" ∧ Fld Z h b "java/util/OptionalDouble" "isPresent" "Z" (.int (1 : Int32)) ∧ Fld Z h b "java/util/OptionalDouble" "value" "D" (.double d0))
  refine Ends.go (fun _ k => castTop (ef4 m d0) k) ?_
  have K0 := Keep.refl h0 []
  show Ends p e below s s₁ (mkF m 0 #[.val (.double d0), .second] []) _ _ _
  obtain ⟨T1, h1, X1, e1, E1, A1, D1, -, st1⟩ := newO X0 hx hZ hown (ow hw 21 rfl) (ow hw 22 rfl) (ow hw 8 rfl) e0 (g := (mkF m 0 #[.val (.double d0), .second] [])) rfl (hb hby d4_0) (by decide) (by decide)
  obtain ⟨b1, g1⟩ : ∃ z, z = h0.size := ⟨_, rfl⟩
  rw [← g1] at A1 D1 st1
  refine Ends.go st1 ?_
  have g_b1 : n0 ≤ b1 := Nat.le_trans (own_old_le O0) (Nat.le_of_eq g1.symm)
  have sz_b1 : h0.size ≤ b1 := Nat.le_trans K0.1 (Nat.le_of_eq g1.symm)
  have K1 := K0.ext E1
  have O1 := O0.ext E1
  have F_isPresent_b1 : Fld Z h1 b1 "java/util/OptionalDouble" "isPresent" "Z" (.int (0 : Int32)) := D1 (Or.inr (ow hw 17 rfl)) (ty := .boolean) (by decide)
  have F_value_b1 : Fld Z h1 b1 "java/util/OptionalDouble" "value" "D" (.double (0 : UInt64)) := D1 (Or.inr (ow hw 31 rfl)) (ty := .double) (by decide)
  show Ends p e below s T1 (mkF m 3 #[.val (.double d0), .second] [(.ref b1)]) _ _ _
  refine Ends.go (fun _ k => XS.dup X1.here hx rfl (hb hby d4_3) rfl rfl k) ?_
  show Ends p e below s T1 (mkF m 4 #[.val (.double d0), .second] [(.ref b1), (.ref b1)]) _ _ _
  refine Ends.go (fun _ k => XS.dloadN X1.here hx rfl (hb hby d4_4) rfl k) ?_
  show Ends p e below s T1 (mkF m 5 #[.val (.double d0), .second] [(.double d0), (.ref b1), (.ref b1)]) _ _ _
  obtain ⟨_, _, ⟨T2, L2, k2, n2⟩, -, X2, ⟨Lc2, hQ2, l2, y2, z2⟩, st2⟩ := X1.specialBack hx (y := (⟨"java/util/OptionalDouble", "<init>", "(D)V"⟩ : MethodName)) rfl hown (mvT hZ (ow hw 23 rfl)) (mvT hZ (ow hw 24 rfl)) (mvT hZ (ow hw 26 rfl)) (by decide) (own_backOf (W := 1) (rmJ l Z a0 hw [] n0 h1 O1 b1 d0 g_b1 A1 F_isPresent_b1 F_value_b1) hZ (ow hw 26 rfl) (ow hw 8 rfl) (by decide) (by decide)) (g := (mkF m 5 #[.val (.double d0), .second] [(.double d0), (.ref b1), (.ref b1)])) rfl (by rw [hml]; rfl) (Steps.refl _) (a := b1) (argsL := [(.double d0)]) (rest := [(.ref b1)]) (lenOf pd4_0 rfl) rfl (by show 2 * 0 + _ ≤ _; exact Nat.le_of_eq rfl) (hb hby d4_5) (fun _ _ => ⟨rfl, e1, (by decide : 1 + 0 ≤ _), (by decide : 2 + 0 ≤ _)⟩)
  dsimp only [Pt.U, Pt.locs, Pt.cells, Pt.slots] at X2 l2 y2 z2 st2 hQ2
  subst l2 y2 z2
  obtain ⟨rfl, N2q, K2c, Eq2, Fp2, Fv2⟩ := hQ2
  have N2 := Fr.app N0 N2q
  refine Ends.go (fun _ k => st2.trans k) ?_
  obtain ⟨h2, e2⟩ : ∃ z, T2.heap = z := ⟨_, rfl⟩
  rw [e2] at K2c Eq2 Fp2 Fv2
  have K2 := K1.trans K2c (allS (Or.inr sz_b1) all0)
  have O2 := O1.keep K2c (allS g_b1 all0)
  show Ends p e below s T2 (mkF m 8 #[.val (.double d0), .second] [(.ref b1)]) _ _ _
  refine Ends.ret X2 hx Bd.notSynchronized (t := (.object "java/util/OptionalDouble")) Bd.returns rfl (Or.inr (Or.inr (Or.inr (Or.inr ⟨rfl, rfl, rfl⟩)))) (hb hby d4_8) (by decide) (by decide) ?_
  rw [e2]
  exact ⟨b1, rfl, N2, sz_b1, K2, Eq2, Fp2, Fv2⟩
theorem d2_0 : decode jdk_2648_method_2_code 0 = .ok (.getstatic 21, 3) := by decide +kernel
theorem d2_3 : decode jdk_2648_method_2_code 3 = .ok (.areturn, 1) := by decide +kernel
theorem pn2 : plainName "java/util/OptionalDouble" = true := by first | (simp [plainName, overriddenIn]; done) | decide +kernel
theorem ef2 (m : MethodId)  : entryFrame m #[] 0 = mkF m 0 #[] [] := by first | (simp [entryFrame, mkF, argsToLocals, Value.category]; done) | rfl
set_option maxRecDepth 65536 in
set_option maxHeartbeats 40000000 in
theorem rmE (l : Launch) (Z : State) (a0 : Array Value) (hw : ∀ d ∈ tables_1, d.before a0 Z = true) (ws : List Jvm.Cond) (n0 : Nat) (h0 : Heap) (O0 : Old Z n0 h0)  (w_EMPTY : Addr) (FF : Facts Z w_EMPTY) :
    Meets1 l (⟨"java/util/OptionalDouble", "empty", "()Ljava/util/OptionalDouble;"⟩ : MethodName) jdk_2648_method_2_code 0 (some (.object "java/util/OptionalDouble")) ws ({ frames := 0, cells := 0, slots := 0, locals := 0 } : Room) #[] Z h0 (fun v h L => v = some (.ref w_EMPTY) ∧ Fr n0 L ∧ h = h0) := by
  refine MetFree.of_bodySF (plainFor_of_name pn2) hisR ?_
  intro p e s m args below meth c s₁ Bd hml0 hP hK
  obtain ⟨rfl, hZ, hh⟩ := hP
  have hx := Bd.exec
  have hby := Bd.bytes
  have hml : c.maxLocals = 0 := hml0
  have hown : s.vm.findClass "java/util/OptionalDouble" = some m.cls := findClass_of_methodNamed Bd.named
  have hnm := (name_of_methodNamed Bd.named Bd.method).1
  have X0 : Stand p l e ({ frames := 0, cells := 0, slots := 0, locals := 0 } : Room) s m #[] below meth c s₁ [] 0 0 := Stand.of_body Bd
  have e0 : s₁.heap = h0 := by rw [← hh, Bd.state]; rfl
  have N0 := Fr.nil n0
  have Z0 := own_old_le O0
  show Ends p e below s s₁ (entryFrame m #[] 0) ({ frames := 0, cells := 0, slots := 0, locals := 0 } : Room).cells ({ frames := 0, cells := 0, slots := 0, locals := 0 } : Room).slots (fun v h L => v = some (.ref w_EMPTY) ∧ Fr n0 L ∧ h = h0)
  refine Ends.go (fun _ k => castTop (ef2 m) k) ?_
  have K0 := Keep.refl h0 []
  have FF0 := FF
  obtain ⟨S_EMPTY, E_EMPTY, F_isPresent_EMPTY⟩ := FF
  show Ends p e below s s₁ (mkF m 0 #[] []) _ _ _
  obtain ⟨T1, X1, e1, st1⟩ := getS2 X0 hx hZ hown (host := "") (Or.inl (ow hw 10 rfl)) Via.refl e0 (S_EMPTY.ext O0.2) (g := (mkF m 0 #[] [])) rfl (hb hby d2_0)
  refine Ends.go st1 ?_
  show Ends p e below s T1 (mkF m 3 #[] [(.ref w_EMPTY)]) _ _ _
  refine Ends.ret X1 hx Bd.notSynchronized (t := (.object "java/util/OptionalDouble")) Bd.returns rfl (Or.inr (Or.inr (Or.inr (Or.inr ⟨rfl, rfl, rfl⟩)))) (hb hby d2_3) (by decide) (by decide) ?_
  exact ⟨rfl, N0, e1⟩
theorem da1_0 : decode prog_36_method_3_code 0 = .ok (.iload_n 0, 1) := by decide +kernel
theorem da1_1 : decode prog_36_method_3_code 1 = .ok (.iload_n 1, 1) := by decide +kernel
theorem da1_2 : decode prog_36_method_3_code 2 = .ok (.isub, 1) := by decide +kernel
theorem da1_3 : decode prog_36_method_3_code 3 = .ok (.istore_n 3, 1) := by decide +kernel
theorem da1_4 : decode prog_36_method_3_code 4 = .ok (.iload_n 3, 1) := by decide +kernel
theorem da1_5 : decode prog_36_method_3_code 5 = .ok (.ifCond .le 14, 3) := by decide +kernel
theorem da1_8 : decode prog_36_method_3_code 8 = .ok (.iload_n 2, 1) := by decide +kernel
theorem da1_9 : decode prog_36_method_3_code 9 = .ok (.i2d, 1) := by decide +kernel
theorem da1_10 : decode prog_36_method_3_code 10 = .ok (.iload_n 3, 1) := by decide +kernel
theorem da1_11 : decode prog_36_method_3_code 11 = .ok (.i2d, 1) := by decide +kernel
theorem da1_12 : decode prog_36_method_3_code 12 = .ok (.ddiv, 1) := by decide +kernel
theorem da1_13 : decode prog_36_method_3_code 13 = .ok (.invokestatic 27, 3) := by decide +kernel
theorem da1_16 : decode prog_36_method_3_code 16 = .ok (.goto 6, 3) := by decide +kernel
theorem da1_22 : decode prog_36_method_3_code 22 = .ok (.areturn, 1) := by decide +kernel
theorem pna1 : plainName "com/example/even_keel/evenkeel/ZoneSnapshot" = true := by first | (simp [plainName, overriddenIn]; done) | decide +kernel
theorem pda1_0 : parseMethodDescriptor "(D)Ljava/util/OptionalDouble;" = some ⟨[.double], some (.object "java/util/OptionalDouble")⟩ := by decide +kernel
theorem efa1 (m : MethodId) (p0 : Int32) (p1 : Int32) (p2 : Int32) : entryFrame m #[(.int p0), (.int p1), (.int p2)] 4 = mkF m 0 #[.val (.int p0), .val (.int p1), .val (.int p2), .unset] [] := by first | (simp [entryFrame, mkF, argsToLocals, Value.category]; done) | rfl
set_option maxRecDepth 65536 in
set_option maxHeartbeats 40000000 in
theorem rmS1 (l : Launch) (Z : State) (a0 : Array Value) (hw : ∀ d ∈ tables_1, d.before a0 Z = true) (ws : List Jvm.Cond) (n0 : Nat) (h0 : Heap) (O0 : Old Z n0 h0) (p0 : Int32) (p1 : Int32) (p2 : Int32) (hpos : (0 : Int32) < (p0 - p1)) :
    Meets1 l (⟨"com/example/even_keel/evenkeel/ZoneSnapshot", "loadPerServer", "(III)Ljava/util/OptionalDouble;"⟩ : MethodName) prog_36_method_3_code 4 (some (.object "java/util/OptionalDouble")) ws ({ frames := 3, cells := 1, slots := 2, locals := 40 } : Room) #[(.int p0), (.int p1), (.int p2)] Z h0 (fun v h L => ∃ b : Addr, v = some (.ref b) ∧ Fr n0 L ∧ h0.size ≤ b ∧ Keep h0 h [] ∧ Exa Z h b "java/util/OptionalDouble" ∧ Fld Z h b "java/util/OptionalDouble" "isPresent" "Z" (.int (1 : Int32)) ∧ Fld Z h b "java/util/OptionalDouble" "value" "D" (.double (FP.ddiv (FP.i2d p2) (FP.i2d (p0 - p1))))) := by
  refine MetFree.of_bodySF (plainFor_of_name pna1) hisR ?_
  intro p e s m args below meth c s₁ Bd hml0 hP hK
  obtain ⟨rfl, hZ, hh⟩ := hP
  have hx := Bd.exec
  have hby := Bd.bytes
  have hml : c.maxLocals = 4 := hml0
  have hown : s.vm.findClass "com/example/even_keel/evenkeel/ZoneSnapshot" = some m.cls := findClass_of_methodNamed Bd.named
  have hnm := (name_of_methodNamed Bd.named Bd.method).1
  have X0 : Stand p l e ({ frames := 3, cells := 1, slots := 2, locals := 40 } : Room) s m #[(.int p0), (.int p1), (.int p2)] below meth c s₁ [] 0 0 := Stand.of_body Bd
  have e0 : s₁.heap = h0 := by rw [← hh, Bd.state]; rfl
  have N0 := Fr.nil n0
  have Z0 := own_old_le O0
  show Ends p e below s s₁ (entryFrame m #[(.int p0), (.int p1), (.int p2)] 4) ({ frames := 3, cells := 1, slots := 2, locals := 40 } : Room).cells ({ frames := 3, cells := 1, slots := 2, locals := 40 } : Room).slots (fun v h L => ∃ b : Addr, v = some (.ref b) ∧ Fr n0 L ∧ h0.size ≤ b ∧ Keep h0 h [] ∧ Exa Z h b "java/util/OptionalDouble" ∧ Fld Z h b "java/util/OptionalDouble" "isPresent" "Z" (.int (1 : Int32)) ∧ Fld Z h b "java/util/OptionalDouble" "value" "D" (.double (FP.ddiv (FP.i2d p2) (FP.i2d (p0 - p1)))))
  refine Ends.go (fun _ k => castTop (efa1 m p0 p1 p2) k) ?_
  have K0 := Keep.refl h0 []
  show Ends p e below s s₁ (mkF m 0 #[.val (.int p0), .val (.int p1), .val (.int p2), .unset] []) _ _ _
  refine Ends.go (fun _ k => XS.iloadN X0.here hx rfl (hb hby da1_0) rfl k) ?_
  show Ends p e below s s₁ (mkF m 1 #[.val (.int p0), .val (.int p1), .val (.int p2), .unset] [(.int p0)]) _ _ _
  refine Ends.go (fun _ k => XS.iloadN X0.here hx rfl (hb hby da1_1) rfl k) ?_
  show Ends p e below s s₁ (mkF m 2 #[.val (.int p0), .val (.int p1), .val (.int p2), .unset] [(.int p1), (.int p0)]) _ _ _
  refine Ends.go (fun _ k => XS.isub X0.here hx rfl (hb hby da1_2) rfl k) ?_
  show Ends p e below s s₁ (mkF m 3 #[.val (.int p0), .val (.int p1), .val (.int p2), .unset] [(.int (p0 - p1))]) _ _ _
  refine Ends.go (fun _ k => XS.istoreN X0.here hx rfl (hb hby da1_3) rfl (l' := #[.val (.int p0), .val (.int p1), .val (.int p2), .val (.int (p0 - p1))]) rfl k) ?_
  show Ends p e below s s₁ (mkF m 4 #[.val (.int p0), .val (.int p1), .val (.int p2), .val (.int (p0 - p1))] []) _ _ _
  refine Ends.go (fun _ k => XS.iloadN X0.here hx rfl (hb hby da1_4) rfl k) ?_
  show Ends p e below s s₁ (mkF m 5 #[.val (.int p0), .val (.int p1), .val (.int p2), .val (.int (p0 - p1))] [(.int (p0 - p1))]) _ _ _
  refine Ends.go (fun _ k => XS.ifNo X0.here hx rfl (hb hby da1_5) rfl ((if0 _ _).trans (tlt (hpos : (0 : Int32) < (p0 - p1))).2.2.2) k) ?_
  show Ends p e below s s₁ (mkF m 8 #[.val (.int p0), .val (.int p1), .val (.int p2), .val (.int (p0 - p1))] []) _ _ _
  refine Ends.go (fun _ k => XS.iloadN X0.here hx rfl (hb hby da1_8) rfl k) ?_
  show Ends p e below s s₁ (mkF m 9 #[.val (.int p0), .val (.int p1), .val (.int p2), .val (.int (p0 - p1))] [(.int p2)]) _ _ _
  refine Ends.go (fun _ k => XS.i2dS X0.here hx rfl (hb hby da1_9) rfl rfl k) ?_
  show Ends p e below s s₁ (mkF m 10 #[.val (.int p0), .val (.int p1), .val (.int p2), .val (.int (p0 - p1))] [(.double (FP.i2d p2))]) _ _ _
  refine Ends.go (fun _ k => XS.iloadN X0.here hx rfl (hb hby da1_10) rfl k) ?_
  show Ends p e below s s₁ (mkF m 11 #[.val (.int p0), .val (.int p1), .val (.int p2), .val (.int (p0 - p1))] [(.int (p0 - p1)), (.double (FP.i2d p2))]) _ _ _
  refine Ends.go (fun _ k => XS.i2dS X0.here hx rfl (hb hby da1_11) rfl rfl k) ?_
  show Ends p e below s s₁ (mkF m 12 #[.val (.int p0), .val (.int p1), .val (.int p2), .val (.int (p0 - p1))] [(.double (FP.i2d (p0 - p1))), (.double (FP.i2d p2))]) _ _ _
  refine Ends.go (fun _ k => XS.ddivS X0.here hx rfl (hb hby da1_12) rfl (own_nn p2 hpos) rfl k) ?_
  show Ends p e below s s₁ (mkF m 13 #[.val (.int p0), .val (.int p1), .val (.int p2), .val (.int (p0 - p1))] [(.double (FP.ddiv (FP.i2d p2) (FP.i2d (p0 - p1))))]) _ _ _
  obtain ⟨_, _, ⟨T1, L1, k1, n1⟩, -, X1, ⟨Lc1, hQ1, l1, y1, z1⟩, st1⟩ := Jvm.LawKit.callS X0 hx (y := (⟨"java/util/OptionalDouble", "of", "(D)Ljava/util/OptionalDouble;"⟩ : MethodName)) hown (mvT hZ (ow hw 18 rfl)) (mvT hZ (ow hw 19 rfl)) (mvT hZ (ow hw 8 rfl)) (mvT hZ (ow hw 20 rfl)) (by decide) (own_backOf (W := 0) (rmO l Z a0 hw [] n0 h0 O0 (FP.ddiv (FP.i2d p2) (FP.i2d (p0 - p1)))) hZ (ow hw 20 rfl) (ow hw 8 rfl) (by decide) (by decide)) (g := (mkF m 13 #[.val (.int p0), .val (.int p1), .val (.int p2), .val (.int (p0 - p1))] [(.double (FP.ddiv (FP.i2d p2) (FP.i2d (p0 - p1))))])) rfl (by rw [hml]; rfl) (argsL := [(.double (FP.ddiv (FP.i2d p2) (FP.i2d (p0 - p1))))]) (rest := []) (lenOf pda1_0 rfl) rfl (by show 2 * 0 + _ ≤ _; exact Nat.le_of_eq rfl) (hb hby da1_13) (fun _ _ => ⟨rfl, e0, (by decide : 0 + 1 ≤ _), (by decide : 0 + 2 ≤ _)⟩)
  dsimp only [Pt.U, Pt.locs, Pt.cells, Pt.slots] at X1 l1 y1 z1 st1 hQ1
  subst l1 y1 z1
  obtain ⟨b1, rfl, N1q, hb1, K1c, Eq1, Fp1, Fv1⟩ := hQ1
  have N1 := Fr.app N0 N1q
  refine Ends.go st1 ?_
  have g_b1 : n0 ≤ b1 := Nat.le_trans (own_old_le O0) hb1
  have sz_b1 : h0.size ≤ b1 := Nat.le_trans K0.1 hb1
  obtain ⟨h1, e1⟩ : ∃ z, T1.heap = z := ⟨_, rfl⟩
  rw [e1] at K1c Eq1 Fp1 Fv1
  have K1 := K0.trans K1c all0
  have O1 := O0.keep K1c all0
  show Ends p e below s T1 (mkF m 16 #[.val (.int p0), .val (.int p1), .val (.int p2), .val (.int (p0 - p1))] [(.ref b1)]) _ _ _
  refine Ends.go (fun _ k => XS.goto X1.here hx rfl (pc0 := 16) (pc' := 22) rfl (hb hby da1_16) (by decide) (by decide) k) ?_
  show Ends p e below s T1 (mkF m 22 #[.val (.int p0), .val (.int p1), .val (.int p2), .val (.int (p0 - p1))] [(.ref b1)]) _ _ _
  refine Ends.ret X1 hx Bd.notSynchronized (t := (.object "java/util/OptionalDouble")) Bd.returns rfl (Or.inr (Or.inr (Or.inr (Or.inr ⟨rfl, rfl, rfl⟩)))) (hb hby da1_22) (by decide) (by decide) ?_
  rw [e1]
  exact ⟨b1, rfl, N1, sz_b1, K1, Eq1, Fp1, Fv1⟩
theorem dz1_0 : decode prog_36_method_3_code 0 = .ok (.iload_n 0, 1) := by decide +kernel
theorem dz1_1 : decode prog_36_method_3_code 1 = .ok (.iload_n 1, 1) := by decide +kernel
theorem dz1_2 : decode prog_36_method_3_code 2 = .ok (.isub, 1) := by decide +kernel
theorem dz1_3 : decode prog_36_method_3_code 3 = .ok (.istore_n 3, 1) := by decide +kernel
theorem dz1_4 : decode prog_36_method_3_code 4 = .ok (.iload_n 3, 1) := by decide +kernel
theorem dz1_5 : decode prog_36_method_3_code 5 = .ok (.ifCond .le 14, 3) := by decide +kernel
theorem dz1_19 : decode prog_36_method_3_code 19 = .ok (.invokestatic 33, 3) := by decide +kernel
theorem dz1_22 : decode prog_36_method_3_code 22 = .ok (.areturn, 1) := by decide +kernel
theorem pnz1 : plainName "com/example/even_keel/evenkeel/ZoneSnapshot" = true := by first | (simp [plainName, overriddenIn]; done) | decide +kernel
theorem pdz1_0 : parseMethodDescriptor "()Ljava/util/OptionalDouble;" = some ⟨[], some (.object "java/util/OptionalDouble")⟩ := by decide +kernel
theorem efz1 (m : MethodId) (p0 : Int32) (p1 : Int32) (p2 : Int32) : entryFrame m #[(.int p0), (.int p1), (.int p2)] 4 = mkF m 0 #[.val (.int p0), .val (.int p1), .val (.int p2), .unset] [] := by first | (simp [entryFrame, mkF, argsToLocals, Value.category]; done) | rfl
set_option maxRecDepth 65536 in
set_option maxHeartbeats 40000000 in
theorem rmS0 (l : Launch) (Z : State) (a0 : Array Value) (hw : ∀ d ∈ tables_1, d.before a0 Z = true) (ws : List Jvm.Cond) (n0 : Nat) (h0 : Heap) (O0 : Old Z n0 h0) (p0 : Int32) (p1 : Int32) (p2 : Int32) (w_EMPTY : Addr) (FF : Facts Z w_EMPTY) (hneg : ¬ (0 : Int32) < (p0 - p1)) :
    Meets1 l (⟨"com/example/even_keel/evenkeel/ZoneSnapshot", "loadPerServer", "(III)Ljava/util/OptionalDouble;"⟩ : MethodName) prog_36_method_3_code 4 (some (.object "java/util/OptionalDouble")) ws ({ frames := 1, cells := 0, slots := 0, locals := 11 } : Room) #[(.int p0), (.int p1), (.int p2)] Z h0 (fun v h L => v = some (.ref w_EMPTY) ∧ Fr n0 L ∧ h = h0) := by
  refine MetFree.of_bodySF (plainFor_of_name pnz1) hisR ?_
  intro p e s m args below meth c s₁ Bd hml0 hP hK
  obtain ⟨rfl, hZ, hh⟩ := hP
  have hx := Bd.exec
  have hby := Bd.bytes
  have hml : c.maxLocals = 4 := hml0
  have hown : s.vm.findClass "com/example/even_keel/evenkeel/ZoneSnapshot" = some m.cls := findClass_of_methodNamed Bd.named
  have hnm := (name_of_methodNamed Bd.named Bd.method).1
  have X0 : Stand p l e ({ frames := 1, cells := 0, slots := 0, locals := 11 } : Room) s m #[(.int p0), (.int p1), (.int p2)] below meth c s₁ [] 0 0 := Stand.of_body Bd
  have e0 : s₁.heap = h0 := by rw [← hh, Bd.state]; rfl
  have N0 := Fr.nil n0
  have Z0 := own_old_le O0
  show Ends p e below s s₁ (entryFrame m #[(.int p0), (.int p1), (.int p2)] 4) ({ frames := 1, cells := 0, slots := 0, locals := 11 } : Room).cells ({ frames := 1, cells := 0, slots := 0, locals := 11 } : Room).slots (fun v h L => v = some (.ref w_EMPTY) ∧ Fr n0 L ∧ h = h0)
  refine Ends.go (fun _ k => castTop (efz1 m p0 p1 p2) k) ?_
  have K0 := Keep.refl h0 []
  have FF0 := FF
  obtain ⟨S_EMPTY, E_EMPTY, F_isPresent_EMPTY⟩ := FF
  show Ends p e below s s₁ (mkF m 0 #[.val (.int p0), .val (.int p1), .val (.int p2), .unset] []) _ _ _
  refine Ends.go (fun _ k => XS.iloadN X0.here hx rfl (hb hby dz1_0) rfl k) ?_
  show Ends p e below s s₁ (mkF m 1 #[.val (.int p0), .val (.int p1), .val (.int p2), .unset] [(.int p0)]) _ _ _
  refine Ends.go (fun _ k => XS.iloadN X0.here hx rfl (hb hby dz1_1) rfl k) ?_
  show Ends p e below s s₁ (mkF m 2 #[.val (.int p0), .val (.int p1), .val (.int p2), .unset] [(.int p1), (.int p0)]) _ _ _
  refine Ends.go (fun _ k => XS.isub X0.here hx rfl (hb hby dz1_2) rfl k) ?_
  show Ends p e below s s₁ (mkF m 3 #[.val (.int p0), .val (.int p1), .val (.int p2), .unset] [(.int (p0 - p1))]) _ _ _
  refine Ends.go (fun _ k => XS.istoreN X0.here hx rfl (hb hby dz1_3) rfl (l' := #[.val (.int p0), .val (.int p1), .val (.int p2), .val (.int (p0 - p1))]) rfl k) ?_
  show Ends p e below s s₁ (mkF m 4 #[.val (.int p0), .val (.int p1), .val (.int p2), .val (.int (p0 - p1))] []) _ _ _
  refine Ends.go (fun _ k => XS.iloadN X0.here hx rfl (hb hby dz1_4) rfl k) ?_
  show Ends p e below s s₁ (mkF m 5 #[.val (.int p0), .val (.int p1), .val (.int p2), .val (.int (p0 - p1))] [(.int (p0 - p1))]) _ _ _
  refine Ends.go (fun _ k => XS.ifYes X0.here hx rfl (pc0 := 5) (pc' := 19) rfl (hb hby dz1_5) rfl ((if0 _ _).trans (flt (hneg : ¬ ((0 : Int32) < (p0 - p1)))).2.2.2) (by decide) (by decide) k) ?_
  show Ends p e below s s₁ (mkF m 19 #[.val (.int p0), .val (.int p1), .val (.int p2), .val (.int (p0 - p1))] []) _ _ _
  obtain ⟨_, _, ⟨T1, L1, k1, n1⟩, -, X1, ⟨Lc1, hQ1, l1, y1, z1⟩, st1⟩ := Jvm.LawKit.callS X0 hx (y := (⟨"java/util/OptionalDouble", "empty", "()Ljava/util/OptionalDouble;"⟩ : MethodName)) hown (mvT hZ (ow hw 6 rfl)) (mvT hZ (ow hw 7 rfl)) (mvT hZ (ow hw 8 rfl)) (mvT hZ (ow hw 9 rfl)) (by decide) (own_backOf (W := 0) (rmE l Z a0 hw [] n0 h0 O0  w_EMPTY FF0) hZ (ow hw 9 rfl) (ow hw 8 rfl) (by decide) (by decide)) (g := (mkF m 19 #[.val (.int p0), .val (.int p1), .val (.int p2), .val (.int (p0 - p1))] [])) rfl (by rw [hml]; rfl) (argsL := []) (rest := []) (lenOf pdz1_0 rfl) rfl (by show 2 * 0 + _ ≤ _; exact Nat.le_of_eq rfl) (hb hby dz1_19) (fun _ _ => ⟨rfl, e0, (by decide : 0 + 0 ≤ _), (by decide : 0 + 0 ≤ _)⟩)
  dsimp only [Pt.U, Pt.locs, Pt.cells, Pt.slots] at X1 l1 y1 z1 st1 hQ1
  subst l1 y1 z1
  obtain ⟨rfl, N1q, e1q⟩ := hQ1
  have N1 := Fr.app N0 N1q
  refine Ends.go st1 ?_
  show Ends p e below s T1 (mkF m 22 #[.val (.int p0), .val (.int p1), .val (.int p2), .val (.int (p0 - p1))] [(.ref w_EMPTY)]) _ _ _
  refine Ends.ret X1 hx Bd.notSynchronized (t := (.object "java/util/OptionalDouble")) Bd.returns rfl (Or.inr (Or.inr (Or.inr (Or.inr ⟨rfl, rfl, rfl⟩)))) (hb hby dz1_22) (by decide) (by decide) ?_
  exact ⟨rfl, N1, e1q⟩
theorem d3_0 : decode jdk_2648_method_6_code 0 = .ok (.aload_n 0, 1) := by decide +kernel
theorem d3_1 : decode jdk_2648_method_6_code 1 = .ok (.getfield 7, 3) := by decide +kernel
theorem d3_4 : decode jdk_2648_method_6_code 4 = .ok (.ireturn, 1) := by decide +kernel
theorem pn3 : plainName "java/util/OptionalDouble" = true := by first | (simp [plainName, overriddenIn]; done) | decide +kernel
theorem ef3 (m : MethodId) (o0 : Addr) : entryFrame m #[(.ref o0)] 1 = mkF m 0 #[.val (.ref o0)] [] := by first | (simp [entryFrame, mkF, argsToLocals, Value.category]; done) | rfl
set_option maxRecDepth 65536 in
set_option maxHeartbeats 40000000 in
theorem rmQ (l : Launch) (Z : State) (a0 : Array Value) (hw : ∀ d ∈ tables_1, d.before a0 Z = true) (ws : List Jvm.Cond) (n0 : Nat) (h0 : Heap) (O0 : Old Z n0 h0) (o0 : Addr) (t r : Int32) (F0 : Fld Z h0 o0 "java/util/OptionalDouble" "isPresent" "Z" (.int t)) (ht : nar .boolean t = r) :
    Meets1 l (⟨"java/util/OptionalDouble", "isPresent", "()Z"⟩ : MethodName) jdk_2648_method_6_code 1 (some .boolean) ws ({ frames := 0, cells := 0, slots := 0, locals := 0 } : Room) #[(.ref o0)] Z h0 (fun v h L => v = some (.int r) ∧ Fr n0 L ∧ h = h0) := by
  refine MetFree.of_bodySF (plainFor_of_name pn3) hisR ?_
  intro p e s m args below meth c s₁ Bd hml0 hP hK
  obtain ⟨rfl, hZ, hh⟩ := hP
  have hx := Bd.exec
  have hby := Bd.bytes
  have hml : c.maxLocals = 1 := hml0
  have hown : s.vm.findClass "java/util/OptionalDouble" = some m.cls := findClass_of_methodNamed Bd.named
  have hnm := (name_of_methodNamed Bd.named Bd.method).1
  have X0 : Stand p l e ({ frames := 0, cells := 0, slots := 0, locals := 0 } : Room) s m #[(.ref o0)] below meth c s₁ [] 0 0 := Stand.of_body Bd
  have e0 : s₁.heap = h0 := by rw [← hh, Bd.state]; rfl
  have N0 := Fr.nil n0
  have Z0 := own_old_le O0
  show Ends p e below s s₁ (entryFrame m #[(.ref o0)] 1) ({ frames := 0, cells := 0, slots := 0, locals := 0 } : Room).cells ({ frames := 0, cells := 0, slots := 0, locals := 0 } : Room).slots (fun v h L => v = some (.int r) ∧ Fr n0 L ∧ h = h0)
  refine Ends.go (fun _ k => castTop (ef3 m o0) k) ?_
  have K0 := Keep.refl h0 []
  show Ends p e below s s₁ (mkF m 0 #[.val (.ref o0)] []) _ _ _
  refine Ends.go (fun _ k => XS.aloadN X0.here hx rfl (hb hby d3_0) rfl rfl k) ?_
  show Ends p e below s s₁ (mkF m 1 #[.val (.ref o0)] [(.ref o0)]) _ _ _
  obtain ⟨T1, X1, e1, st1⟩ := getF X0 hx hZ hown (host := "") (Or.inl (ow hw 16 rfl)) Via.refl e0 F0 (g := (mkF m 1 #[.val (.ref o0)] [(.ref o0)])) rfl rfl (hb hby d3_1)
  refine Ends.go st1 ?_
  show Ends p e below s T1 (mkF m 4 #[.val (.ref o0)] [(.int t)]) _ _ _
  refine Ends.retZ X1 hx Bd.notSynchronized (t := .boolean) Bd.returns (by simp) (hb hby d3_4) (by decide) (by decide) ?_
  exact ⟨by rw [ht], N0, e1⟩
theorem d7_0 : decode jdk_2648_method_5_code 0 = .ok (.aload_n 0, 1) := by decide +kernel
theorem d7_1 : decode jdk_2648_method_5_code 1 = .ok (.getfield 7, 3) := by decide +kernel
theorem d7_4 : decode jdk_2648_method_5_code 4 = .ok (.ifCond .ne 13, 3) := by decide +kernel
theorem d7_17 : decode jdk_2648_method_5_code 17 = .ok (.aload_n 0, 1) := by decide +kernel
theorem d7_18 : decode jdk_2648_method_5_code 18 = .ok (.getfield 17, 3) := by decide +kernel
theorem d7_21 : decode jdk_2648_method_5_code 21 = .ok (.dreturn, 1) := by decide +kernel
theorem pn7 : plainName "java/util/OptionalDouble" = true := by first | (simp [plainName, overriddenIn]; done) | decide +kernel
theorem ef7 (m : MethodId) (o0 : Addr) : entryFrame m #[(.ref o0)] 1 = mkF m 0 #[.val (.ref o0)] [] := by first | (simp [entryFrame, mkF, argsToLocals, Value.category]; done) | rfl
set_option maxRecDepth 65536 in
set_option maxHeartbeats 40000000 in
theorem rmG (l : Launch) (Z : State) (a0 : Array Value) (hw : ∀ d ∈ tables_1, d.before a0 Z = true) (ws : List Jvm.Cond) (n0 : Nat) (h0 : Heap) (O0 : Old Z n0 h0) (o0 : Addr) (d : UInt64) (F0 : Fld Z h0 o0 "java/util/OptionalDouble" "isPresent" "Z" (.int (1 : Int32))) (F1 : Fld Z h0 o0 "java/util/OptionalDouble" "value" "D" (.double d)) :
    Meets1 l (⟨"java/util/OptionalDouble", "getAsDouble", "()D"⟩ : MethodName) jdk_2648_method_5_code 1 (some .double) ws ({ frames := 0, cells := 0, slots := 0, locals := 0 } : Room) #[(.ref o0)] Z h0 (fun v h L => v = some (.double d) ∧ Fr n0 L ∧ h = h0) := by
  refine MetFree.of_bodySF (plainFor_of_name pn7) hisR ?_
  intro p e s m args below meth c s₁ Bd hml0 hP hK
  obtain ⟨rfl, hZ, hh⟩ := hP
  have hx := Bd.exec
  have hby := Bd.bytes
  have hml : c.maxLocals = 1 := hml0
  have hown : s.vm.findClass "java/util/OptionalDouble" = some m.cls := findClass_of_methodNamed Bd.named
  have hnm := (name_of_methodNamed Bd.named Bd.method).1
  have X0 : Stand p l e ({ frames := 0, cells := 0, slots := 0, locals := 0 } : Room) s m #[(.ref o0)] below meth c s₁ [] 0 0 := Stand.of_body Bd
  have e0 : s₁.heap = h0 := by rw [← hh, Bd.state]; rfl
  have N0 := Fr.nil n0
  have Z0 := own_old_le O0
  show Ends p e below s s₁ (entryFrame m #[(.ref o0)] 1) ({ frames := 0, cells := 0, slots := 0, locals := 0 } : Room).cells ({ frames := 0, cells := 0, slots := 0, locals := 0 } : Room).slots (fun v h L => v = some (.double d) ∧ Fr n0 L ∧ h = h0)
  refine Ends.go (fun _ k => castTop (ef7 m o0) k) ?_
  have K0 := Keep.refl h0 []
  show Ends p e below s s₁ (mkF m 0 #[.val (.ref o0)] []) _ _ _
  refine Ends.go (fun _ k => XS.aloadN X0.here hx rfl (hb hby d7_0) rfl rfl k) ?_
  show Ends p e below s s₁ (mkF m 1 #[.val (.ref o0)] [(.ref o0)]) _ _ _
  obtain ⟨T1, X1, e1, st1⟩ := getF X0 hx hZ hown (host := "") (Or.inl (ow hw 16 rfl)) Via.refl e0 F0 (g := (mkF m 1 #[.val (.ref o0)] [(.ref o0)])) rfl rfl (hb hby d7_1)
  refine Ends.go st1 ?_
  show Ends p e below s T1 (mkF m 4 #[.val (.ref o0)] [(.int (1 : Int32))]) _ _ _
  refine Ends.go (fun _ k => XS.ifYes X1.here hx rfl (pc0 := 4) (pc' := 17) rfl (hb hby d7_4) rfl ((if0 _ _).trans (feq (by decide : ¬ ((1 : Int32) = (0 : Int32)))).2) (by decide) (by decide) k) ?_
  show Ends p e below s T1 (mkF m 17 #[.val (.ref o0)] []) _ _ _
  refine Ends.go (fun _ k => XS.aloadN X1.here hx rfl (hb hby d7_17) rfl rfl k) ?_
  show Ends p e below s T1 (mkF m 18 #[.val (.ref o0)] [(.ref o0)]) _ _ _
  obtain ⟨T2, X2, e2, st2⟩ := getF X1 hx hZ hown (host := "") (Or.inl (ow hw 30 rfl)) Via.refl e1 F1 (g := (mkF m 18 #[.val (.ref o0)] [(.ref o0)])) rfl rfl (hb hby d7_18)
  refine Ends.go st2 ?_
  show Ends p e below s T2 (mkF m 21 #[.val (.ref o0)] [(.double d)]) _ _ _
  refine Ends.ret X2 hx Bd.notSynchronized (t := .double) Bd.returns rfl (Or.inr (Or.inr (Or.inl ⟨rfl, rfl, _, rfl⟩))) (hb hby d7_21) (by decide) (by decide) ?_
  exact ⟨rfl, N0, e2⟩
theorem pn0 : plainName "com/example/even_keel/evenkeel/ZoneSnapshotLoadPerServerPinLaw" = true := by first | (simp [plainName, overriddenIn]; done) | decide +kernel
theorem pd0_0 : parseMethodDescriptor "(III)Ljava/util/OptionalDouble;" = some ⟨[.int, .int, .int], some (.object "java/util/OptionalDouble")⟩ := by decide +kernel
theorem pd0_1 : parseMethodDescriptor "()Z" = some ⟨[], some .boolean⟩ := by decide +kernel
theorem pd0_2 : parseMethodDescriptor "()D" = some ⟨[], some .double⟩ := by decide +kernel
theorem ef0 (m : MethodId) (p0 : Int32) (p1 : Int32) (p2 : Int32) : entryFrame m #[(.int p0), (.int p1), (.int p2)] maxLocals = mkF m 0 #[.val (.int p0), .val (.int p1), .val (.int p2), .unset, .unset, .unset, .unset, .unset, .unset, .unset, .unset, .unset, .unset, .unset, .unset, .unset, .unset, .unset] [] := by first | (simp [entryFrame, mkF, argsToLocals, Value.category, maxLocals]; done) | rfl
set_option maxRecDepth 65536 in
set_option maxHeartbeats 40000000 in
theorem rm0 (l : Launch) (Z : State) (a0 : Array Value) (hw : ∀ d ∈ tables_1, d.before a0 Z = true) (ws : List Jvm.Cond) (n0 : Nat) (h0 : Heap) (O0 : Old Z n0 h0) (p0 : Int32) (p1 : Int32) (p2 : Int32) (w_EMPTY : Addr) (FF : Facts Z w_EMPTY) :
    Meets1 l x code maxLocals ret ws room_1 #[(.int p0), (.int p1), (.int p2)] Z h0 (fun v h L => v = some (.int (1 : Int32)) ∧ Fr n0 L) := by
  refine MetFree.of_bodySF (plainFor_of_name pn0) hisR ?_
  intro p e s m args below meth c s₁ Bd hml0 hP hK
  obtain ⟨rfl, hZ, hh⟩ := hP
  have hx := Bd.exec
  have hby := Bd.bytes
  have hml : c.maxLocals = 18 := hml0
  have hown : s.vm.findClass "com/example/even_keel/evenkeel/ZoneSnapshotLoadPerServerPinLaw" = some m.cls := findClass_of_methodNamed Bd.named
  have hnm := (name_of_methodNamed Bd.named Bd.method).1
  have X0 : Stand p l e room_1 s m #[(.int p0), (.int p1), (.int p2)] below meth c s₁ [] 0 0 := Stand.of_body Bd
  have e0 : s₁.heap = h0 := by rw [← hh, Bd.state]; rfl
  have N0 := Fr.nil n0
  have Z0 := own_old_le O0
  show Ends p e below s s₁ (entryFrame m #[(.int p0), (.int p1), (.int p2)] maxLocals) room_1.cells room_1.slots (fun v h L => v = some (.int (1 : Int32)) ∧ Fr n0 L)
  refine Ends.go (fun _ k => castTop (ef0 m p0 p1 p2) k) ?_
  have K0 := Keep.refl h0 []
  have FF0 := FF
  obtain ⟨S_EMPTY, E_EMPTY, F_isPresent_EMPTY⟩ := FF
  show Ends p e below s s₁ (mkF m 0 #[.val (.int p0), .val (.int p1), .val (.int p2), .unset, .unset, .unset, .unset, .unset, .unset, .unset, .unset, .unset, .unset, .unset, .unset, .unset, .unset, .unset] []) _ _ _
  refine Ends.go (fun _ k => XS.iloadN X0.here hx rfl (hb hby at_0) rfl k) ?_
  show Ends p e below s s₁ (mkF m 1 #[.val (.int p0), .val (.int p1), .val (.int p2), .unset, .unset, .unset, .unset, .unset, .unset, .unset, .unset, .unset, .unset, .unset, .unset, .unset, .unset, .unset] [(.int p0)]) _ _ _
  refine Ends.go (X0.ldcInt hx hown (mvT hZ (ow hw 0 rfl)) (g := (mkF m 1 #[.val (.int p0), .val (.int p1), .val (.int p2), .unset, .unset, .unset, .unset, .unset, .unset, .unset, .unset, .unset, .unset, .unset, .unset, .unset, .unset, .unset] [(.int p0)])) rfl (hb hby at_1)) ?_
  show Ends p e below s s₁ (mkF m 3 #[.val (.int p0), .val (.int p1), .val (.int p2), .unset, .unset, .unset, .unset, .unset, .unset, .unset, .unset, .unset, .unset, .unset, .unset, .unset, .unset, .unset] [(.int (2147483647 : Int32)), (.int p0)]) _ _ _
  refine Ends.go (fun _ k => XS.iand X0.here hx rfl (hb hby at_3) rfl k) ?_
  show Ends p e below s s₁ (mkF m 4 #[.val (.int p0), .val (.int p1), .val (.int p2), .unset, .unset, .unset, .unset, .unset, .unset, .unset, .unset, .unset, .unset, .unset, .unset, .unset, .unset, .unset] [(.int (p0 &&& (2147483647 : Int32)))]) _ _ _
  show Ends p e below s s₁ (mkF m 4 #[.val (.int p0), .val (.int p1), .val (.int p2), .unset, .unset, .unset, .unset, .unset, .unset, .unset, .unset, .unset, .unset, .unset, .unset, .unset, .unset, .unset] [(.int (p0 &&& (2147483647 : Int32)))]) _ _ _
  generalize hg_u : (p0 &&& (2147483647 : Int32)) = u
  have hu0 : 0 ≤ u.toInt := by rw [← hg_u]; exact (c_and p0 2147483647 (by decide)).1
  show Ends p e below s s₁ (mkF m 4 #[.val (.int p0), .val (.int p1), .val (.int p2), .unset, .unset, .unset, .unset, .unset, .unset, .unset, .unset, .unset, .unset, .unset, .unset, .unset, .unset, .unset] [(.int u)]) _ _ _
  refine Ends.go (fun _ k => XS.istoreN X0.here hx rfl (hb hby at_4) rfl (l' := #[.val (.int p0), .val (.int p1), .val (.int p2), .val (.int u), .unset, .unset, .unset, .unset, .unset, .unset, .unset, .unset, .unset, .unset, .unset, .unset, .unset, .unset]) rfl k) ?_
  show Ends p e below s s₁ (mkF m 5 #[.val (.int p0), .val (.int p1), .val (.int p2), .val (.int u), .unset, .unset, .unset, .unset, .unset, .unset, .unset, .unset, .unset, .unset, .unset, .unset, .unset, .unset] []) _ _ _
  refine Ends.go (fun _ k => XS.iloadN X0.here hx rfl (hb hby at_5) rfl k) ?_
  show Ends p e below s s₁ (mkF m 6 #[.val (.int p0), .val (.int p1), .val (.int p2), .val (.int u), .unset, .unset, .unset, .unset, .unset, .unset, .unset, .unset, .unset, .unset, .unset, .unset, .unset, .unset] [(.int p1)]) _ _ _
  refine Ends.go (fun _ k => XS.i2l X0.here hx rfl (hb hby at_6) rfl k) ?_
  show Ends p e below s s₁ (mkF m 7 #[.val (.int p0), .val (.int p1), .val (.int p2), .val (.int u), .unset, .unset, .unset, .unset, .unset, .unset, .unset, .unset, .unset, .unset, .unset, .unset, .unset, .unset] [(.long (p1.toInt64))]) _ _ _
  refine Ends.go (X0.ldc2Long hx hown (mvT hZ (ow hw 1 rfl)) (g := (mkF m 7 #[.val (.int p0), .val (.int p1), .val (.int p2), .val (.int u), .unset, .unset, .unset, .unset, .unset, .unset, .unset, .unset, .unset, .unset, .unset, .unset, .unset, .unset] [(.long (p1.toInt64))])) rfl (hb hby at_7)) ?_
  show Ends p e below s s₁ (mkF m 10 #[.val (.int p0), .val (.int p1), .val (.int p2), .val (.int u), .unset, .unset, .unset, .unset, .unset, .unset, .unset, .unset, .unset, .unset, .unset, .unset, .unset, .unset] [(.long (2147483647 : Int64)), (.long (p1.toInt64))]) _ _ _
  refine Ends.go (fun _ k => XS.land X0.here hx rfl (hb hby at_10) rfl k) ?_
  show Ends p e below s s₁ (mkF m 11 #[.val (.int p0), .val (.int p1), .val (.int p2), .val (.int u), .unset, .unset, .unset, .unset, .unset, .unset, .unset, .unset, .unset, .unset, .unset, .unset, .unset, .unset] [(.long ((p1.toInt64) &&& (2147483647 : Int64)))]) _ _ _
  refine Ends.go (fun _ k => XS.iloadN X0.here hx rfl (hb hby at_11) rfl k) ?_
  show Ends p e below s s₁ (mkF m 12 #[.val (.int p0), .val (.int p1), .val (.int p2), .val (.int u), .unset, .unset, .unset, .unset, .unset, .unset, .unset, .unset, .unset, .unset, .unset, .unset, .unset, .unset] [(.int u), (.long ((p1.toInt64) &&& (2147483647 : Int64)))]) _ _ _
  refine Ends.go (fun _ k => XS.i2l X0.here hx rfl (hb hby at_12) rfl k) ?_
  show Ends p e below s s₁ (mkF m 13 #[.val (.int p0), .val (.int p1), .val (.int p2), .val (.int u), .unset, .unset, .unset, .unset, .unset, .unset, .unset, .unset, .unset, .unset, .unset, .unset, .unset, .unset] [(.long (u.toInt64)), (.long ((p1.toInt64) &&& (2147483647 : Int64)))]) _ _ _
  refine Ends.go (fun _ k => XS.lconst X0.here hx rfl (hb hby at_13) k) ?_
  show Ends p e below s s₁ (mkF m 14 #[.val (.int p0), .val (.int p1), .val (.int p2), .val (.int u), .unset, .unset, .unset, .unset, .unset, .unset, .unset, .unset, .unset, .unset, .unset, .unset, .unset, .unset] [(.long (1 : Int64)), (.long (u.toInt64)), (.long ((p1.toInt64) &&& (2147483647 : Int64)))]) _ _ _
  refine Ends.go (fun _ k => XS.ladd X0.here hx rfl (hb hby at_14) rfl k) ?_
  show Ends p e below s s₁ (mkF m 15 #[.val (.int p0), .val (.int p1), .val (.int p2), .val (.int u), .unset, .unset, .unset, .unset, .unset, .unset, .unset, .unset, .unset, .unset, .unset, .unset, .unset, .unset] [(.long ((u.toInt64) + (1 : Int64))), (.long ((p1.toInt64) &&& (2147483647 : Int64)))]) _ _ _
  refine Ends.go (fun _ k => XS.lrem X0.here hx rfl (hb hby at_15) rfl (own_nz1 u hu0) k) ?_
  show Ends p e below s s₁ (mkF m 16 #[.val (.int p0), .val (.int p1), .val (.int p2), .val (.int u), .unset, .unset, .unset, .unset, .unset, .unset, .unset, .unset, .unset, .unset, .unset, .unset, .unset, .unset] [(.long (((p1.toInt64) &&& (2147483647 : Int64)) - ((p1.toInt64) &&& (2147483647 : Int64)) / ((u.toInt64) + (1 : Int64)) * ((u.toInt64) + (1 : Int64))))]) _ _ _
  refine Ends.go (fun _ k => XS.l2i X0.here hx rfl (hb hby at_16) rfl k) ?_
  show Ends p e below s s₁ (mkF m 17 #[.val (.int p0), .val (.int p1), .val (.int p2), .val (.int u), .unset, .unset, .unset, .unset, .unset, .unset, .unset, .unset, .unset, .unset, .unset, .unset, .unset, .unset] [(.int ((((p1.toInt64) &&& (2147483647 : Int64)) - ((p1.toInt64) &&& (2147483647 : Int64)) / ((u.toInt64) + (1 : Int64)) * ((u.toInt64) + (1 : Int64))).toInt32))]) _ _ _
  show Ends p e below s s₁ (mkF m 17 #[.val (.int p0), .val (.int p1), .val (.int p2), .val (.int u), .unset, .unset, .unset, .unset, .unset, .unset, .unset, .unset, .unset, .unset, .unset, .unset, .unset, .unset] [(.int ((((p1.toInt64) &&& (2147483647 : Int64)) - ((p1.toInt64) &&& (2147483647 : Int64)) / ((u.toInt64) + (1 : Int64)) * ((u.toInt64) + (1 : Int64))).toInt32))]) _ _ _
  generalize hg_t : ((((p1.toInt64) &&& (2147483647 : Int64)) - ((p1.toInt64) &&& (2147483647 : Int64)) / ((u.toInt64) + (1 : Int64)) * ((u.toInt64) + (1 : Int64))).toInt32) = t
  have htu := own_t p1 u t hu0 hg_t
  show Ends p e below s s₁ (mkF m 17 #[.val (.int p0), .val (.int p1), .val (.int p2), .val (.int u), .unset, .unset, .unset, .unset, .unset, .unset, .unset, .unset, .unset, .unset, .unset, .unset, .unset, .unset] [(.int t)]) _ _ _
  refine Ends.go (fun _ k => XS.istore X0.here hx rfl (hb hby at_17) rfl (l' := #[.val (.int p0), .val (.int p1), .val (.int p2), .val (.int u), .val (.int t), .unset, .unset, .unset, .unset, .unset, .unset, .unset, .unset, .unset, .unset, .unset, .unset, .unset]) rfl k) ?_
  show Ends p e below s s₁ (mkF m 19 #[.val (.int p0), .val (.int p1), .val (.int p2), .val (.int u), .val (.int t), .unset, .unset, .unset, .unset, .unset, .unset, .unset, .unset, .unset, .unset, .unset, .unset, .unset] []) _ _ _
  refine Ends.go (fun _ k => XS.iloadN X0.here hx rfl (hb hby at_19) rfl k) ?_
  show Ends p e below s s₁ (mkF m 20 #[.val (.int p0), .val (.int p1), .val (.int p2), .val (.int u), .val (.int t), .unset, .unset, .unset, .unset, .unset, .unset, .unset, .unset, .unset, .unset, .unset, .unset, .unset] [(.int p2)]) _ _ _
  refine Ends.go (X0.ldcInt hx hown (mvT hZ (ow hw 0 rfl)) (g := (mkF m 20 #[.val (.int p0), .val (.int p1), .val (.int p2), .val (.int u), .val (.int t), .unset, .unset, .unset, .unset, .unset, .unset, .unset, .unset, .unset, .unset, .unset, .unset, .unset] [(.int p2)])) rfl (hb hby at_20)) ?_
  show Ends p e below s s₁ (mkF m 22 #[.val (.int p0), .val (.int p1), .val (.int p2), .val (.int u), .val (.int t), .unset, .unset, .unset, .unset, .unset, .unset, .unset, .unset, .unset, .unset, .unset, .unset, .unset] [(.int (2147483647 : Int32)), (.int p2)]) _ _ _
  refine Ends.go (fun _ k => XS.iand X0.here hx rfl (hb hby at_22) rfl k) ?_
  show Ends p e below s s₁ (mkF m 23 #[.val (.int p0), .val (.int p1), .val (.int p2), .val (.int u), .val (.int t), .unset, .unset, .unset, .unset, .unset, .unset, .unset, .unset, .unset, .unset, .unset, .unset, .unset] [(.int (p2 &&& (2147483647 : Int32)))]) _ _ _
  show Ends p e below s s₁ (mkF m 23 #[.val (.int p0), .val (.int p1), .val (.int p2), .val (.int u), .val (.int t), .unset, .unset, .unset, .unset, .unset, .unset, .unset, .unset, .unset, .unset, .unset, .unset, .unset] [(.int (p2 &&& (2147483647 : Int32)))]) _ _ _
  generalize hg_x_ : (p2 &&& (2147483647 : Int32)) = x_
  have hx0 : 0 ≤ x_.toInt := by rw [← hg_x_]; exact (c_and p2 2147483647 (by decide)).1
  show Ends p e below s s₁ (mkF m 23 #[.val (.int p0), .val (.int p1), .val (.int p2), .val (.int u), .val (.int t), .unset, .unset, .unset, .unset, .unset, .unset, .unset, .unset, .unset, .unset, .unset, .unset, .unset] [(.int x_)]) _ _ _
  refine Ends.go (fun _ k => XS.istore X0.here hx rfl (hb hby at_23) rfl (l' := #[.val (.int p0), .val (.int p1), .val (.int p2), .val (.int u), .val (.int t), .val (.int x_), .unset, .unset, .unset, .unset, .unset, .unset, .unset, .unset, .unset, .unset, .unset, .unset]) rfl k) ?_
  show Ends p e below s s₁ (mkF m 25 #[.val (.int p0), .val (.int p1), .val (.int p2), .val (.int u), .val (.int t), .val (.int x_), .unset, .unset, .unset, .unset, .unset, .unset, .unset, .unset, .unset, .unset, .unset, .unset] []) _ _ _
  refine Ends.go (fun _ k => XS.iloadN X0.here hx rfl (hb hby at_25) rfl k) ?_
  show Ends p e below s s₁ (mkF m 26 #[.val (.int p0), .val (.int p1), .val (.int p2), .val (.int u), .val (.int t), .val (.int x_), .unset, .unset, .unset, .unset, .unset, .unset, .unset, .unset, .unset, .unset, .unset, .unset] [(.int u)]) _ _ _
  refine Ends.go (fun _ k => XS.iload X0.here hx rfl (hb hby at_26) rfl k) ?_
  show Ends p e below s s₁ (mkF m 28 #[.val (.int p0), .val (.int p1), .val (.int p2), .val (.int u), .val (.int t), .val (.int x_), .unset, .unset, .unset, .unset, .unset, .unset, .unset, .unset, .unset, .unset, .unset, .unset] [(.int t), (.int u)]) _ _ _
  refine Ends.go (fun _ k => XS.iload X0.here hx rfl (hb hby at_28) rfl k) ?_
  show Ends p e below s s₁ (mkF m 30 #[.val (.int p0), .val (.int p1), .val (.int p2), .val (.int u), .val (.int t), .val (.int x_), .unset, .unset, .unset, .unset, .unset, .unset, .unset, .unset, .unset, .unset, .unset, .unset] [(.int x_), (.int t), (.int u)]) _ _ _
  by_cases hn : (0 : Int32) < (u - t)
  · have hy : 0 < (u - t).toInt := Int32.lt_iff_toInt_lt.mp hn
    obtain ⟨_, _, ⟨T1, L1, k1, n1⟩, -, X1, ⟨Lc1, hQ1, l1, y1, z1⟩, st1⟩ := Jvm.LawKit.callS X0 hx (y := (⟨"com/example/even_keel/evenkeel/ZoneSnapshot", "loadPerServer", "(III)Ljava/util/OptionalDouble;"⟩ : MethodName)) hown (mvT hZ (ow hw 2 rfl)) (mvT hZ (ow hw 3 rfl)) (mvT hZ (ow hw 4 rfl)) (mvT hZ (ow hw 5 rfl)) (by decide) (own_backOf (W := 0) (rmS1 l Z a0 hw [] n0 h0 O0 u t x_ hn) hZ (ow hw 5 rfl) (ow hw 4 rfl) (by decide) (by decide)) (g := (mkF m 30 #[.val (.int p0), .val (.int p1), .val (.int p2), .val (.int u), .val (.int t), .val (.int x_), .unset, .unset, .unset, .unset, .unset, .unset, .unset, .unset, .unset, .unset, .unset, .unset] [(.int x_), (.int t), (.int u)])) rfl (by rw [hml]; rfl) (argsL := [(.int u), (.int t), (.int x_)]) (rest := []) (lenOf pd0_0 rfl) rfl (by show 2 * 0 + _ ≤ _; exact Nat.le_of_eq rfl) (hb hby at_30) (fun _ _ => ⟨rfl, e0, (by decide : 0 + 1 ≤ _), (by decide : 0 + 2 ≤ _)⟩)
    dsimp only [Pt.U, Pt.locs, Pt.cells, Pt.slots] at X1 l1 y1 z1 st1 hQ1
    subst l1 y1 z1
    obtain ⟨b1, rfl, N1q, hb1, K1c, Eq1, Fp1, Fv1⟩ := hQ1
    have N1 := Fr.app N0 N1q
    refine Ends.go st1 ?_
    have g_b1 : n0 ≤ b1 := Nat.le_trans (own_old_le O0) hb1
    have sz_b1 : h0.size ≤ b1 := Nat.le_trans K0.1 hb1
    obtain ⟨h1, e1⟩ : ∃ z, T1.heap = z := ⟨_, rfl⟩
    rw [e1] at K1c Eq1 Fp1 Fv1
    have K1 := K0.trans K1c all0
    have O1 := O0.keep K1c all0
    show Ends p e below s T1 (mkF m 33 #[.val (.int p0), .val (.int p1), .val (.int p2), .val (.int u), .val (.int t), .val (.int x_), .unset, .unset, .unset, .unset, .unset, .unset, .unset, .unset, .unset, .unset, .unset, .unset] [(.ref b1)]) _ _ _
    refine Ends.go (fun _ k => XS.astore X1.here hx rfl (hb hby at_33) rfl rfl (l' := #[.val (.int p0), .val (.int p1), .val (.int p2), .val (.int u), .val (.int t), .val (.int x_), .val (.ref b1), .unset, .unset, .unset, .unset, .unset, .unset, .unset, .unset, .unset, .unset, .unset]) rfl k) ?_
    show Ends p e below s T1 (mkF m 35 #[.val (.int p0), .val (.int p1), .val (.int p2), .val (.int u), .val (.int t), .val (.int x_), .val (.ref b1), .unset, .unset, .unset, .unset, .unset, .unset, .unset, .unset, .unset, .unset, .unset] []) _ _ _
    refine Ends.go (fun _ k => XS.iloadN X1.here hx rfl (hb hby at_35) rfl k) ?_
    show Ends p e below s T1 (mkF m 36 #[.val (.int p0), .val (.int p1), .val (.int p2), .val (.int u), .val (.int t), .val (.int x_), .val (.ref b1), .unset, .unset, .unset, .unset, .unset, .unset, .unset, .unset, .unset, .unset, .unset] [(.int u)]) _ _ _
    refine Ends.go (fun _ k => XS.iload X1.here hx rfl (hb hby at_36) rfl k) ?_
    show Ends p e below s T1 (mkF m 38 #[.val (.int p0), .val (.int p1), .val (.int p2), .val (.int u), .val (.int t), .val (.int x_), .val (.ref b1), .unset, .unset, .unset, .unset, .unset, .unset, .unset, .unset, .unset, .unset, .unset] [(.int t), (.int u)]) _ _ _
    refine Ends.go (fun _ k => XS.isub X1.here hx rfl (hb hby at_38) rfl k) ?_
    show Ends p e below s T1 (mkF m 39 #[.val (.int p0), .val (.int p1), .val (.int p2), .val (.int u), .val (.int t), .val (.int x_), .val (.ref b1), .unset, .unset, .unset, .unset, .unset, .unset, .unset, .unset, .unset, .unset, .unset] [(.int (u - t))]) _ _ _
    refine Ends.go (fun _ k => XS.istore X1.here hx rfl (hb hby at_39) rfl (l' := #[.val (.int p0), .val (.int p1), .val (.int p2), .val (.int u), .val (.int t), .val (.int x_), .val (.ref b1), .val (.int (u - t)), .unset, .unset, .unset, .unset, .unset, .unset, .unset, .unset, .unset, .unset]) rfl k) ?_
    show Ends p e below s T1 (mkF m 41 #[.val (.int p0), .val (.int p1), .val (.int p2), .val (.int u), .val (.int t), .val (.int x_), .val (.ref b1), .val (.int (u - t)), .unset, .unset, .unset, .unset, .unset, .unset, .unset, .unset, .unset, .unset] []) _ _ _
    refine Ends.go (fun _ k => XS.iload X1.here hx rfl (hb hby at_41) rfl k) ?_
    show Ends p e below s T1 (mkF m 43 #[.val (.int p0), .val (.int p1), .val (.int p2), .val (.int u), .val (.int t), .val (.int x_), .val (.ref b1), .val (.int (u - t)), .unset, .unset, .unset, .unset, .unset, .unset, .unset, .unset, .unset, .unset] [(.int (u - t))]) _ _ _
    refine Ends.go (fun _ k => XS.ifYes X1.here hx rfl (pc0 := 43) (pc' := 60) rfl (hb hby at_43) rfl ((if0 _ _).trans (feq ((fun q => by rw [q] at hy; exact absurd hy (by decide)) : ¬ ((u - t) = (0 : Int32)))).2) (by decide) (by decide) k) ?_
    show Ends p e below s T1 (mkF m 60 #[.val (.int p0), .val (.int p1), .val (.int p2), .val (.int u), .val (.int t), .val (.int x_), .val (.ref b1), .val (.int (u - t)), .unset, .unset, .unset, .unset, .unset, .unset, .unset, .unset, .unset, .unset] []) _ _ _
    refine Ends.go (fun _ k => XS.aload X1.here hx rfl (hb hby at_60) rfl rfl k) ?_
    show Ends p e below s T1 (mkF m 62 #[.val (.int p0), .val (.int p1), .val (.int p2), .val (.int u), .val (.int t), .val (.int x_), .val (.ref b1), .val (.int (u - t)), .unset, .unset, .unset, .unset, .unset, .unset, .unset, .unset, .unset, .unset] [(.ref b1)]) _ _ _
    obtain ⟨cq2, kq2, q2a, q2b, q2c⟩ := isOf hZ e1 Eq1
    obtain ⟨_, _, ⟨T2, L2, k2, n2⟩, -, X2, ⟨Lc2, hQ2, l2, y2, z2⟩, st2⟩ := X1.virtualBack hx (y := (⟨"java/util/OptionalDouble", "isPresent", "()Z"⟩ : MethodName)) (z := (⟨"java/util/OptionalDouble", "isPresent", "()Z"⟩ : MethodName)) hown (mvT hZ (ow hw 11 rfl)) (mvT hZ (ow hw 12 rfl)) (notFace_of_selects (args := #[]) (mvT hZ (ow hw 14 rfl))) (mvT hZ (ow hw 14 rfl)) (mvT hZ (ow hw 13 rfl)) (by decide) (own_backOf (W := 0) (rmQ l Z a0 hw [] n0 h1 O1 b1 (1 : Int32) (1 : Int32) Fp1 rfl) hZ (ow hw 15 rfl) (ow hw 8 rfl) (by decide) (by decide)) q2a q2c (g := (mkF m 62 #[.val (.int p0), .val (.int p1), .val (.int p2), .val (.int u), .val (.int t), .val (.int x_), .val (.ref b1), .val (.int (u - t)), .unset, .unset, .unset, .unset, .unset, .unset, .unset, .unset, .unset, .unset] [(.ref b1)])) rfl (by rw [hml]; rfl) (Steps.refl _) (argsL := []) (rest := []) (lenOf pd0_1 rfl) rfl (by show 2 * 0 + _ ≤ _; exact Nat.le_of_eq rfl) (hb hby at_62) (fun _ _ => ⟨rfl, e1, (by decide : 1 + 0 ≤ _), (by decide : 2 + 0 ≤ _)⟩)
    dsimp only [Pt.U, Pt.locs, Pt.cells, Pt.slots] at X2 l2 y2 z2 st2 hQ2
    subst l2 y2 z2
    obtain ⟨rfl, N2q, e2q⟩ := hQ2
    have N2 := Fr.app N1 N2q
    refine Ends.go (fun _ k => st2.trans k) ?_
    show Ends p e below s T2 (mkF m 65 #[.val (.int p0), .val (.int p1), .val (.int p2), .val (.int u), .val (.int t), .val (.int x_), .val (.ref b1), .val (.int (u - t)), .unset, .unset, .unset, .unset, .unset, .unset, .unset, .unset, .unset, .unset] [(.int (1 : Int32))]) _ _ _
    refine Ends.go (fun _ k => XS.ifYes X2.here hx rfl (pc0 := 65) (pc' := 70) rfl (hb hby at_65) rfl ((if0 _ _).trans (feq (by decide : ¬ ((1 : Int32) = (0 : Int32)))).2) (by decide) (by decide) k) ?_
    show Ends p e below s T2 (mkF m 70 #[.val (.int p0), .val (.int p1), .val (.int p2), .val (.int u), .val (.int t), .val (.int x_), .val (.ref b1), .val (.int (u - t)), .unset, .unset, .unset, .unset, .unset, .unset, .unset, .unset, .unset, .unset] []) _ _ _
    refine Ends.go (fun _ k => XS.aload X2.here hx rfl (hb hby at_70) rfl rfl k) ?_
    show Ends p e below s T2 (mkF m 72 #[.val (.int p0), .val (.int p1), .val (.int p2), .val (.int u), .val (.int t), .val (.int x_), .val (.ref b1), .val (.int (u - t)), .unset, .unset, .unset, .unset, .unset, .unset, .unset, .unset, .unset, .unset] [(.ref b1)]) _ _ _
    obtain ⟨cq3, kq3, q3a, q3b, q3c⟩ := isOf hZ e2q Eq1
    obtain ⟨_, _, ⟨T3, L3, k3, n3⟩, -, X3, ⟨Lc3, hQ3, l3, y3, z3⟩, st3⟩ := X2.virtualBack hx (y := (⟨"java/util/OptionalDouble", "getAsDouble", "()D"⟩ : MethodName)) (z := (⟨"java/util/OptionalDouble", "getAsDouble", "()D"⟩ : MethodName)) hown (mvT hZ (ow hw 32 rfl)) (mvT hZ (ow hw 33 rfl)) (notFace_of_selects (args := #[]) (mvT hZ (ow hw 35 rfl))) (mvT hZ (ow hw 35 rfl)) (mvT hZ (ow hw 34 rfl)) (by decide) (own_backOf (W := 0) (rmG l Z a0 hw [] n0 h1 O1 b1 (FP.ddiv (FP.i2d x_) (FP.i2d (u - t))) Fp1 Fv1) hZ (ow hw 36 rfl) (ow hw 8 rfl) (by decide) (by decide)) q3a q3c (g := (mkF m 72 #[.val (.int p0), .val (.int p1), .val (.int p2), .val (.int u), .val (.int t), .val (.int x_), .val (.ref b1), .val (.int (u - t)), .unset, .unset, .unset, .unset, .unset, .unset, .unset, .unset, .unset, .unset] [(.ref b1)])) rfl (by rw [hml]; rfl) (Steps.refl _) (argsL := []) (rest := []) (lenOf pd0_2 rfl) rfl (by show 2 * 0 + _ ≤ _; exact Nat.le_of_eq rfl) (hb hby at_72) (fun _ _ => ⟨rfl, e2q, (by decide : 1 + 0 ≤ _), (by decide : 2 + 0 ≤ _)⟩)
    dsimp only [Pt.U, Pt.locs, Pt.cells, Pt.slots] at X3 l3 y3 z3 st3 hQ3
    subst l3 y3 z3
    obtain ⟨rfl, N3q, e3q⟩ := hQ3
    have N3 := Fr.app N2 N3q
    refine Ends.go (fun _ k => st3.trans k) ?_
    show Ends p e below s T3 (mkF m 75 #[.val (.int p0), .val (.int p1), .val (.int p2), .val (.int u), .val (.int t), .val (.int x_), .val (.ref b1), .val (.int (u - t)), .unset, .unset, .unset, .unset, .unset, .unset, .unset, .unset, .unset, .unset] [(.double (FP.ddiv (FP.i2d x_) (FP.i2d (u - t))))]) _ _ _
    refine Ends.go (fun _ k => XS.dstore X3.here hx rfl (hb hby at_75) rfl (l' := #[.val (.int p0), .val (.int p1), .val (.int p2), .val (.int u), .val (.int t), .val (.int x_), .val (.ref b1), .val (.int (u - t)), .val (.double (FP.ddiv (FP.i2d x_) (FP.i2d (u - t)))), .second, .unset, .unset, .unset, .unset, .unset, .unset, .unset, .unset]) rfl k) ?_
    show Ends p e below s T3 (mkF m 77 #[.val (.int p0), .val (.int p1), .val (.int p2), .val (.int u), .val (.int t), .val (.int x_), .val (.ref b1), .val (.int (u - t)), .val (.double (FP.ddiv (FP.i2d x_) (FP.i2d (u - t)))), .second, .unset, .unset, .unset, .unset, .unset, .unset, .unset, .unset] []) _ _ _
    refine Ends.go (fun _ k => XS.iload X3.here hx rfl (hb hby at_77) rfl k) ?_
    show Ends p e below s T3 (mkF m 79 #[.val (.int p0), .val (.int p1), .val (.int p2), .val (.int u), .val (.int t), .val (.int x_), .val (.ref b1), .val (.int (u - t)), .val (.double (FP.ddiv (FP.i2d x_) (FP.i2d (u - t)))), .second, .unset, .unset, .unset, .unset, .unset, .unset, .unset, .unset] [(.int x_)]) _ _ _
    refine Ends.go (fun _ k => XS.i2l X3.here hx rfl (hb hby at_79) rfl k) ?_
    show Ends p e below s T3 (mkF m 80 #[.val (.int p0), .val (.int p1), .val (.int p2), .val (.int u), .val (.int t), .val (.int x_), .val (.ref b1), .val (.int (u - t)), .val (.double (FP.ddiv (FP.i2d x_) (FP.i2d (u - t)))), .second, .unset, .unset, .unset, .unset, .unset, .unset, .unset, .unset] [(.long (x_.toInt64))]) _ _ _
    refine Ends.go (fun _ k => XS.iload X3.here hx rfl (hb hby at_80) rfl k) ?_
    show Ends p e below s T3 (mkF m 82 #[.val (.int p0), .val (.int p1), .val (.int p2), .val (.int u), .val (.int t), .val (.int x_), .val (.ref b1), .val (.int (u - t)), .val (.double (FP.ddiv (FP.i2d x_) (FP.i2d (u - t)))), .second, .unset, .unset, .unset, .unset, .unset, .unset, .unset, .unset] [(.int (u - t)), (.long (x_.toInt64))]) _ _ _
    refine Ends.go (fun _ k => XS.i2l X3.here hx rfl (hb hby at_82) rfl k) ?_
    show Ends p e below s T3 (mkF m 83 #[.val (.int p0), .val (.int p1), .val (.int p2), .val (.int u), .val (.int t), .val (.int x_), .val (.ref b1), .val (.int (u - t)), .val (.double (FP.ddiv (FP.i2d x_) (FP.i2d (u - t)))), .second, .unset, .unset, .unset, .unset, .unset, .unset, .unset, .unset] [(.long ((u - t).toInt64)), (.long (x_.toInt64))]) _ _ _
    refine Ends.go (fun _ k => XS.ldiv X3.here hx rfl (hb hby at_83) rfl (own_nzy hy) k) ?_
    show Ends p e below s T3 (mkF m 84 #[.val (.int p0), .val (.int p1), .val (.int p2), .val (.int u), .val (.int t), .val (.int x_), .val (.ref b1), .val (.int (u - t)), .val (.double (FP.ddiv (FP.i2d x_) (FP.i2d (u - t)))), .second, .unset, .unset, .unset, .unset, .unset, .unset, .unset, .unset] [(.long ((x_.toInt64) / ((u - t).toInt64)))]) _ _ _
    refine Ends.go (fun _ k => XS.lstore X3.here hx rfl (hb hby at_84) rfl (l' := #[.val (.int p0), .val (.int p1), .val (.int p2), .val (.int u), .val (.int t), .val (.int x_), .val (.ref b1), .val (.int (u - t)), .val (.double (FP.ddiv (FP.i2d x_) (FP.i2d (u - t)))), .second, .val (.long ((x_.toInt64) / ((u - t).toInt64))), .second, .unset, .unset, .unset, .unset, .unset, .unset]) rfl k) ?_
    show Ends p e below s T3 (mkF m 86 #[.val (.int p0), .val (.int p1), .val (.int p2), .val (.int u), .val (.int t), .val (.int x_), .val (.ref b1), .val (.int (u - t)), .val (.double (FP.ddiv (FP.i2d x_) (FP.i2d (u - t)))), .second, .val (.long ((x_.toInt64) / ((u - t).toInt64))), .second, .unset, .unset, .unset, .unset, .unset, .unset] []) _ _ _
    refine Ends.go (fun _ k => XS.iload X3.here hx rfl (hb hby at_86) rfl k) ?_
    show Ends p e below s T3 (mkF m 88 #[.val (.int p0), .val (.int p1), .val (.int p2), .val (.int u), .val (.int t), .val (.int x_), .val (.ref b1), .val (.int (u - t)), .val (.double (FP.ddiv (FP.i2d x_) (FP.i2d (u - t)))), .second, .val (.long ((x_.toInt64) / ((u - t).toInt64))), .second, .unset, .unset, .unset, .unset, .unset, .unset] [(.int x_)]) _ _ _
    refine Ends.go (fun _ k => XS.i2l X3.here hx rfl (hb hby at_88) rfl k) ?_
    show Ends p e below s T3 (mkF m 89 #[.val (.int p0), .val (.int p1), .val (.int p2), .val (.int u), .val (.int t), .val (.int x_), .val (.ref b1), .val (.int (u - t)), .val (.double (FP.ddiv (FP.i2d x_) (FP.i2d (u - t)))), .second, .val (.long ((x_.toInt64) / ((u - t).toInt64))), .second, .unset, .unset, .unset, .unset, .unset, .unset] [(.long (x_.toInt64))]) _ _ _
    refine Ends.go (fun _ k => XS.iload X3.here hx rfl (hb hby at_89) rfl k) ?_
    show Ends p e below s T3 (mkF m 91 #[.val (.int p0), .val (.int p1), .val (.int p2), .val (.int u), .val (.int t), .val (.int x_), .val (.ref b1), .val (.int (u - t)), .val (.double (FP.ddiv (FP.i2d x_) (FP.i2d (u - t)))), .second, .val (.long ((x_.toInt64) / ((u - t).toInt64))), .second, .unset, .unset, .unset, .unset, .unset, .unset] [(.int (u - t)), (.long (x_.toInt64))]) _ _ _
    refine Ends.go (fun _ k => XS.i2l X3.here hx rfl (hb hby at_91) rfl k) ?_
    show Ends p e below s T3 (mkF m 92 #[.val (.int p0), .val (.int p1), .val (.int p2), .val (.int u), .val (.int t), .val (.int x_), .val (.ref b1), .val (.int (u - t)), .val (.double (FP.ddiv (FP.i2d x_) (FP.i2d (u - t)))), .second, .val (.long ((x_.toInt64) / ((u - t).toInt64))), .second, .unset, .unset, .unset, .unset, .unset, .unset] [(.long ((u - t).toInt64)), (.long (x_.toInt64))]) _ _ _
    refine Ends.go (fun _ k => XS.lrem X3.here hx rfl (hb hby at_92) rfl (own_nzy hy) k) ?_
    show Ends p e below s T3 (mkF m 93 #[.val (.int p0), .val (.int p1), .val (.int p2), .val (.int u), .val (.int t), .val (.int x_), .val (.ref b1), .val (.int (u - t)), .val (.double (FP.ddiv (FP.i2d x_) (FP.i2d (u - t)))), .second, .val (.long ((x_.toInt64) / ((u - t).toInt64))), .second, .unset, .unset, .unset, .unset, .unset, .unset] [(.long ((x_.toInt64) - (x_.toInt64) / ((u - t).toInt64) * ((u - t).toInt64)))]) _ _ _
    refine Ends.go (fun _ k => XS.lstore X3.here hx rfl (hb hby at_93) rfl (l' := #[.val (.int p0), .val (.int p1), .val (.int p2), .val (.int u), .val (.int t), .val (.int x_), .val (.ref b1), .val (.int (u - t)), .val (.double (FP.ddiv (FP.i2d x_) (FP.i2d (u - t)))), .second, .val (.long ((x_.toInt64) / ((u - t).toInt64))), .second, .val (.long ((x_.toInt64) - (x_.toInt64) / ((u - t).toInt64) * ((u - t).toInt64))), .second, .unset, .unset, .unset, .unset]) rfl k) ?_
    show Ends p e below s T3 (mkF m 95 #[.val (.int p0), .val (.int p1), .val (.int p2), .val (.int u), .val (.int t), .val (.int x_), .val (.ref b1), .val (.int (u - t)), .val (.double (FP.ddiv (FP.i2d x_) (FP.i2d (u - t)))), .second, .val (.long ((x_.toInt64) / ((u - t).toInt64))), .second, .val (.long ((x_.toInt64) - (x_.toInt64) / ((u - t).toInt64) * ((u - t).toInt64))), .second, .unset, .unset, .unset, .unset] []) _ _ _
    refine Ends.go (fun _ k => XS.lload X3.here hx rfl (hb hby at_95) rfl k) ?_
    show Ends p e below s T3 (mkF m 97 #[.val (.int p0), .val (.int p1), .val (.int p2), .val (.int u), .val (.int t), .val (.int x_), .val (.ref b1), .val (.int (u - t)), .val (.double (FP.ddiv (FP.i2d x_) (FP.i2d (u - t)))), .second, .val (.long ((x_.toInt64) / ((u - t).toInt64))), .second, .val (.long ((x_.toInt64) - (x_.toInt64) / ((u - t).toInt64) * ((u - t).toInt64))), .second, .unset, .unset, .unset, .unset] [(.long ((x_.toInt64) - (x_.toInt64) / ((u - t).toInt64) * ((u - t).toInt64)))]) _ _ _
    refine Ends.go (fun _ k => XS.lconst X3.here hx rfl (hb hby at_97) k) ?_
    show Ends p e below s T3 (mkF m 98 #[.val (.int p0), .val (.int p1), .val (.int p2), .val (.int u), .val (.int t), .val (.int x_), .val (.ref b1), .val (.int (u - t)), .val (.double (FP.ddiv (FP.i2d x_) (FP.i2d (u - t)))), .second, .val (.long ((x_.toInt64) / ((u - t).toInt64))), .second, .val (.long ((x_.toInt64) - (x_.toInt64) / ((u - t).toInt64) * ((u - t).toInt64))), .second, .unset, .unset, .unset, .unset] [(.long (0 : Int64)), (.long ((x_.toInt64) - (x_.toInt64) / ((u - t).toInt64) * ((u - t).toInt64)))]) _ _ _
    refine Ends.go (fun _ k => XS.lcmp X3.here hx rfl (hb hby at_98) rfl k) ?_
    show Ends p e below s T3 (mkF m 99 #[.val (.int p0), .val (.int p1), .val (.int p2), .val (.int u), .val (.int t), .val (.int x_), .val (.ref b1), .val (.int (u - t)), .val (.double (FP.ddiv (FP.i2d x_) (FP.i2d (u - t)))), .second, .val (.long ((x_.toInt64) / ((u - t).toInt64))), .second, .val (.long ((x_.toInt64) - (x_.toInt64) / ((u - t).toInt64) * ((u - t).toInt64))), .second, .unset, .unset, .unset, .unset] [(.int (lcmpW ((x_.toInt64) - (x_.toInt64) / ((u - t).toInt64) * ((u - t).toInt64)) (0 : Int64)))]) _ _ _
    by_cases hc99_4 : (lcmpW ((x_.toInt64) - (x_.toInt64) / ((u - t).toInt64) * ((u - t).toInt64)) (0 : Int64)) = (0 : Int32)
    · refine Ends.go (fun _ k => XS.ifNo X3.here hx rfl (hb hby at_99) rfl ((if0 _ _).trans (teq hc99_4).2) k) ?_
      show Ends p e below s T3 (mkF m 102 #[.val (.int p0), .val (.int p1), .val (.int p2), .val (.int u), .val (.int t), .val (.int x_), .val (.ref b1), .val (.int (u - t)), .val (.double (FP.ddiv (FP.i2d x_) (FP.i2d (u - t)))), .second, .val (.long ((x_.toInt64) / ((u - t).toInt64))), .second, .val (.long ((x_.toInt64) - (x_.toInt64) / ((u - t).toInt64) * ((u - t).toInt64))), .second, .unset, .unset, .unset, .unset] []) _ _ _
      refine Ends.go (fun _ k => XS.dload X3.here hx rfl (hb hby at_102) rfl k) ?_
      show Ends p e below s T3 (mkF m 104 #[.val (.int p0), .val (.int p1), .val (.int p2), .val (.int u), .val (.int t), .val (.int x_), .val (.ref b1), .val (.int (u - t)), .val (.double (FP.ddiv (FP.i2d x_) (FP.i2d (u - t)))), .second, .val (.long ((x_.toInt64) / ((u - t).toInt64))), .second, .val (.long ((x_.toInt64) - (x_.toInt64) / ((u - t).toInt64) * ((u - t).toInt64))), .second, .unset, .unset, .unset, .unset] [(.double (FP.ddiv (FP.i2d x_) (FP.i2d (u - t))))]) _ _ _
      refine Ends.go (fun _ k => XS.lload X3.here hx rfl (hb hby at_104) rfl k) ?_
      show Ends p e below s T3 (mkF m 106 #[.val (.int p0), .val (.int p1), .val (.int p2), .val (.int u), .val (.int t), .val (.int x_), .val (.ref b1), .val (.int (u - t)), .val (.double (FP.ddiv (FP.i2d x_) (FP.i2d (u - t)))), .second, .val (.long ((x_.toInt64) / ((u - t).toInt64))), .second, .val (.long ((x_.toInt64) - (x_.toInt64) / ((u - t).toInt64) * ((u - t).toInt64))), .second, .unset, .unset, .unset, .unset] [(.long ((x_.toInt64) / ((u - t).toInt64))), (.double (FP.ddiv (FP.i2d x_) (FP.i2d (u - t))))]) _ _ _
      refine Ends.go (fun _ k => XS.l2dS X3.here hx rfl (hb hby at_106) rfl rfl k) ?_
      show Ends p e below s T3 (mkF m 107 #[.val (.int p0), .val (.int p1), .val (.int p2), .val (.int u), .val (.int t), .val (.int x_), .val (.ref b1), .val (.int (u - t)), .val (.double (FP.ddiv (FP.i2d x_) (FP.i2d (u - t)))), .second, .val (.long ((x_.toInt64) / ((u - t).toInt64))), .second, .val (.long ((x_.toInt64) - (x_.toInt64) / ((u - t).toInt64) * ((u - t).toInt64))), .second, .unset, .unset, .unset, .unset] [(.double (FP.l2d ((x_.toInt64) / ((u - t).toInt64)))), (.double (FP.ddiv (FP.i2d x_) (FP.i2d (u - t))))]) _ _ _
      refine Ends.go (fun _ k => XS.dcmpS X3.here hx rfl (hb hby at_107) rfl (v := (0 : Int32)) (own_c0 hx0 hy hc99_4 _) k) ?_
      show Ends p e below s T3 (mkF m 108 #[.val (.int p0), .val (.int p1), .val (.int p2), .val (.int u), .val (.int t), .val (.int x_), .val (.ref b1), .val (.int (u - t)), .val (.double (FP.ddiv (FP.i2d x_) (FP.i2d (u - t)))), .second, .val (.long ((x_.toInt64) / ((u - t).toInt64))), .second, .val (.long ((x_.toInt64) - (x_.toInt64) / ((u - t).toInt64) * ((u - t).toInt64))), .second, .unset, .unset, .unset, .unset] [(.int (0 : Int32))]) _ _ _
      refine Ends.go (fun _ k => XS.ifNo X3.here hx rfl (hb hby at_108) rfl ((if0 _ _).trans (teq (by decide : (0 : Int32) = (0 : Int32))).2) k) ?_
      show Ends p e below s T3 (mkF m 111 #[.val (.int p0), .val (.int p1), .val (.int p2), .val (.int u), .val (.int t), .val (.int x_), .val (.ref b1), .val (.int (u - t)), .val (.double (FP.ddiv (FP.i2d x_) (FP.i2d (u - t)))), .second, .val (.long ((x_.toInt64) / ((u - t).toInt64))), .second, .val (.long ((x_.toInt64) - (x_.toInt64) / ((u - t).toInt64) * ((u - t).toInt64))), .second, .unset, .unset, .unset, .unset] []) _ _ _
      refine Ends.go (fun _ k => XS.iconst X3.here hx rfl (hb hby at_111) k) ?_
      show Ends p e below s T3 (mkF m 112 #[.val (.int p0), .val (.int p1), .val (.int p2), .val (.int u), .val (.int t), .val (.int x_), .val (.ref b1), .val (.int (u - t)), .val (.double (FP.ddiv (FP.i2d x_) (FP.i2d (u - t)))), .second, .val (.long ((x_.toInt64) / ((u - t).toInt64))), .second, .val (.long ((x_.toInt64) - (x_.toInt64) / ((u - t).toInt64) * ((u - t).toInt64))), .second, .unset, .unset, .unset, .unset] [(.int (1 : Int32))]) _ _ _
      refine Ends.go (fun _ k => XS.goto X3.here hx rfl (pc0 := 112) (pc' := 116) rfl (hb hby at_112) (by decide) (by decide) k) ?_
      show Ends p e below s T3 (mkF m 116 #[.val (.int p0), .val (.int p1), .val (.int p2), .val (.int u), .val (.int t), .val (.int x_), .val (.ref b1), .val (.int (u - t)), .val (.double (FP.ddiv (FP.i2d x_) (FP.i2d (u - t)))), .second, .val (.long ((x_.toInt64) / ((u - t).toInt64))), .second, .val (.long ((x_.toInt64) - (x_.toInt64) / ((u - t).toInt64) * ((u - t).toInt64))), .second, .unset, .unset, .unset, .unset] [(.int (1 : Int32))]) _ _ _
      refine Ends.retZ X3 hx Bd.notSynchronized (t := .boolean) Bd.returns (by simp) (hb hby at_116) (by decide) (by decide) ?_
      exact ⟨rfl, N3⟩
    · refine Ends.go (fun _ k => XS.ifYes X3.here hx rfl (pc0 := 99) (pc' := 117) rfl (hb hby at_99) rfl ((if0 _ _).trans (feq hc99_4).2) (by decide) (by decide) k) ?_
      show Ends p e below s T3 (mkF m 117 #[.val (.int p0), .val (.int p1), .val (.int p2), .val (.int u), .val (.int t), .val (.int x_), .val (.ref b1), .val (.int (u - t)), .val (.double (FP.ddiv (FP.i2d x_) (FP.i2d (u - t)))), .second, .val (.long ((x_.toInt64) / ((u - t).toInt64))), .second, .val (.long ((x_.toInt64) - (x_.toInt64) / ((u - t).toInt64) * ((u - t).toInt64))), .second, .unset, .unset, .unset, .unset] []) _ _ _
      refine Ends.go (fun _ k => XS.dload X3.here hx rfl (hb hby at_117) rfl k) ?_
      show Ends p e below s T3 (mkF m 119 #[.val (.int p0), .val (.int p1), .val (.int p2), .val (.int u), .val (.int t), .val (.int x_), .val (.ref b1), .val (.int (u - t)), .val (.double (FP.ddiv (FP.i2d x_) (FP.i2d (u - t)))), .second, .val (.long ((x_.toInt64) / ((u - t).toInt64))), .second, .val (.long ((x_.toInt64) - (x_.toInt64) / ((u - t).toInt64) * ((u - t).toInt64))), .second, .unset, .unset, .unset, .unset] [(.double (FP.ddiv (FP.i2d x_) (FP.i2d (u - t))))]) _ _ _
      refine Ends.go (fun _ k => XS.lload X3.here hx rfl (hb hby at_119) rfl k) ?_
      show Ends p e below s T3 (mkF m 121 #[.val (.int p0), .val (.int p1), .val (.int p2), .val (.int u), .val (.int t), .val (.int x_), .val (.ref b1), .val (.int (u - t)), .val (.double (FP.ddiv (FP.i2d x_) (FP.i2d (u - t)))), .second, .val (.long ((x_.toInt64) / ((u - t).toInt64))), .second, .val (.long ((x_.toInt64) - (x_.toInt64) / ((u - t).toInt64) * ((u - t).toInt64))), .second, .unset, .unset, .unset, .unset] [(.long ((x_.toInt64) / ((u - t).toInt64))), (.double (FP.ddiv (FP.i2d x_) (FP.i2d (u - t))))]) _ _ _
      refine Ends.go (fun _ k => XS.l2dS X3.here hx rfl (hb hby at_121) rfl rfl k) ?_
      show Ends p e below s T3 (mkF m 122 #[.val (.int p0), .val (.int p1), .val (.int p2), .val (.int u), .val (.int t), .val (.int x_), .val (.ref b1), .val (.int (u - t)), .val (.double (FP.ddiv (FP.i2d x_) (FP.i2d (u - t)))), .second, .val (.long ((x_.toInt64) / ((u - t).toInt64))), .second, .val (.long ((x_.toInt64) - (x_.toInt64) / ((u - t).toInt64) * ((u - t).toInt64))), .second, .unset, .unset, .unset, .unset] [(.double (FP.l2d ((x_.toInt64) / ((u - t).toInt64)))), (.double (FP.ddiv (FP.i2d x_) (FP.i2d (u - t))))]) _ _ _
      refine Ends.go (fun _ k => XS.dcmpS X3.here hx rfl (hb hby at_122) rfl (v := (1 : Int32)) (own_c1 hx0 hy hc99_4 _) k) ?_
      show Ends p e below s T3 (mkF m 123 #[.val (.int p0), .val (.int p1), .val (.int p2), .val (.int u), .val (.int t), .val (.int x_), .val (.ref b1), .val (.int (u - t)), .val (.double (FP.ddiv (FP.i2d x_) (FP.i2d (u - t)))), .second, .val (.long ((x_.toInt64) / ((u - t).toInt64))), .second, .val (.long ((x_.toInt64) - (x_.toInt64) / ((u - t).toInt64) * ((u - t).toInt64))), .second, .unset, .unset, .unset, .unset] [(.int (1 : Int32))]) _ _ _
      refine Ends.go (fun _ k => XS.ifNo X3.here hx rfl (hb hby at_123) rfl ((if0 _ _).trans (tlt (by decide : (0 : Int32) < (1 : Int32))).2.2.2) k) ?_
      show Ends p e below s T3 (mkF m 126 #[.val (.int p0), .val (.int p1), .val (.int p2), .val (.int u), .val (.int t), .val (.int x_), .val (.ref b1), .val (.int (u - t)), .val (.double (FP.ddiv (FP.i2d x_) (FP.i2d (u - t)))), .second, .val (.long ((x_.toInt64) / ((u - t).toInt64))), .second, .val (.long ((x_.toInt64) - (x_.toInt64) / ((u - t).toInt64) * ((u - t).toInt64))), .second, .unset, .unset, .unset, .unset] []) _ _ _
      refine Ends.go (fun _ k => XS.dload X3.here hx rfl (hb hby at_126) rfl k) ?_
      show Ends p e below s T3 (mkF m 128 #[.val (.int p0), .val (.int p1), .val (.int p2), .val (.int u), .val (.int t), .val (.int x_), .val (.ref b1), .val (.int (u - t)), .val (.double (FP.ddiv (FP.i2d x_) (FP.i2d (u - t)))), .second, .val (.long ((x_.toInt64) / ((u - t).toInt64))), .second, .val (.long ((x_.toInt64) - (x_.toInt64) / ((u - t).toInt64) * ((u - t).toInt64))), .second, .unset, .unset, .unset, .unset] [(.double (FP.ddiv (FP.i2d x_) (FP.i2d (u - t))))]) _ _ _
      refine Ends.go (fun _ k => XS.lload X3.here hx rfl (hb hby at_128) rfl k) ?_
      show Ends p e below s T3 (mkF m 130 #[.val (.int p0), .val (.int p1), .val (.int p2), .val (.int u), .val (.int t), .val (.int x_), .val (.ref b1), .val (.int (u - t)), .val (.double (FP.ddiv (FP.i2d x_) (FP.i2d (u - t)))), .second, .val (.long ((x_.toInt64) / ((u - t).toInt64))), .second, .val (.long ((x_.toInt64) - (x_.toInt64) / ((u - t).toInt64) * ((u - t).toInt64))), .second, .unset, .unset, .unset, .unset] [(.long ((x_.toInt64) / ((u - t).toInt64))), (.double (FP.ddiv (FP.i2d x_) (FP.i2d (u - t))))]) _ _ _
      refine Ends.go (fun _ k => XS.lconst X3.here hx rfl (hb hby at_130) k) ?_
      show Ends p e below s T3 (mkF m 131 #[.val (.int p0), .val (.int p1), .val (.int p2), .val (.int u), .val (.int t), .val (.int x_), .val (.ref b1), .val (.int (u - t)), .val (.double (FP.ddiv (FP.i2d x_) (FP.i2d (u - t)))), .second, .val (.long ((x_.toInt64) / ((u - t).toInt64))), .second, .val (.long ((x_.toInt64) - (x_.toInt64) / ((u - t).toInt64) * ((u - t).toInt64))), .second, .unset, .unset, .unset, .unset] [(.long (1 : Int64)), (.long ((x_.toInt64) / ((u - t).toInt64))), (.double (FP.ddiv (FP.i2d x_) (FP.i2d (u - t))))]) _ _ _
      refine Ends.go (fun _ k => XS.ladd X3.here hx rfl (hb hby at_131) rfl k) ?_
      show Ends p e below s T3 (mkF m 132 #[.val (.int p0), .val (.int p1), .val (.int p2), .val (.int u), .val (.int t), .val (.int x_), .val (.ref b1), .val (.int (u - t)), .val (.double (FP.ddiv (FP.i2d x_) (FP.i2d (u - t)))), .second, .val (.long ((x_.toInt64) / ((u - t).toInt64))), .second, .val (.long ((x_.toInt64) - (x_.toInt64) / ((u - t).toInt64) * ((u - t).toInt64))), .second, .unset, .unset, .unset, .unset] [(.long (((x_.toInt64) / ((u - t).toInt64)) + (1 : Int64))), (.double (FP.ddiv (FP.i2d x_) (FP.i2d (u - t))))]) _ _ _
      refine Ends.go (fun _ k => XS.l2dS X3.here hx rfl (hb hby at_132) rfl rfl k) ?_
      show Ends p e below s T3 (mkF m 133 #[.val (.int p0), .val (.int p1), .val (.int p2), .val (.int u), .val (.int t), .val (.int x_), .val (.ref b1), .val (.int (u - t)), .val (.double (FP.ddiv (FP.i2d x_) (FP.i2d (u - t)))), .second, .val (.long ((x_.toInt64) / ((u - t).toInt64))), .second, .val (.long ((x_.toInt64) - (x_.toInt64) / ((u - t).toInt64) * ((u - t).toInt64))), .second, .unset, .unset, .unset, .unset] [(.double (FP.l2d (((x_.toInt64) / ((u - t).toInt64)) + (1 : Int64)))), (.double (FP.ddiv (FP.i2d x_) (FP.i2d (u - t))))]) _ _ _
      refine Ends.go (fun _ k => XS.dcmpS X3.here hx rfl (hb hby at_133) rfl (v := (-1 : Int32)) (own_c2 hx0 hy hc99_4 _) k) ?_
      show Ends p e below s T3 (mkF m 134 #[.val (.int p0), .val (.int p1), .val (.int p2), .val (.int u), .val (.int t), .val (.int x_), .val (.ref b1), .val (.int (u - t)), .val (.double (FP.ddiv (FP.i2d x_) (FP.i2d (u - t)))), .second, .val (.long ((x_.toInt64) / ((u - t).toInt64))), .second, .val (.long ((x_.toInt64) - (x_.toInt64) / ((u - t).toInt64) * ((u - t).toInt64))), .second, .unset, .unset, .unset, .unset] [(.int (-1 : Int32))]) _ _ _
      refine Ends.go (fun _ k => XS.ifYes X3.here hx rfl (pc0 := 134) (pc' := 139) rfl (hb hby at_134) rfl ((if0 _ _).trans (tlt (by decide : (-1 : Int32) < (0 : Int32))).1) (by decide) (by decide) k) ?_
      show Ends p e below s T3 (mkF m 139 #[.val (.int p0), .val (.int p1), .val (.int p2), .val (.int u), .val (.int t), .val (.int x_), .val (.ref b1), .val (.int (u - t)), .val (.double (FP.ddiv (FP.i2d x_) (FP.i2d (u - t)))), .second, .val (.long ((x_.toInt64) / ((u - t).toInt64))), .second, .val (.long ((x_.toInt64) - (x_.toInt64) / ((u - t).toInt64) * ((u - t).toInt64))), .second, .unset, .unset, .unset, .unset] []) _ _ _
      refine Ends.go (fun _ k => XS.dload X3.here hx rfl (hb hby at_139) rfl k) ?_
      show Ends p e below s T3 (mkF m 141 #[.val (.int p0), .val (.int p1), .val (.int p2), .val (.int u), .val (.int t), .val (.int x_), .val (.ref b1), .val (.int (u - t)), .val (.double (FP.ddiv (FP.i2d x_) (FP.i2d (u - t)))), .second, .val (.long ((x_.toInt64) / ((u - t).toInt64))), .second, .val (.long ((x_.toInt64) - (x_.toInt64) / ((u - t).toInt64) * ((u - t).toInt64))), .second, .unset, .unset, .unset, .unset] [(.double (FP.ddiv (FP.i2d x_) (FP.i2d (u - t))))]) _ _ _
      refine Ends.go (fun _ k => XS.lload X3.here hx rfl (hb hby at_141) rfl k) ?_
      show Ends p e below s T3 (mkF m 143 #[.val (.int p0), .val (.int p1), .val (.int p2), .val (.int u), .val (.int t), .val (.int x_), .val (.ref b1), .val (.int (u - t)), .val (.double (FP.ddiv (FP.i2d x_) (FP.i2d (u - t)))), .second, .val (.long ((x_.toInt64) / ((u - t).toInt64))), .second, .val (.long ((x_.toInt64) - (x_.toInt64) / ((u - t).toInt64) * ((u - t).toInt64))), .second, .unset, .unset, .unset, .unset] [(.long ((x_.toInt64) / ((u - t).toInt64))), (.double (FP.ddiv (FP.i2d x_) (FP.i2d (u - t))))]) _ _ _
      refine Ends.go (fun _ k => XS.l2dS X3.here hx rfl (hb hby at_143) rfl rfl k) ?_
      show Ends p e below s T3 (mkF m 144 #[.val (.int p0), .val (.int p1), .val (.int p2), .val (.int u), .val (.int t), .val (.int x_), .val (.ref b1), .val (.int (u - t)), .val (.double (FP.ddiv (FP.i2d x_) (FP.i2d (u - t)))), .second, .val (.long ((x_.toInt64) / ((u - t).toInt64))), .second, .val (.long ((x_.toInt64) - (x_.toInt64) / ((u - t).toInt64) * ((u - t).toInt64))), .second, .unset, .unset, .unset, .unset] [(.double (FP.l2d ((x_.toInt64) / ((u - t).toInt64)))), (.double (FP.ddiv (FP.i2d x_) (FP.i2d (u - t))))]) _ _ _
      refine Ends.go (fun _ k => XS.dsubS X3.here hx rfl (hb hby at_144) rfl (own_nnF hx0 hy) rfl k) ?_
      show Ends p e below s T3 (mkF m 145 #[.val (.int p0), .val (.int p1), .val (.int p2), .val (.int u), .val (.int t), .val (.int x_), .val (.ref b1), .val (.int (u - t)), .val (.double (FP.ddiv (FP.i2d x_) (FP.i2d (u - t)))), .second, .val (.long ((x_.toInt64) / ((u - t).toInt64))), .second, .val (.long ((x_.toInt64) - (x_.toInt64) / ((u - t).toInt64) * ((u - t).toInt64))), .second, .unset, .unset, .unset, .unset] [(.double (FP.dsub (FP.ddiv (FP.i2d x_) (FP.i2d (u - t))) (FP.l2d ((x_.toInt64) / ((u - t).toInt64)))))]) _ _ _
      refine Ends.go (fun _ k => XS.dstore X3.here hx rfl (hb hby at_145) rfl (l' := #[.val (.int p0), .val (.int p1), .val (.int p2), .val (.int u), .val (.int t), .val (.int x_), .val (.ref b1), .val (.int (u - t)), .val (.double (FP.ddiv (FP.i2d x_) (FP.i2d (u - t)))), .second, .val (.long ((x_.toInt64) / ((u - t).toInt64))), .second, .val (.long ((x_.toInt64) - (x_.toInt64) / ((u - t).toInt64) * ((u - t).toInt64))), .second, .val (.double (FP.dsub (FP.ddiv (FP.i2d x_) (FP.i2d (u - t))) (FP.l2d ((x_.toInt64) / ((u - t).toInt64))))), .second, .unset, .unset]) rfl k) ?_
      show Ends p e below s T3 (mkF m 147 #[.val (.int p0), .val (.int p1), .val (.int p2), .val (.int u), .val (.int t), .val (.int x_), .val (.ref b1), .val (.int (u - t)), .val (.double (FP.ddiv (FP.i2d x_) (FP.i2d (u - t)))), .second, .val (.long ((x_.toInt64) / ((u - t).toInt64))), .second, .val (.long ((x_.toInt64) - (x_.toInt64) / ((u - t).toInt64) * ((u - t).toInt64))), .second, .val (.double (FP.dsub (FP.ddiv (FP.i2d x_) (FP.i2d (u - t))) (FP.l2d ((x_.toInt64) / ((u - t).toInt64))))), .second, .unset, .unset] []) _ _ _
      refine Ends.go (X3.ldc2Long hx hown (mvT hZ (ow hw 37 rfl)) (g := (mkF m 147 #[.val (.int p0), .val (.int p1), .val (.int p2), .val (.int u), .val (.int t), .val (.int x_), .val (.ref b1), .val (.int (u - t)), .val (.double (FP.ddiv (FP.i2d x_) (FP.i2d (u - t)))), .second, .val (.long ((x_.toInt64) / ((u - t).toInt64))), .second, .val (.long ((x_.toInt64) - (x_.toInt64) / ((u - t).toInt64) * ((u - t).toInt64))), .second, .val (.double (FP.dsub (FP.ddiv (FP.i2d x_) (FP.i2d (u - t))) (FP.l2d ((x_.toInt64) / ((u - t).toInt64))))), .second, .unset, .unset] [])) rfl (hb hby at_147)) ?_
      show Ends p e below s T3 (mkF m 150 #[.val (.int p0), .val (.int p1), .val (.int p2), .val (.int u), .val (.int t), .val (.int x_), .val (.ref b1), .val (.int (u - t)), .val (.double (FP.ddiv (FP.i2d x_) (FP.i2d (u - t)))), .second, .val (.long ((x_.toInt64) / ((u - t).toInt64))), .second, .val (.long ((x_.toInt64) - (x_.toInt64) / ((u - t).toInt64) * ((u - t).toInt64))), .second, .val (.double (FP.dsub (FP.ddiv (FP.i2d x_) (FP.i2d (u - t))) (FP.l2d ((x_.toInt64) / ((u - t).toInt64))))), .second, .unset, .unset] [(.long (2 : Int64))]) _ _ _
      refine Ends.go (fun _ k => XS.lload X3.here hx rfl (hb hby at_150) rfl k) ?_
      show Ends p e below s T3 (mkF m 152 #[.val (.int p0), .val (.int p1), .val (.int p2), .val (.int u), .val (.int t), .val (.int x_), .val (.ref b1), .val (.int (u - t)), .val (.double (FP.ddiv (FP.i2d x_) (FP.i2d (u - t)))), .second, .val (.long ((x_.toInt64) / ((u - t).toInt64))), .second, .val (.long ((x_.toInt64) - (x_.toInt64) / ((u - t).toInt64) * ((u - t).toInt64))), .second, .val (.double (FP.dsub (FP.ddiv (FP.i2d x_) (FP.i2d (u - t))) (FP.l2d ((x_.toInt64) / ((u - t).toInt64))))), .second, .unset, .unset] [(.long ((x_.toInt64) - (x_.toInt64) / ((u - t).toInt64) * ((u - t).toInt64))), (.long (2 : Int64))]) _ _ _
      refine Ends.go (fun _ k => XS.lmul X3.here hx rfl (hb hby at_152) rfl k) ?_
      show Ends p e below s T3 (mkF m 153 #[.val (.int p0), .val (.int p1), .val (.int p2), .val (.int u), .val (.int t), .val (.int x_), .val (.ref b1), .val (.int (u - t)), .val (.double (FP.ddiv (FP.i2d x_) (FP.i2d (u - t)))), .second, .val (.long ((x_.toInt64) / ((u - t).toInt64))), .second, .val (.long ((x_.toInt64) - (x_.toInt64) / ((u - t).toInt64) * ((u - t).toInt64))), .second, .val (.double (FP.dsub (FP.ddiv (FP.i2d x_) (FP.i2d (u - t))) (FP.l2d ((x_.toInt64) / ((u - t).toInt64))))), .second, .unset, .unset] [(.long ((2 : Int64) * ((x_.toInt64) - (x_.toInt64) / ((u - t).toInt64) * ((u - t).toInt64))))]) _ _ _
      refine Ends.go (fun _ k => XS.lstore X3.here hx rfl (hb hby at_153) rfl (l' := #[.val (.int p0), .val (.int p1), .val (.int p2), .val (.int u), .val (.int t), .val (.int x_), .val (.ref b1), .val (.int (u - t)), .val (.double (FP.ddiv (FP.i2d x_) (FP.i2d (u - t)))), .second, .val (.long ((x_.toInt64) / ((u - t).toInt64))), .second, .val (.long ((x_.toInt64) - (x_.toInt64) / ((u - t).toInt64) * ((u - t).toInt64))), .second, .val (.double (FP.dsub (FP.ddiv (FP.i2d x_) (FP.i2d (u - t))) (FP.l2d ((x_.toInt64) / ((u - t).toInt64))))), .second, .val (.long ((2 : Int64) * ((x_.toInt64) - (x_.toInt64) / ((u - t).toInt64) * ((u - t).toInt64)))), .second]) rfl k) ?_
      show Ends p e below s T3 (mkF m 155 #[.val (.int p0), .val (.int p1), .val (.int p2), .val (.int u), .val (.int t), .val (.int x_), .val (.ref b1), .val (.int (u - t)), .val (.double (FP.ddiv (FP.i2d x_) (FP.i2d (u - t)))), .second, .val (.long ((x_.toInt64) / ((u - t).toInt64))), .second, .val (.long ((x_.toInt64) - (x_.toInt64) / ((u - t).toInt64) * ((u - t).toInt64))), .second, .val (.double (FP.dsub (FP.ddiv (FP.i2d x_) (FP.i2d (u - t))) (FP.l2d ((x_.toInt64) / ((u - t).toInt64))))), .second, .val (.long ((2 : Int64) * ((x_.toInt64) - (x_.toInt64) / ((u - t).toInt64) * ((u - t).toInt64)))), .second] []) _ _ _
      show Ends p e below s T3 (mkF m 155 #[.val (.int p0), .val (.int p1), .val (.int p2), .val (.int u), .val (.int t), .val (.int x_), .val (.ref b1), .val (.int (u - t)), .val (.double (FP.ddiv (FP.i2d x_) (FP.i2d (u - t)))), .second, .val (.long ((x_.toInt64) / ((u - t).toInt64))), .second, .val (.long ((x_.toInt64) - (x_.toInt64) / ((u - t).toInt64) * ((u - t).toInt64))), .second, .val (.double (FP.dsub (FP.ddiv (FP.i2d x_) (FP.i2d (u - t))) (FP.l2d ((x_.toInt64) / ((u - t).toInt64))))), .second, .val (.long ((2 : Int64) * ((x_.toInt64) - (x_.toInt64) / ((u - t).toInt64) * ((u - t).toInt64)))), .second] []) _ _ _
      rcases own_tri ((2 : Int64) * ((x_.toInt64) - (x_.toInt64) / ((u - t).toInt64) * ((u - t).toInt64))) (u - t).toInt64 with h3 | h3 | h3
      · refine Ends.go (fun _ k => XS.dload X3.here hx rfl (hb hby at_155) rfl k) ?_
        show Ends p e below s T3 (mkF m 157 #[.val (.int p0), .val (.int p1), .val (.int p2), .val (.int u), .val (.int t), .val (.int x_), .val (.ref b1), .val (.int (u - t)), .val (.double (FP.ddiv (FP.i2d x_) (FP.i2d (u - t)))), .second, .val (.long ((x_.toInt64) / ((u - t).toInt64))), .second, .val (.long ((x_.toInt64) - (x_.toInt64) / ((u - t).toInt64) * ((u - t).toInt64))), .second, .val (.double (FP.dsub (FP.ddiv (FP.i2d x_) (FP.i2d (u - t))) (FP.l2d ((x_.toInt64) / ((u - t).toInt64))))), .second, .val (.long ((2 : Int64) * ((x_.toInt64) - (x_.toInt64) / ((u - t).toInt64) * ((u - t).toInt64)))), .second] [(.double (FP.dsub (FP.ddiv (FP.i2d x_) (FP.i2d (u - t))) (FP.l2d ((x_.toInt64) / ((u - t).toInt64)))))]) _ _ _
        refine Ends.go (X3.ldc2DoubleC hx hown (mvT hZ (ow hw 38 rfl)) (g := (mkF m 157 #[.val (.int p0), .val (.int p1), .val (.int p2), .val (.int u), .val (.int t), .val (.int x_), .val (.ref b1), .val (.int (u - t)), .val (.double (FP.ddiv (FP.i2d x_) (FP.i2d (u - t)))), .second, .val (.long ((x_.toInt64) / ((u - t).toInt64))), .second, .val (.long ((x_.toInt64) - (x_.toInt64) / ((u - t).toInt64) * ((u - t).toInt64))), .second, .val (.double (FP.dsub (FP.ddiv (FP.i2d x_) (FP.i2d (u - t))) (FP.l2d ((x_.toInt64) / ((u - t).toInt64))))), .second, .val (.long ((2 : Int64) * ((x_.toInt64) - (x_.toInt64) / ((u - t).toInt64) * ((u - t).toInt64)))), .second] [(.double (FP.dsub (FP.ddiv (FP.i2d x_) (FP.i2d (u - t))) (FP.l2d ((x_.toInt64) / ((u - t).toInt64)))))])) rfl (hb hby at_157)) ?_
        show Ends p e below s T3 (mkF m 160 #[.val (.int p0), .val (.int p1), .val (.int p2), .val (.int u), .val (.int t), .val (.int x_), .val (.ref b1), .val (.int (u - t)), .val (.double (FP.ddiv (FP.i2d x_) (FP.i2d (u - t)))), .second, .val (.long ((x_.toInt64) / ((u - t).toInt64))), .second, .val (.long ((x_.toInt64) - (x_.toInt64) / ((u - t).toInt64) * ((u - t).toInt64))), .second, .val (.double (FP.dsub (FP.ddiv (FP.i2d x_) (FP.i2d (u - t))) (FP.l2d ((x_.toInt64) / ((u - t).toInt64))))), .second, .val (.long ((2 : Int64) * ((x_.toInt64) - (x_.toInt64) / ((u - t).toInt64) * ((u - t).toInt64)))), .second] [(.double (4602678819172646912 : UInt64)), (.double (FP.dsub (FP.ddiv (FP.i2d x_) (FP.i2d (u - t))) (FP.l2d ((x_.toInt64) / ((u - t).toInt64)))))]) _ _ _
        refine Ends.go (fun _ k => XS.dcmpS X3.here hx rfl (hb hby at_160) rfl (v := (-1 : Int32)) (own_f1 hx0 hy h3 _) k) ?_
        show Ends p e below s T3 (mkF m 161 #[.val (.int p0), .val (.int p1), .val (.int p2), .val (.int u), .val (.int t), .val (.int x_), .val (.ref b1), .val (.int (u - t)), .val (.double (FP.ddiv (FP.i2d x_) (FP.i2d (u - t)))), .second, .val (.long ((x_.toInt64) / ((u - t).toInt64))), .second, .val (.long ((x_.toInt64) - (x_.toInt64) / ((u - t).toInt64) * ((u - t).toInt64))), .second, .val (.double (FP.dsub (FP.ddiv (FP.i2d x_) (FP.i2d (u - t))) (FP.l2d ((x_.toInt64) / ((u - t).toInt64))))), .second, .val (.long ((2 : Int64) * ((x_.toInt64) - (x_.toInt64) / ((u - t).toInt64) * ((u - t).toInt64)))), .second] [(.int (-1 : Int32))]) _ _ _
        refine Ends.go (fun _ k => XS.ifNo X3.here hx rfl (hb hby at_161) rfl ((if0 _ _).trans (tlt (by decide : (-1 : Int32) < (0 : Int32))).2.1) k) ?_
        show Ends p e below s T3 (mkF m 164 #[.val (.int p0), .val (.int p1), .val (.int p2), .val (.int u), .val (.int t), .val (.int x_), .val (.ref b1), .val (.int (u - t)), .val (.double (FP.ddiv (FP.i2d x_) (FP.i2d (u - t)))), .second, .val (.long ((x_.toInt64) / ((u - t).toInt64))), .second, .val (.long ((x_.toInt64) - (x_.toInt64) / ((u - t).toInt64) * ((u - t).toInt64))), .second, .val (.double (FP.dsub (FP.ddiv (FP.i2d x_) (FP.i2d (u - t))) (FP.l2d ((x_.toInt64) / ((u - t).toInt64))))), .second, .val (.long ((2 : Int64) * ((x_.toInt64) - (x_.toInt64) / ((u - t).toInt64) * ((u - t).toInt64)))), .second] []) _ _ _
        refine Ends.go (fun _ k => XS.iconst X3.here hx rfl (hb hby at_164) k) ?_
        show Ends p e below s T3 (mkF m 165 #[.val (.int p0), .val (.int p1), .val (.int p2), .val (.int u), .val (.int t), .val (.int x_), .val (.ref b1), .val (.int (u - t)), .val (.double (FP.ddiv (FP.i2d x_) (FP.i2d (u - t)))), .second, .val (.long ((x_.toInt64) / ((u - t).toInt64))), .second, .val (.long ((x_.toInt64) - (x_.toInt64) / ((u - t).toInt64) * ((u - t).toInt64))), .second, .val (.double (FP.dsub (FP.ddiv (FP.i2d x_) (FP.i2d (u - t))) (FP.l2d ((x_.toInt64) / ((u - t).toInt64))))), .second, .val (.long ((2 : Int64) * ((x_.toInt64) - (x_.toInt64) / ((u - t).toInt64) * ((u - t).toInt64)))), .second] [(.int (1 : Int32))]) _ _ _
        refine Ends.go (fun _ k => XS.goto X3.here hx rfl (pc0 := 165) (pc' := 169) rfl (hb hby at_165) (by decide) (by decide) k) ?_
        show Ends p e below s T3 (mkF m 169 #[.val (.int p0), .val (.int p1), .val (.int p2), .val (.int u), .val (.int t), .val (.int x_), .val (.ref b1), .val (.int (u - t)), .val (.double (FP.ddiv (FP.i2d x_) (FP.i2d (u - t)))), .second, .val (.long ((x_.toInt64) / ((u - t).toInt64))), .second, .val (.long ((x_.toInt64) - (x_.toInt64) / ((u - t).toInt64) * ((u - t).toInt64))), .second, .val (.double (FP.dsub (FP.ddiv (FP.i2d x_) (FP.i2d (u - t))) (FP.l2d ((x_.toInt64) / ((u - t).toInt64))))), .second, .val (.long ((2 : Int64) * ((x_.toInt64) - (x_.toInt64) / ((u - t).toInt64) * ((u - t).toInt64)))), .second] [(.int (1 : Int32))]) _ _ _
        refine Ends.go (fun _ k => XS.lload X3.here hx rfl (hb hby at_169) rfl k) ?_
        show Ends p e below s T3 (mkF m 171 #[.val (.int p0), .val (.int p1), .val (.int p2), .val (.int u), .val (.int t), .val (.int x_), .val (.ref b1), .val (.int (u - t)), .val (.double (FP.ddiv (FP.i2d x_) (FP.i2d (u - t)))), .second, .val (.long ((x_.toInt64) / ((u - t).toInt64))), .second, .val (.long ((x_.toInt64) - (x_.toInt64) / ((u - t).toInt64) * ((u - t).toInt64))), .second, .val (.double (FP.dsub (FP.ddiv (FP.i2d x_) (FP.i2d (u - t))) (FP.l2d ((x_.toInt64) / ((u - t).toInt64))))), .second, .val (.long ((2 : Int64) * ((x_.toInt64) - (x_.toInt64) / ((u - t).toInt64) * ((u - t).toInt64)))), .second] [(.long ((2 : Int64) * ((x_.toInt64) - (x_.toInt64) / ((u - t).toInt64) * ((u - t).toInt64)))), (.int (1 : Int32))]) _ _ _
        refine Ends.go (fun _ k => XS.iload X3.here hx rfl (hb hby at_171) rfl k) ?_
        show Ends p e below s T3 (mkF m 173 #[.val (.int p0), .val (.int p1), .val (.int p2), .val (.int u), .val (.int t), .val (.int x_), .val (.ref b1), .val (.int (u - t)), .val (.double (FP.ddiv (FP.i2d x_) (FP.i2d (u - t)))), .second, .val (.long ((x_.toInt64) / ((u - t).toInt64))), .second, .val (.long ((x_.toInt64) - (x_.toInt64) / ((u - t).toInt64) * ((u - t).toInt64))), .second, .val (.double (FP.dsub (FP.ddiv (FP.i2d x_) (FP.i2d (u - t))) (FP.l2d ((x_.toInt64) / ((u - t).toInt64))))), .second, .val (.long ((2 : Int64) * ((x_.toInt64) - (x_.toInt64) / ((u - t).toInt64) * ((u - t).toInt64)))), .second] [(.int (u - t)), (.long ((2 : Int64) * ((x_.toInt64) - (x_.toInt64) / ((u - t).toInt64) * ((u - t).toInt64)))), (.int (1 : Int32))]) _ _ _
        refine Ends.go (fun _ k => XS.i2l X3.here hx rfl (hb hby at_173) rfl k) ?_
        show Ends p e below s T3 (mkF m 174 #[.val (.int p0), .val (.int p1), .val (.int p2), .val (.int u), .val (.int t), .val (.int x_), .val (.ref b1), .val (.int (u - t)), .val (.double (FP.ddiv (FP.i2d x_) (FP.i2d (u - t)))), .second, .val (.long ((x_.toInt64) / ((u - t).toInt64))), .second, .val (.long ((x_.toInt64) - (x_.toInt64) / ((u - t).toInt64) * ((u - t).toInt64))), .second, .val (.double (FP.dsub (FP.ddiv (FP.i2d x_) (FP.i2d (u - t))) (FP.l2d ((x_.toInt64) / ((u - t).toInt64))))), .second, .val (.long ((2 : Int64) * ((x_.toInt64) - (x_.toInt64) / ((u - t).toInt64) * ((u - t).toInt64)))), .second] [(.long ((u - t).toInt64)), (.long ((2 : Int64) * ((x_.toInt64) - (x_.toInt64) / ((u - t).toInt64) * ((u - t).toInt64)))), (.int (1 : Int32))]) _ _ _
        refine Ends.go (fun _ k => XS.lcmp X3.here hx rfl (hb hby at_174) rfl k) ?_
        show Ends p e below s T3 (mkF m 175 #[.val (.int p0), .val (.int p1), .val (.int p2), .val (.int u), .val (.int t), .val (.int x_), .val (.ref b1), .val (.int (u - t)), .val (.double (FP.ddiv (FP.i2d x_) (FP.i2d (u - t)))), .second, .val (.long ((x_.toInt64) / ((u - t).toInt64))), .second, .val (.long ((x_.toInt64) - (x_.toInt64) / ((u - t).toInt64) * ((u - t).toInt64))), .second, .val (.double (FP.dsub (FP.ddiv (FP.i2d x_) (FP.i2d (u - t))) (FP.l2d ((x_.toInt64) / ((u - t).toInt64))))), .second, .val (.long ((2 : Int64) * ((x_.toInt64) - (x_.toInt64) / ((u - t).toInt64) * ((u - t).toInt64)))), .second] [(.int (lcmpW ((2 : Int64) * ((x_.toInt64) - (x_.toInt64) / ((u - t).toInt64) * ((u - t).toInt64))) ((u - t).toInt64))), (.int (1 : Int32))]) _ _ _
        refine Ends.go (fun _ k => XS.ifNo X3.here hx rfl (hb hby at_175) rfl ((if0 _ _).trans (tlt (((lw_lt _ _).mpr h3) : (lcmpW ((2 : Int64) * ((x_.toInt64) - (x_.toInt64) / ((u - t).toInt64) * ((u - t).toInt64))) ((u - t).toInt64)) < (0 : Int32))).2.1) k) ?_
        show Ends p e below s T3 (mkF m 178 #[.val (.int p0), .val (.int p1), .val (.int p2), .val (.int u), .val (.int t), .val (.int x_), .val (.ref b1), .val (.int (u - t)), .val (.double (FP.ddiv (FP.i2d x_) (FP.i2d (u - t)))), .second, .val (.long ((x_.toInt64) / ((u - t).toInt64))), .second, .val (.long ((x_.toInt64) - (x_.toInt64) / ((u - t).toInt64) * ((u - t).toInt64))), .second, .val (.double (FP.dsub (FP.ddiv (FP.i2d x_) (FP.i2d (u - t))) (FP.l2d ((x_.toInt64) / ((u - t).toInt64))))), .second, .val (.long ((2 : Int64) * ((x_.toInt64) - (x_.toInt64) / ((u - t).toInt64) * ((u - t).toInt64)))), .second] [(.int (1 : Int32))]) _ _ _
        refine Ends.go (fun _ k => XS.iconst X3.here hx rfl (hb hby at_178) k) ?_
        show Ends p e below s T3 (mkF m 179 #[.val (.int p0), .val (.int p1), .val (.int p2), .val (.int u), .val (.int t), .val (.int x_), .val (.ref b1), .val (.int (u - t)), .val (.double (FP.ddiv (FP.i2d x_) (FP.i2d (u - t)))), .second, .val (.long ((x_.toInt64) / ((u - t).toInt64))), .second, .val (.long ((x_.toInt64) - (x_.toInt64) / ((u - t).toInt64) * ((u - t).toInt64))), .second, .val (.double (FP.dsub (FP.ddiv (FP.i2d x_) (FP.i2d (u - t))) (FP.l2d ((x_.toInt64) / ((u - t).toInt64))))), .second, .val (.long ((2 : Int64) * ((x_.toInt64) - (x_.toInt64) / ((u - t).toInt64) * ((u - t).toInt64)))), .second] [(.int (1 : Int32)), (.int (1 : Int32))]) _ _ _
        refine Ends.go (fun _ k => XS.goto X3.here hx rfl (pc0 := 179) (pc' := 183) rfl (hb hby at_179) (by decide) (by decide) k) ?_
        show Ends p e below s T3 (mkF m 183 #[.val (.int p0), .val (.int p1), .val (.int p2), .val (.int u), .val (.int t), .val (.int x_), .val (.ref b1), .val (.int (u - t)), .val (.double (FP.ddiv (FP.i2d x_) (FP.i2d (u - t)))), .second, .val (.long ((x_.toInt64) / ((u - t).toInt64))), .second, .val (.long ((x_.toInt64) - (x_.toInt64) / ((u - t).toInt64) * ((u - t).toInt64))), .second, .val (.double (FP.dsub (FP.ddiv (FP.i2d x_) (FP.i2d (u - t))) (FP.l2d ((x_.toInt64) / ((u - t).toInt64))))), .second, .val (.long ((2 : Int64) * ((x_.toInt64) - (x_.toInt64) / ((u - t).toInt64) * ((u - t).toInt64)))), .second] [(.int (1 : Int32)), (.int (1 : Int32))]) _ _ _
        refine Ends.go (fun _ k => XS.icmpNo X3.here hx rfl (hb hby at_183) rfl (teq (by decide : (1 : Int32) = (1 : Int32))).2 k) ?_
        show Ends p e below s T3 (mkF m 186 #[.val (.int p0), .val (.int p1), .val (.int p2), .val (.int u), .val (.int t), .val (.int x_), .val (.ref b1), .val (.int (u - t)), .val (.double (FP.ddiv (FP.i2d x_) (FP.i2d (u - t)))), .second, .val (.long ((x_.toInt64) / ((u - t).toInt64))), .second, .val (.long ((x_.toInt64) - (x_.toInt64) / ((u - t).toInt64) * ((u - t).toInt64))), .second, .val (.double (FP.dsub (FP.ddiv (FP.i2d x_) (FP.i2d (u - t))) (FP.l2d ((x_.toInt64) / ((u - t).toInt64))))), .second, .val (.long ((2 : Int64) * ((x_.toInt64) - (x_.toInt64) / ((u - t).toInt64) * ((u - t).toInt64)))), .second] []) _ _ _
        refine Ends.go (fun _ k => XS.dload X3.here hx rfl (hb hby at_186) rfl k) ?_
        show Ends p e below s T3 (mkF m 188 #[.val (.int p0), .val (.int p1), .val (.int p2), .val (.int u), .val (.int t), .val (.int x_), .val (.ref b1), .val (.int (u - t)), .val (.double (FP.ddiv (FP.i2d x_) (FP.i2d (u - t)))), .second, .val (.long ((x_.toInt64) / ((u - t).toInt64))), .second, .val (.long ((x_.toInt64) - (x_.toInt64) / ((u - t).toInt64) * ((u - t).toInt64))), .second, .val (.double (FP.dsub (FP.ddiv (FP.i2d x_) (FP.i2d (u - t))) (FP.l2d ((x_.toInt64) / ((u - t).toInt64))))), .second, .val (.long ((2 : Int64) * ((x_.toInt64) - (x_.toInt64) / ((u - t).toInt64) * ((u - t).toInt64)))), .second] [(.double (FP.dsub (FP.ddiv (FP.i2d x_) (FP.i2d (u - t))) (FP.l2d ((x_.toInt64) / ((u - t).toInt64)))))]) _ _ _
        refine Ends.go (X3.ldc2DoubleC hx hown (mvT hZ (ow hw 38 rfl)) (g := (mkF m 188 #[.val (.int p0), .val (.int p1), .val (.int p2), .val (.int u), .val (.int t), .val (.int x_), .val (.ref b1), .val (.int (u - t)), .val (.double (FP.ddiv (FP.i2d x_) (FP.i2d (u - t)))), .second, .val (.long ((x_.toInt64) / ((u - t).toInt64))), .second, .val (.long ((x_.toInt64) - (x_.toInt64) / ((u - t).toInt64) * ((u - t).toInt64))), .second, .val (.double (FP.dsub (FP.ddiv (FP.i2d x_) (FP.i2d (u - t))) (FP.l2d ((x_.toInt64) / ((u - t).toInt64))))), .second, .val (.long ((2 : Int64) * ((x_.toInt64) - (x_.toInt64) / ((u - t).toInt64) * ((u - t).toInt64)))), .second] [(.double (FP.dsub (FP.ddiv (FP.i2d x_) (FP.i2d (u - t))) (FP.l2d ((x_.toInt64) / ((u - t).toInt64)))))])) rfl (hb hby at_188)) ?_
        show Ends p e below s T3 (mkF m 191 #[.val (.int p0), .val (.int p1), .val (.int p2), .val (.int u), .val (.int t), .val (.int x_), .val (.ref b1), .val (.int (u - t)), .val (.double (FP.ddiv (FP.i2d x_) (FP.i2d (u - t)))), .second, .val (.long ((x_.toInt64) / ((u - t).toInt64))), .second, .val (.long ((x_.toInt64) - (x_.toInt64) / ((u - t).toInt64) * ((u - t).toInt64))), .second, .val (.double (FP.dsub (FP.ddiv (FP.i2d x_) (FP.i2d (u - t))) (FP.l2d ((x_.toInt64) / ((u - t).toInt64))))), .second, .val (.long ((2 : Int64) * ((x_.toInt64) - (x_.toInt64) / ((u - t).toInt64) * ((u - t).toInt64)))), .second] [(.double (4602678819172646912 : UInt64)), (.double (FP.dsub (FP.ddiv (FP.i2d x_) (FP.i2d (u - t))) (FP.l2d ((x_.toInt64) / ((u - t).toInt64)))))]) _ _ _
        refine Ends.go (fun _ k => XS.dcmpS X3.here hx rfl (hb hby at_191) rfl (v := (-1 : Int32)) (own_f1 hx0 hy h3 _) k) ?_
        show Ends p e below s T3 (mkF m 192 #[.val (.int p0), .val (.int p1), .val (.int p2), .val (.int u), .val (.int t), .val (.int x_), .val (.ref b1), .val (.int (u - t)), .val (.double (FP.ddiv (FP.i2d x_) (FP.i2d (u - t)))), .second, .val (.long ((x_.toInt64) / ((u - t).toInt64))), .second, .val (.long ((x_.toInt64) - (x_.toInt64) / ((u - t).toInt64) * ((u - t).toInt64))), .second, .val (.double (FP.dsub (FP.ddiv (FP.i2d x_) (FP.i2d (u - t))) (FP.l2d ((x_.toInt64) / ((u - t).toInt64))))), .second, .val (.long ((2 : Int64) * ((x_.toInt64) - (x_.toInt64) / ((u - t).toInt64) * ((u - t).toInt64)))), .second] [(.int (-1 : Int32))]) _ _ _
        refine Ends.go (fun _ k => XS.ifYes X3.here hx rfl (pc0 := 192) (pc' := 199) rfl (hb hby at_192) rfl ((if0 _ _).trans (flt (by decide : ¬ ((0 : Int32) < (-1 : Int32)))).2.2.2) (by decide) (by decide) k) ?_
        show Ends p e below s T3 (mkF m 199 #[.val (.int p0), .val (.int p1), .val (.int p2), .val (.int u), .val (.int t), .val (.int x_), .val (.ref b1), .val (.int (u - t)), .val (.double (FP.ddiv (FP.i2d x_) (FP.i2d (u - t)))), .second, .val (.long ((x_.toInt64) / ((u - t).toInt64))), .second, .val (.long ((x_.toInt64) - (x_.toInt64) / ((u - t).toInt64) * ((u - t).toInt64))), .second, .val (.double (FP.dsub (FP.ddiv (FP.i2d x_) (FP.i2d (u - t))) (FP.l2d ((x_.toInt64) / ((u - t).toInt64))))), .second, .val (.long ((2 : Int64) * ((x_.toInt64) - (x_.toInt64) / ((u - t).toInt64) * ((u - t).toInt64)))), .second] []) _ _ _
        refine Ends.go (fun _ k => XS.iconst X3.here hx rfl (hb hby at_199) k) ?_
        show Ends p e below s T3 (mkF m 200 #[.val (.int p0), .val (.int p1), .val (.int p2), .val (.int u), .val (.int t), .val (.int x_), .val (.ref b1), .val (.int (u - t)), .val (.double (FP.ddiv (FP.i2d x_) (FP.i2d (u - t)))), .second, .val (.long ((x_.toInt64) / ((u - t).toInt64))), .second, .val (.long ((x_.toInt64) - (x_.toInt64) / ((u - t).toInt64) * ((u - t).toInt64))), .second, .val (.double (FP.dsub (FP.ddiv (FP.i2d x_) (FP.i2d (u - t))) (FP.l2d ((x_.toInt64) / ((u - t).toInt64))))), .second, .val (.long ((2 : Int64) * ((x_.toInt64) - (x_.toInt64) / ((u - t).toInt64) * ((u - t).toInt64)))), .second] [(.int (0 : Int32))]) _ _ _
        refine Ends.go (fun _ k => XS.lload X3.here hx rfl (hb hby at_200) rfl k) ?_
        show Ends p e below s T3 (mkF m 202 #[.val (.int p0), .val (.int p1), .val (.int p2), .val (.int u), .val (.int t), .val (.int x_), .val (.ref b1), .val (.int (u - t)), .val (.double (FP.ddiv (FP.i2d x_) (FP.i2d (u - t)))), .second, .val (.long ((x_.toInt64) / ((u - t).toInt64))), .second, .val (.long ((x_.toInt64) - (x_.toInt64) / ((u - t).toInt64) * ((u - t).toInt64))), .second, .val (.double (FP.dsub (FP.ddiv (FP.i2d x_) (FP.i2d (u - t))) (FP.l2d ((x_.toInt64) / ((u - t).toInt64))))), .second, .val (.long ((2 : Int64) * ((x_.toInt64) - (x_.toInt64) / ((u - t).toInt64) * ((u - t).toInt64)))), .second] [(.long ((2 : Int64) * ((x_.toInt64) - (x_.toInt64) / ((u - t).toInt64) * ((u - t).toInt64)))), (.int (0 : Int32))]) _ _ _
        refine Ends.go (fun _ k => XS.iload X3.here hx rfl (hb hby at_202) rfl k) ?_
        show Ends p e below s T3 (mkF m 204 #[.val (.int p0), .val (.int p1), .val (.int p2), .val (.int u), .val (.int t), .val (.int x_), .val (.ref b1), .val (.int (u - t)), .val (.double (FP.ddiv (FP.i2d x_) (FP.i2d (u - t)))), .second, .val (.long ((x_.toInt64) / ((u - t).toInt64))), .second, .val (.long ((x_.toInt64) - (x_.toInt64) / ((u - t).toInt64) * ((u - t).toInt64))), .second, .val (.double (FP.dsub (FP.ddiv (FP.i2d x_) (FP.i2d (u - t))) (FP.l2d ((x_.toInt64) / ((u - t).toInt64))))), .second, .val (.long ((2 : Int64) * ((x_.toInt64) - (x_.toInt64) / ((u - t).toInt64) * ((u - t).toInt64)))), .second] [(.int (u - t)), (.long ((2 : Int64) * ((x_.toInt64) - (x_.toInt64) / ((u - t).toInt64) * ((u - t).toInt64)))), (.int (0 : Int32))]) _ _ _
        refine Ends.go (fun _ k => XS.i2l X3.here hx rfl (hb hby at_204) rfl k) ?_
        show Ends p e below s T3 (mkF m 205 #[.val (.int p0), .val (.int p1), .val (.int p2), .val (.int u), .val (.int t), .val (.int x_), .val (.ref b1), .val (.int (u - t)), .val (.double (FP.ddiv (FP.i2d x_) (FP.i2d (u - t)))), .second, .val (.long ((x_.toInt64) / ((u - t).toInt64))), .second, .val (.long ((x_.toInt64) - (x_.toInt64) / ((u - t).toInt64) * ((u - t).toInt64))), .second, .val (.double (FP.dsub (FP.ddiv (FP.i2d x_) (FP.i2d (u - t))) (FP.l2d ((x_.toInt64) / ((u - t).toInt64))))), .second, .val (.long ((2 : Int64) * ((x_.toInt64) - (x_.toInt64) / ((u - t).toInt64) * ((u - t).toInt64)))), .second] [(.long ((u - t).toInt64)), (.long ((2 : Int64) * ((x_.toInt64) - (x_.toInt64) / ((u - t).toInt64) * ((u - t).toInt64)))), (.int (0 : Int32))]) _ _ _
        refine Ends.go (fun _ k => XS.lcmp X3.here hx rfl (hb hby at_205) rfl k) ?_
        show Ends p e below s T3 (mkF m 206 #[.val (.int p0), .val (.int p1), .val (.int p2), .val (.int u), .val (.int t), .val (.int x_), .val (.ref b1), .val (.int (u - t)), .val (.double (FP.ddiv (FP.i2d x_) (FP.i2d (u - t)))), .second, .val (.long ((x_.toInt64) / ((u - t).toInt64))), .second, .val (.long ((x_.toInt64) - (x_.toInt64) / ((u - t).toInt64) * ((u - t).toInt64))), .second, .val (.double (FP.dsub (FP.ddiv (FP.i2d x_) (FP.i2d (u - t))) (FP.l2d ((x_.toInt64) / ((u - t).toInt64))))), .second, .val (.long ((2 : Int64) * ((x_.toInt64) - (x_.toInt64) / ((u - t).toInt64) * ((u - t).toInt64)))), .second] [(.int (lcmpW ((2 : Int64) * ((x_.toInt64) - (x_.toInt64) / ((u - t).toInt64) * ((u - t).toInt64))) ((u - t).toInt64))), (.int (0 : Int32))]) _ _ _
        refine Ends.go (fun _ k => XS.ifYes X3.here hx rfl (pc0 := 206) (pc' := 213) rfl (hb hby at_206) rfl ((if0 _ _).trans (flt ((fun q => own_ngm h3 ((lw_gt _ _).mp q)) : ¬ ((0 : Int32) < (lcmpW ((2 : Int64) * ((x_.toInt64) - (x_.toInt64) / ((u - t).toInt64) * ((u - t).toInt64))) ((u - t).toInt64))))).2.2.2) (by decide) (by decide) k) ?_
        show Ends p e below s T3 (mkF m 213 #[.val (.int p0), .val (.int p1), .val (.int p2), .val (.int u), .val (.int t), .val (.int x_), .val (.ref b1), .val (.int (u - t)), .val (.double (FP.ddiv (FP.i2d x_) (FP.i2d (u - t)))), .second, .val (.long ((x_.toInt64) / ((u - t).toInt64))), .second, .val (.long ((x_.toInt64) - (x_.toInt64) / ((u - t).toInt64) * ((u - t).toInt64))), .second, .val (.double (FP.dsub (FP.ddiv (FP.i2d x_) (FP.i2d (u - t))) (FP.l2d ((x_.toInt64) / ((u - t).toInt64))))), .second, .val (.long ((2 : Int64) * ((x_.toInt64) - (x_.toInt64) / ((u - t).toInt64) * ((u - t).toInt64)))), .second] [(.int (0 : Int32))]) _ _ _
        refine Ends.go (fun _ k => XS.iconst X3.here hx rfl (hb hby at_213) k) ?_
        show Ends p e below s T3 (mkF m 214 #[.val (.int p0), .val (.int p1), .val (.int p2), .val (.int u), .val (.int t), .val (.int x_), .val (.ref b1), .val (.int (u - t)), .val (.double (FP.ddiv (FP.i2d x_) (FP.i2d (u - t)))), .second, .val (.long ((x_.toInt64) / ((u - t).toInt64))), .second, .val (.long ((x_.toInt64) - (x_.toInt64) / ((u - t).toInt64) * ((u - t).toInt64))), .second, .val (.double (FP.dsub (FP.ddiv (FP.i2d x_) (FP.i2d (u - t))) (FP.l2d ((x_.toInt64) / ((u - t).toInt64))))), .second, .val (.long ((2 : Int64) * ((x_.toInt64) - (x_.toInt64) / ((u - t).toInt64) * ((u - t).toInt64)))), .second] [(.int (0 : Int32)), (.int (0 : Int32))]) _ _ _
        refine Ends.go (fun _ k => XS.icmpNo X3.here hx rfl (hb hby at_214) rfl (teq (by decide : (0 : Int32) = (0 : Int32))).2 k) ?_
        show Ends p e below s T3 (mkF m 217 #[.val (.int p0), .val (.int p1), .val (.int p2), .val (.int u), .val (.int t), .val (.int x_), .val (.ref b1), .val (.int (u - t)), .val (.double (FP.ddiv (FP.i2d x_) (FP.i2d (u - t)))), .second, .val (.long ((x_.toInt64) / ((u - t).toInt64))), .second, .val (.long ((x_.toInt64) - (x_.toInt64) / ((u - t).toInt64) * ((u - t).toInt64))), .second, .val (.double (FP.dsub (FP.ddiv (FP.i2d x_) (FP.i2d (u - t))) (FP.l2d ((x_.toInt64) / ((u - t).toInt64))))), .second, .val (.long ((2 : Int64) * ((x_.toInt64) - (x_.toInt64) / ((u - t).toInt64) * ((u - t).toInt64)))), .second] []) _ _ _
        refine Ends.go (fun _ k => XS.iconst X3.here hx rfl (hb hby at_217) k) ?_
        show Ends p e below s T3 (mkF m 218 #[.val (.int p0), .val (.int p1), .val (.int p2), .val (.int u), .val (.int t), .val (.int x_), .val (.ref b1), .val (.int (u - t)), .val (.double (FP.ddiv (FP.i2d x_) (FP.i2d (u - t)))), .second, .val (.long ((x_.toInt64) / ((u - t).toInt64))), .second, .val (.long ((x_.toInt64) - (x_.toInt64) / ((u - t).toInt64) * ((u - t).toInt64))), .second, .val (.double (FP.dsub (FP.ddiv (FP.i2d x_) (FP.i2d (u - t))) (FP.l2d ((x_.toInt64) / ((u - t).toInt64))))), .second, .val (.long ((2 : Int64) * ((x_.toInt64) - (x_.toInt64) / ((u - t).toInt64) * ((u - t).toInt64)))), .second] [(.int (1 : Int32))]) _ _ _
        refine Ends.go (fun _ k => XS.goto X3.here hx rfl (pc0 := 218) (pc' := 222) rfl (hb hby at_218) (by decide) (by decide) k) ?_
        show Ends p e below s T3 (mkF m 222 #[.val (.int p0), .val (.int p1), .val (.int p2), .val (.int u), .val (.int t), .val (.int x_), .val (.ref b1), .val (.int (u - t)), .val (.double (FP.ddiv (FP.i2d x_) (FP.i2d (u - t)))), .second, .val (.long ((x_.toInt64) / ((u - t).toInt64))), .second, .val (.long ((x_.toInt64) - (x_.toInt64) / ((u - t).toInt64) * ((u - t).toInt64))), .second, .val (.double (FP.dsub (FP.ddiv (FP.i2d x_) (FP.i2d (u - t))) (FP.l2d ((x_.toInt64) / ((u - t).toInt64))))), .second, .val (.long ((2 : Int64) * ((x_.toInt64) - (x_.toInt64) / ((u - t).toInt64) * ((u - t).toInt64)))), .second] [(.int (1 : Int32))]) _ _ _
        refine Ends.retZ X3 hx Bd.notSynchronized (t := .boolean) Bd.returns (by simp) (hb hby at_222) (by decide) (by decide) ?_
        exact ⟨rfl, N3⟩
      · refine Ends.go (fun _ k => XS.dload X3.here hx rfl (hb hby at_155) rfl k) ?_
        show Ends p e below s T3 (mkF m 157 #[.val (.int p0), .val (.int p1), .val (.int p2), .val (.int u), .val (.int t), .val (.int x_), .val (.ref b1), .val (.int (u - t)), .val (.double (FP.ddiv (FP.i2d x_) (FP.i2d (u - t)))), .second, .val (.long ((x_.toInt64) / ((u - t).toInt64))), .second, .val (.long ((x_.toInt64) - (x_.toInt64) / ((u - t).toInt64) * ((u - t).toInt64))), .second, .val (.double (FP.dsub (FP.ddiv (FP.i2d x_) (FP.i2d (u - t))) (FP.l2d ((x_.toInt64) / ((u - t).toInt64))))), .second, .val (.long ((2 : Int64) * ((x_.toInt64) - (x_.toInt64) / ((u - t).toInt64) * ((u - t).toInt64)))), .second] [(.double (FP.dsub (FP.ddiv (FP.i2d x_) (FP.i2d (u - t))) (FP.l2d ((x_.toInt64) / ((u - t).toInt64)))))]) _ _ _
        refine Ends.go (X3.ldc2DoubleC hx hown (mvT hZ (ow hw 38 rfl)) (g := (mkF m 157 #[.val (.int p0), .val (.int p1), .val (.int p2), .val (.int u), .val (.int t), .val (.int x_), .val (.ref b1), .val (.int (u - t)), .val (.double (FP.ddiv (FP.i2d x_) (FP.i2d (u - t)))), .second, .val (.long ((x_.toInt64) / ((u - t).toInt64))), .second, .val (.long ((x_.toInt64) - (x_.toInt64) / ((u - t).toInt64) * ((u - t).toInt64))), .second, .val (.double (FP.dsub (FP.ddiv (FP.i2d x_) (FP.i2d (u - t))) (FP.l2d ((x_.toInt64) / ((u - t).toInt64))))), .second, .val (.long ((2 : Int64) * ((x_.toInt64) - (x_.toInt64) / ((u - t).toInt64) * ((u - t).toInt64)))), .second] [(.double (FP.dsub (FP.ddiv (FP.i2d x_) (FP.i2d (u - t))) (FP.l2d ((x_.toInt64) / ((u - t).toInt64)))))])) rfl (hb hby at_157)) ?_
        show Ends p e below s T3 (mkF m 160 #[.val (.int p0), .val (.int p1), .val (.int p2), .val (.int u), .val (.int t), .val (.int x_), .val (.ref b1), .val (.int (u - t)), .val (.double (FP.ddiv (FP.i2d x_) (FP.i2d (u - t)))), .second, .val (.long ((x_.toInt64) / ((u - t).toInt64))), .second, .val (.long ((x_.toInt64) - (x_.toInt64) / ((u - t).toInt64) * ((u - t).toInt64))), .second, .val (.double (FP.dsub (FP.ddiv (FP.i2d x_) (FP.i2d (u - t))) (FP.l2d ((x_.toInt64) / ((u - t).toInt64))))), .second, .val (.long ((2 : Int64) * ((x_.toInt64) - (x_.toInt64) / ((u - t).toInt64) * ((u - t).toInt64)))), .second] [(.double (4602678819172646912 : UInt64)), (.double (FP.dsub (FP.ddiv (FP.i2d x_) (FP.i2d (u - t))) (FP.l2d ((x_.toInt64) / ((u - t).toInt64)))))]) _ _ _
        refine Ends.go (fun _ k => XS.dcmpS X3.here hx rfl (hb hby at_160) rfl (v := (0 : Int32)) (own_f2 hx0 hy h3 _) k) ?_
        show Ends p e below s T3 (mkF m 161 #[.val (.int p0), .val (.int p1), .val (.int p2), .val (.int u), .val (.int t), .val (.int x_), .val (.ref b1), .val (.int (u - t)), .val (.double (FP.ddiv (FP.i2d x_) (FP.i2d (u - t)))), .second, .val (.long ((x_.toInt64) / ((u - t).toInt64))), .second, .val (.long ((x_.toInt64) - (x_.toInt64) / ((u - t).toInt64) * ((u - t).toInt64))), .second, .val (.double (FP.dsub (FP.ddiv (FP.i2d x_) (FP.i2d (u - t))) (FP.l2d ((x_.toInt64) / ((u - t).toInt64))))), .second, .val (.long ((2 : Int64) * ((x_.toInt64) - (x_.toInt64) / ((u - t).toInt64) * ((u - t).toInt64)))), .second] [(.int (0 : Int32))]) _ _ _
        refine Ends.go (fun _ k => XS.ifYes X3.here hx rfl (pc0 := 161) (pc' := 168) rfl (hb hby at_161) rfl ((if0 _ _).trans (flt (by decide : ¬ ((0 : Int32) < (0 : Int32)))).2.1) (by decide) (by decide) k) ?_
        show Ends p e below s T3 (mkF m 168 #[.val (.int p0), .val (.int p1), .val (.int p2), .val (.int u), .val (.int t), .val (.int x_), .val (.ref b1), .val (.int (u - t)), .val (.double (FP.ddiv (FP.i2d x_) (FP.i2d (u - t)))), .second, .val (.long ((x_.toInt64) / ((u - t).toInt64))), .second, .val (.long ((x_.toInt64) - (x_.toInt64) / ((u - t).toInt64) * ((u - t).toInt64))), .second, .val (.double (FP.dsub (FP.ddiv (FP.i2d x_) (FP.i2d (u - t))) (FP.l2d ((x_.toInt64) / ((u - t).toInt64))))), .second, .val (.long ((2 : Int64) * ((x_.toInt64) - (x_.toInt64) / ((u - t).toInt64) * ((u - t).toInt64)))), .second] []) _ _ _
        refine Ends.go (fun _ k => XS.iconst X3.here hx rfl (hb hby at_168) k) ?_
        show Ends p e below s T3 (mkF m 169 #[.val (.int p0), .val (.int p1), .val (.int p2), .val (.int u), .val (.int t), .val (.int x_), .val (.ref b1), .val (.int (u - t)), .val (.double (FP.ddiv (FP.i2d x_) (FP.i2d (u - t)))), .second, .val (.long ((x_.toInt64) / ((u - t).toInt64))), .second, .val (.long ((x_.toInt64) - (x_.toInt64) / ((u - t).toInt64) * ((u - t).toInt64))), .second, .val (.double (FP.dsub (FP.ddiv (FP.i2d x_) (FP.i2d (u - t))) (FP.l2d ((x_.toInt64) / ((u - t).toInt64))))), .second, .val (.long ((2 : Int64) * ((x_.toInt64) - (x_.toInt64) / ((u - t).toInt64) * ((u - t).toInt64)))), .second] [(.int (0 : Int32))]) _ _ _
        refine Ends.go (fun _ k => XS.lload X3.here hx rfl (hb hby at_169) rfl k) ?_
        show Ends p e below s T3 (mkF m 171 #[.val (.int p0), .val (.int p1), .val (.int p2), .val (.int u), .val (.int t), .val (.int x_), .val (.ref b1), .val (.int (u - t)), .val (.double (FP.ddiv (FP.i2d x_) (FP.i2d (u - t)))), .second, .val (.long ((x_.toInt64) / ((u - t).toInt64))), .second, .val (.long ((x_.toInt64) - (x_.toInt64) / ((u - t).toInt64) * ((u - t).toInt64))), .second, .val (.double (FP.dsub (FP.ddiv (FP.i2d x_) (FP.i2d (u - t))) (FP.l2d ((x_.toInt64) / ((u - t).toInt64))))), .second, .val (.long ((2 : Int64) * ((x_.toInt64) - (x_.toInt64) / ((u - t).toInt64) * ((u - t).toInt64)))), .second] [(.long ((2 : Int64) * ((x_.toInt64) - (x_.toInt64) / ((u - t).toInt64) * ((u - t).toInt64)))), (.int (0 : Int32))]) _ _ _
        refine Ends.go (fun _ k => XS.iload X3.here hx rfl (hb hby at_171) rfl k) ?_
        show Ends p e below s T3 (mkF m 173 #[.val (.int p0), .val (.int p1), .val (.int p2), .val (.int u), .val (.int t), .val (.int x_), .val (.ref b1), .val (.int (u - t)), .val (.double (FP.ddiv (FP.i2d x_) (FP.i2d (u - t)))), .second, .val (.long ((x_.toInt64) / ((u - t).toInt64))), .second, .val (.long ((x_.toInt64) - (x_.toInt64) / ((u - t).toInt64) * ((u - t).toInt64))), .second, .val (.double (FP.dsub (FP.ddiv (FP.i2d x_) (FP.i2d (u - t))) (FP.l2d ((x_.toInt64) / ((u - t).toInt64))))), .second, .val (.long ((2 : Int64) * ((x_.toInt64) - (x_.toInt64) / ((u - t).toInt64) * ((u - t).toInt64)))), .second] [(.int (u - t)), (.long ((2 : Int64) * ((x_.toInt64) - (x_.toInt64) / ((u - t).toInt64) * ((u - t).toInt64)))), (.int (0 : Int32))]) _ _ _
        refine Ends.go (fun _ k => XS.i2l X3.here hx rfl (hb hby at_173) rfl k) ?_
        show Ends p e below s T3 (mkF m 174 #[.val (.int p0), .val (.int p1), .val (.int p2), .val (.int u), .val (.int t), .val (.int x_), .val (.ref b1), .val (.int (u - t)), .val (.double (FP.ddiv (FP.i2d x_) (FP.i2d (u - t)))), .second, .val (.long ((x_.toInt64) / ((u - t).toInt64))), .second, .val (.long ((x_.toInt64) - (x_.toInt64) / ((u - t).toInt64) * ((u - t).toInt64))), .second, .val (.double (FP.dsub (FP.ddiv (FP.i2d x_) (FP.i2d (u - t))) (FP.l2d ((x_.toInt64) / ((u - t).toInt64))))), .second, .val (.long ((2 : Int64) * ((x_.toInt64) - (x_.toInt64) / ((u - t).toInt64) * ((u - t).toInt64)))), .second] [(.long ((u - t).toInt64)), (.long ((2 : Int64) * ((x_.toInt64) - (x_.toInt64) / ((u - t).toInt64) * ((u - t).toInt64)))), (.int (0 : Int32))]) _ _ _
        refine Ends.go (fun _ k => XS.lcmp X3.here hx rfl (hb hby at_174) rfl k) ?_
        show Ends p e below s T3 (mkF m 175 #[.val (.int p0), .val (.int p1), .val (.int p2), .val (.int u), .val (.int t), .val (.int x_), .val (.ref b1), .val (.int (u - t)), .val (.double (FP.ddiv (FP.i2d x_) (FP.i2d (u - t)))), .second, .val (.long ((x_.toInt64) / ((u - t).toInt64))), .second, .val (.long ((x_.toInt64) - (x_.toInt64) / ((u - t).toInt64) * ((u - t).toInt64))), .second, .val (.double (FP.dsub (FP.ddiv (FP.i2d x_) (FP.i2d (u - t))) (FP.l2d ((x_.toInt64) / ((u - t).toInt64))))), .second, .val (.long ((2 : Int64) * ((x_.toInt64) - (x_.toInt64) / ((u - t).toInt64) * ((u - t).toInt64)))), .second] [(.int (lcmpW ((2 : Int64) * ((x_.toInt64) - (x_.toInt64) / ((u - t).toInt64) * ((u - t).toInt64))) ((u - t).toInt64))), (.int (0 : Int32))]) _ _ _
        refine Ends.go (fun _ k => XS.ifYes X3.here hx rfl (pc0 := 175) (pc' := 182) rfl (hb hby at_175) rfl ((if0 _ _).trans (flt ((fun q => own_nl0 h3 ((lw_lt _ _).mp q)) : ¬ ((lcmpW ((2 : Int64) * ((x_.toInt64) - (x_.toInt64) / ((u - t).toInt64) * ((u - t).toInt64))) ((u - t).toInt64)) < (0 : Int32)))).2.1) (by decide) (by decide) k) ?_
        show Ends p e below s T3 (mkF m 182 #[.val (.int p0), .val (.int p1), .val (.int p2), .val (.int u), .val (.int t), .val (.int x_), .val (.ref b1), .val (.int (u - t)), .val (.double (FP.ddiv (FP.i2d x_) (FP.i2d (u - t)))), .second, .val (.long ((x_.toInt64) / ((u - t).toInt64))), .second, .val (.long ((x_.toInt64) - (x_.toInt64) / ((u - t).toInt64) * ((u - t).toInt64))), .second, .val (.double (FP.dsub (FP.ddiv (FP.i2d x_) (FP.i2d (u - t))) (FP.l2d ((x_.toInt64) / ((u - t).toInt64))))), .second, .val (.long ((2 : Int64) * ((x_.toInt64) - (x_.toInt64) / ((u - t).toInt64) * ((u - t).toInt64)))), .second] [(.int (0 : Int32))]) _ _ _
        refine Ends.go (fun _ k => XS.iconst X3.here hx rfl (hb hby at_182) k) ?_
        show Ends p e below s T3 (mkF m 183 #[.val (.int p0), .val (.int p1), .val (.int p2), .val (.int u), .val (.int t), .val (.int x_), .val (.ref b1), .val (.int (u - t)), .val (.double (FP.ddiv (FP.i2d x_) (FP.i2d (u - t)))), .second, .val (.long ((x_.toInt64) / ((u - t).toInt64))), .second, .val (.long ((x_.toInt64) - (x_.toInt64) / ((u - t).toInt64) * ((u - t).toInt64))), .second, .val (.double (FP.dsub (FP.ddiv (FP.i2d x_) (FP.i2d (u - t))) (FP.l2d ((x_.toInt64) / ((u - t).toInt64))))), .second, .val (.long ((2 : Int64) * ((x_.toInt64) - (x_.toInt64) / ((u - t).toInt64) * ((u - t).toInt64)))), .second] [(.int (0 : Int32)), (.int (0 : Int32))]) _ _ _
        refine Ends.go (fun _ k => XS.icmpNo X3.here hx rfl (hb hby at_183) rfl (teq (by decide : (0 : Int32) = (0 : Int32))).2 k) ?_
        show Ends p e below s T3 (mkF m 186 #[.val (.int p0), .val (.int p1), .val (.int p2), .val (.int u), .val (.int t), .val (.int x_), .val (.ref b1), .val (.int (u - t)), .val (.double (FP.ddiv (FP.i2d x_) (FP.i2d (u - t)))), .second, .val (.long ((x_.toInt64) / ((u - t).toInt64))), .second, .val (.long ((x_.toInt64) - (x_.toInt64) / ((u - t).toInt64) * ((u - t).toInt64))), .second, .val (.double (FP.dsub (FP.ddiv (FP.i2d x_) (FP.i2d (u - t))) (FP.l2d ((x_.toInt64) / ((u - t).toInt64))))), .second, .val (.long ((2 : Int64) * ((x_.toInt64) - (x_.toInt64) / ((u - t).toInt64) * ((u - t).toInt64)))), .second] []) _ _ _
        refine Ends.go (fun _ k => XS.dload X3.here hx rfl (hb hby at_186) rfl k) ?_
        show Ends p e below s T3 (mkF m 188 #[.val (.int p0), .val (.int p1), .val (.int p2), .val (.int u), .val (.int t), .val (.int x_), .val (.ref b1), .val (.int (u - t)), .val (.double (FP.ddiv (FP.i2d x_) (FP.i2d (u - t)))), .second, .val (.long ((x_.toInt64) / ((u - t).toInt64))), .second, .val (.long ((x_.toInt64) - (x_.toInt64) / ((u - t).toInt64) * ((u - t).toInt64))), .second, .val (.double (FP.dsub (FP.ddiv (FP.i2d x_) (FP.i2d (u - t))) (FP.l2d ((x_.toInt64) / ((u - t).toInt64))))), .second, .val (.long ((2 : Int64) * ((x_.toInt64) - (x_.toInt64) / ((u - t).toInt64) * ((u - t).toInt64)))), .second] [(.double (FP.dsub (FP.ddiv (FP.i2d x_) (FP.i2d (u - t))) (FP.l2d ((x_.toInt64) / ((u - t).toInt64)))))]) _ _ _
        refine Ends.go (X3.ldc2DoubleC hx hown (mvT hZ (ow hw 38 rfl)) (g := (mkF m 188 #[.val (.int p0), .val (.int p1), .val (.int p2), .val (.int u), .val (.int t), .val (.int x_), .val (.ref b1), .val (.int (u - t)), .val (.double (FP.ddiv (FP.i2d x_) (FP.i2d (u - t)))), .second, .val (.long ((x_.toInt64) / ((u - t).toInt64))), .second, .val (.long ((x_.toInt64) - (x_.toInt64) / ((u - t).toInt64) * ((u - t).toInt64))), .second, .val (.double (FP.dsub (FP.ddiv (FP.i2d x_) (FP.i2d (u - t))) (FP.l2d ((x_.toInt64) / ((u - t).toInt64))))), .second, .val (.long ((2 : Int64) * ((x_.toInt64) - (x_.toInt64) / ((u - t).toInt64) * ((u - t).toInt64)))), .second] [(.double (FP.dsub (FP.ddiv (FP.i2d x_) (FP.i2d (u - t))) (FP.l2d ((x_.toInt64) / ((u - t).toInt64)))))])) rfl (hb hby at_188)) ?_
        show Ends p e below s T3 (mkF m 191 #[.val (.int p0), .val (.int p1), .val (.int p2), .val (.int u), .val (.int t), .val (.int x_), .val (.ref b1), .val (.int (u - t)), .val (.double (FP.ddiv (FP.i2d x_) (FP.i2d (u - t)))), .second, .val (.long ((x_.toInt64) / ((u - t).toInt64))), .second, .val (.long ((x_.toInt64) - (x_.toInt64) / ((u - t).toInt64) * ((u - t).toInt64))), .second, .val (.double (FP.dsub (FP.ddiv (FP.i2d x_) (FP.i2d (u - t))) (FP.l2d ((x_.toInt64) / ((u - t).toInt64))))), .second, .val (.long ((2 : Int64) * ((x_.toInt64) - (x_.toInt64) / ((u - t).toInt64) * ((u - t).toInt64)))), .second] [(.double (4602678819172646912 : UInt64)), (.double (FP.dsub (FP.ddiv (FP.i2d x_) (FP.i2d (u - t))) (FP.l2d ((x_.toInt64) / ((u - t).toInt64)))))]) _ _ _
        refine Ends.go (fun _ k => XS.dcmpS X3.here hx rfl (hb hby at_191) rfl (v := (0 : Int32)) (own_f2 hx0 hy h3 _) k) ?_
        show Ends p e below s T3 (mkF m 192 #[.val (.int p0), .val (.int p1), .val (.int p2), .val (.int u), .val (.int t), .val (.int x_), .val (.ref b1), .val (.int (u - t)), .val (.double (FP.ddiv (FP.i2d x_) (FP.i2d (u - t)))), .second, .val (.long ((x_.toInt64) / ((u - t).toInt64))), .second, .val (.long ((x_.toInt64) - (x_.toInt64) / ((u - t).toInt64) * ((u - t).toInt64))), .second, .val (.double (FP.dsub (FP.ddiv (FP.i2d x_) (FP.i2d (u - t))) (FP.l2d ((x_.toInt64) / ((u - t).toInt64))))), .second, .val (.long ((2 : Int64) * ((x_.toInt64) - (x_.toInt64) / ((u - t).toInt64) * ((u - t).toInt64)))), .second] [(.int (0 : Int32))]) _ _ _
        refine Ends.go (fun _ k => XS.ifYes X3.here hx rfl (pc0 := 192) (pc' := 199) rfl (hb hby at_192) rfl ((if0 _ _).trans (flt (by decide : ¬ ((0 : Int32) < (0 : Int32)))).2.2.2) (by decide) (by decide) k) ?_
        show Ends p e below s T3 (mkF m 199 #[.val (.int p0), .val (.int p1), .val (.int p2), .val (.int u), .val (.int t), .val (.int x_), .val (.ref b1), .val (.int (u - t)), .val (.double (FP.ddiv (FP.i2d x_) (FP.i2d (u - t)))), .second, .val (.long ((x_.toInt64) / ((u - t).toInt64))), .second, .val (.long ((x_.toInt64) - (x_.toInt64) / ((u - t).toInt64) * ((u - t).toInt64))), .second, .val (.double (FP.dsub (FP.ddiv (FP.i2d x_) (FP.i2d (u - t))) (FP.l2d ((x_.toInt64) / ((u - t).toInt64))))), .second, .val (.long ((2 : Int64) * ((x_.toInt64) - (x_.toInt64) / ((u - t).toInt64) * ((u - t).toInt64)))), .second] []) _ _ _
        refine Ends.go (fun _ k => XS.iconst X3.here hx rfl (hb hby at_199) k) ?_
        show Ends p e below s T3 (mkF m 200 #[.val (.int p0), .val (.int p1), .val (.int p2), .val (.int u), .val (.int t), .val (.int x_), .val (.ref b1), .val (.int (u - t)), .val (.double (FP.ddiv (FP.i2d x_) (FP.i2d (u - t)))), .second, .val (.long ((x_.toInt64) / ((u - t).toInt64))), .second, .val (.long ((x_.toInt64) - (x_.toInt64) / ((u - t).toInt64) * ((u - t).toInt64))), .second, .val (.double (FP.dsub (FP.ddiv (FP.i2d x_) (FP.i2d (u - t))) (FP.l2d ((x_.toInt64) / ((u - t).toInt64))))), .second, .val (.long ((2 : Int64) * ((x_.toInt64) - (x_.toInt64) / ((u - t).toInt64) * ((u - t).toInt64)))), .second] [(.int (0 : Int32))]) _ _ _
        refine Ends.go (fun _ k => XS.lload X3.here hx rfl (hb hby at_200) rfl k) ?_
        show Ends p e below s T3 (mkF m 202 #[.val (.int p0), .val (.int p1), .val (.int p2), .val (.int u), .val (.int t), .val (.int x_), .val (.ref b1), .val (.int (u - t)), .val (.double (FP.ddiv (FP.i2d x_) (FP.i2d (u - t)))), .second, .val (.long ((x_.toInt64) / ((u - t).toInt64))), .second, .val (.long ((x_.toInt64) - (x_.toInt64) / ((u - t).toInt64) * ((u - t).toInt64))), .second, .val (.double (FP.dsub (FP.ddiv (FP.i2d x_) (FP.i2d (u - t))) (FP.l2d ((x_.toInt64) / ((u - t).toInt64))))), .second, .val (.long ((2 : Int64) * ((x_.toInt64) - (x_.toInt64) / ((u - t).toInt64) * ((u - t).toInt64)))), .second] [(.long ((2 : Int64) * ((x_.toInt64) - (x_.toInt64) / ((u - t).toInt64) * ((u - t).toInt64)))), (.int (0 : Int32))]) _ _ _
        refine Ends.go (fun _ k => XS.iload X3.here hx rfl (hb hby at_202) rfl k) ?_
        show Ends p e below s T3 (mkF m 204 #[.val (.int p0), .val (.int p1), .val (.int p2), .val (.int u), .val (.int t), .val (.int x_), .val (.ref b1), .val (.int (u - t)), .val (.double (FP.ddiv (FP.i2d x_) (FP.i2d (u - t)))), .second, .val (.long ((x_.toInt64) / ((u - t).toInt64))), .second, .val (.long ((x_.toInt64) - (x_.toInt64) / ((u - t).toInt64) * ((u - t).toInt64))), .second, .val (.double (FP.dsub (FP.ddiv (FP.i2d x_) (FP.i2d (u - t))) (FP.l2d ((x_.toInt64) / ((u - t).toInt64))))), .second, .val (.long ((2 : Int64) * ((x_.toInt64) - (x_.toInt64) / ((u - t).toInt64) * ((u - t).toInt64)))), .second] [(.int (u - t)), (.long ((2 : Int64) * ((x_.toInt64) - (x_.toInt64) / ((u - t).toInt64) * ((u - t).toInt64)))), (.int (0 : Int32))]) _ _ _
        refine Ends.go (fun _ k => XS.i2l X3.here hx rfl (hb hby at_204) rfl k) ?_
        show Ends p e below s T3 (mkF m 205 #[.val (.int p0), .val (.int p1), .val (.int p2), .val (.int u), .val (.int t), .val (.int x_), .val (.ref b1), .val (.int (u - t)), .val (.double (FP.ddiv (FP.i2d x_) (FP.i2d (u - t)))), .second, .val (.long ((x_.toInt64) / ((u - t).toInt64))), .second, .val (.long ((x_.toInt64) - (x_.toInt64) / ((u - t).toInt64) * ((u - t).toInt64))), .second, .val (.double (FP.dsub (FP.ddiv (FP.i2d x_) (FP.i2d (u - t))) (FP.l2d ((x_.toInt64) / ((u - t).toInt64))))), .second, .val (.long ((2 : Int64) * ((x_.toInt64) - (x_.toInt64) / ((u - t).toInt64) * ((u - t).toInt64)))), .second] [(.long ((u - t).toInt64)), (.long ((2 : Int64) * ((x_.toInt64) - (x_.toInt64) / ((u - t).toInt64) * ((u - t).toInt64)))), (.int (0 : Int32))]) _ _ _
        refine Ends.go (fun _ k => XS.lcmp X3.here hx rfl (hb hby at_205) rfl k) ?_
        show Ends p e below s T3 (mkF m 206 #[.val (.int p0), .val (.int p1), .val (.int p2), .val (.int u), .val (.int t), .val (.int x_), .val (.ref b1), .val (.int (u - t)), .val (.double (FP.ddiv (FP.i2d x_) (FP.i2d (u - t)))), .second, .val (.long ((x_.toInt64) / ((u - t).toInt64))), .second, .val (.long ((x_.toInt64) - (x_.toInt64) / ((u - t).toInt64) * ((u - t).toInt64))), .second, .val (.double (FP.dsub (FP.ddiv (FP.i2d x_) (FP.i2d (u - t))) (FP.l2d ((x_.toInt64) / ((u - t).toInt64))))), .second, .val (.long ((2 : Int64) * ((x_.toInt64) - (x_.toInt64) / ((u - t).toInt64) * ((u - t).toInt64)))), .second] [(.int (lcmpW ((2 : Int64) * ((x_.toInt64) - (x_.toInt64) / ((u - t).toInt64) * ((u - t).toInt64))) ((u - t).toInt64))), (.int (0 : Int32))]) _ _ _
        refine Ends.go (fun _ k => XS.ifYes X3.here hx rfl (pc0 := 206) (pc' := 213) rfl (hb hby at_206) rfl ((if0 _ _).trans (flt ((fun q => own_ng0 h3 ((lw_gt _ _).mp q)) : ¬ ((0 : Int32) < (lcmpW ((2 : Int64) * ((x_.toInt64) - (x_.toInt64) / ((u - t).toInt64) * ((u - t).toInt64))) ((u - t).toInt64))))).2.2.2) (by decide) (by decide) k) ?_
        show Ends p e below s T3 (mkF m 213 #[.val (.int p0), .val (.int p1), .val (.int p2), .val (.int u), .val (.int t), .val (.int x_), .val (.ref b1), .val (.int (u - t)), .val (.double (FP.ddiv (FP.i2d x_) (FP.i2d (u - t)))), .second, .val (.long ((x_.toInt64) / ((u - t).toInt64))), .second, .val (.long ((x_.toInt64) - (x_.toInt64) / ((u - t).toInt64) * ((u - t).toInt64))), .second, .val (.double (FP.dsub (FP.ddiv (FP.i2d x_) (FP.i2d (u - t))) (FP.l2d ((x_.toInt64) / ((u - t).toInt64))))), .second, .val (.long ((2 : Int64) * ((x_.toInt64) - (x_.toInt64) / ((u - t).toInt64) * ((u - t).toInt64)))), .second] [(.int (0 : Int32))]) _ _ _
        refine Ends.go (fun _ k => XS.iconst X3.here hx rfl (hb hby at_213) k) ?_
        show Ends p e below s T3 (mkF m 214 #[.val (.int p0), .val (.int p1), .val (.int p2), .val (.int u), .val (.int t), .val (.int x_), .val (.ref b1), .val (.int (u - t)), .val (.double (FP.ddiv (FP.i2d x_) (FP.i2d (u - t)))), .second, .val (.long ((x_.toInt64) / ((u - t).toInt64))), .second, .val (.long ((x_.toInt64) - (x_.toInt64) / ((u - t).toInt64) * ((u - t).toInt64))), .second, .val (.double (FP.dsub (FP.ddiv (FP.i2d x_) (FP.i2d (u - t))) (FP.l2d ((x_.toInt64) / ((u - t).toInt64))))), .second, .val (.long ((2 : Int64) * ((x_.toInt64) - (x_.toInt64) / ((u - t).toInt64) * ((u - t).toInt64)))), .second] [(.int (0 : Int32)), (.int (0 : Int32))]) _ _ _
        refine Ends.go (fun _ k => XS.icmpNo X3.here hx rfl (hb hby at_214) rfl (teq (by decide : (0 : Int32) = (0 : Int32))).2 k) ?_
        show Ends p e below s T3 (mkF m 217 #[.val (.int p0), .val (.int p1), .val (.int p2), .val (.int u), .val (.int t), .val (.int x_), .val (.ref b1), .val (.int (u - t)), .val (.double (FP.ddiv (FP.i2d x_) (FP.i2d (u - t)))), .second, .val (.long ((x_.toInt64) / ((u - t).toInt64))), .second, .val (.long ((x_.toInt64) - (x_.toInt64) / ((u - t).toInt64) * ((u - t).toInt64))), .second, .val (.double (FP.dsub (FP.ddiv (FP.i2d x_) (FP.i2d (u - t))) (FP.l2d ((x_.toInt64) / ((u - t).toInt64))))), .second, .val (.long ((2 : Int64) * ((x_.toInt64) - (x_.toInt64) / ((u - t).toInt64) * ((u - t).toInt64)))), .second] []) _ _ _
        refine Ends.go (fun _ k => XS.iconst X3.here hx rfl (hb hby at_217) k) ?_
        show Ends p e below s T3 (mkF m 218 #[.val (.int p0), .val (.int p1), .val (.int p2), .val (.int u), .val (.int t), .val (.int x_), .val (.ref b1), .val (.int (u - t)), .val (.double (FP.ddiv (FP.i2d x_) (FP.i2d (u - t)))), .second, .val (.long ((x_.toInt64) / ((u - t).toInt64))), .second, .val (.long ((x_.toInt64) - (x_.toInt64) / ((u - t).toInt64) * ((u - t).toInt64))), .second, .val (.double (FP.dsub (FP.ddiv (FP.i2d x_) (FP.i2d (u - t))) (FP.l2d ((x_.toInt64) / ((u - t).toInt64))))), .second, .val (.long ((2 : Int64) * ((x_.toInt64) - (x_.toInt64) / ((u - t).toInt64) * ((u - t).toInt64)))), .second] [(.int (1 : Int32))]) _ _ _
        refine Ends.go (fun _ k => XS.goto X3.here hx rfl (pc0 := 218) (pc' := 222) rfl (hb hby at_218) (by decide) (by decide) k) ?_
        show Ends p e below s T3 (mkF m 222 #[.val (.int p0), .val (.int p1), .val (.int p2), .val (.int u), .val (.int t), .val (.int x_), .val (.ref b1), .val (.int (u - t)), .val (.double (FP.ddiv (FP.i2d x_) (FP.i2d (u - t)))), .second, .val (.long ((x_.toInt64) / ((u - t).toInt64))), .second, .val (.long ((x_.toInt64) - (x_.toInt64) / ((u - t).toInt64) * ((u - t).toInt64))), .second, .val (.double (FP.dsub (FP.ddiv (FP.i2d x_) (FP.i2d (u - t))) (FP.l2d ((x_.toInt64) / ((u - t).toInt64))))), .second, .val (.long ((2 : Int64) * ((x_.toInt64) - (x_.toInt64) / ((u - t).toInt64) * ((u - t).toInt64)))), .second] [(.int (1 : Int32))]) _ _ _
        refine Ends.retZ X3 hx Bd.notSynchronized (t := .boolean) Bd.returns (by simp) (hb hby at_222) (by decide) (by decide) ?_
        exact ⟨rfl, N3⟩
      · refine Ends.go (fun _ k => XS.dload X3.here hx rfl (hb hby at_155) rfl k) ?_
        show Ends p e below s T3 (mkF m 157 #[.val (.int p0), .val (.int p1), .val (.int p2), .val (.int u), .val (.int t), .val (.int x_), .val (.ref b1), .val (.int (u - t)), .val (.double (FP.ddiv (FP.i2d x_) (FP.i2d (u - t)))), .second, .val (.long ((x_.toInt64) / ((u - t).toInt64))), .second, .val (.long ((x_.toInt64) - (x_.toInt64) / ((u - t).toInt64) * ((u - t).toInt64))), .second, .val (.double (FP.dsub (FP.ddiv (FP.i2d x_) (FP.i2d (u - t))) (FP.l2d ((x_.toInt64) / ((u - t).toInt64))))), .second, .val (.long ((2 : Int64) * ((x_.toInt64) - (x_.toInt64) / ((u - t).toInt64) * ((u - t).toInt64)))), .second] [(.double (FP.dsub (FP.ddiv (FP.i2d x_) (FP.i2d (u - t))) (FP.l2d ((x_.toInt64) / ((u - t).toInt64)))))]) _ _ _
        refine Ends.go (X3.ldc2DoubleC hx hown (mvT hZ (ow hw 38 rfl)) (g := (mkF m 157 #[.val (.int p0), .val (.int p1), .val (.int p2), .val (.int u), .val (.int t), .val (.int x_), .val (.ref b1), .val (.int (u - t)), .val (.double (FP.ddiv (FP.i2d x_) (FP.i2d (u - t)))), .second, .val (.long ((x_.toInt64) / ((u - t).toInt64))), .second, .val (.long ((x_.toInt64) - (x_.toInt64) / ((u - t).toInt64) * ((u - t).toInt64))), .second, .val (.double (FP.dsub (FP.ddiv (FP.i2d x_) (FP.i2d (u - t))) (FP.l2d ((x_.toInt64) / ((u - t).toInt64))))), .second, .val (.long ((2 : Int64) * ((x_.toInt64) - (x_.toInt64) / ((u - t).toInt64) * ((u - t).toInt64)))), .second] [(.double (FP.dsub (FP.ddiv (FP.i2d x_) (FP.i2d (u - t))) (FP.l2d ((x_.toInt64) / ((u - t).toInt64)))))])) rfl (hb hby at_157)) ?_
        show Ends p e below s T3 (mkF m 160 #[.val (.int p0), .val (.int p1), .val (.int p2), .val (.int u), .val (.int t), .val (.int x_), .val (.ref b1), .val (.int (u - t)), .val (.double (FP.ddiv (FP.i2d x_) (FP.i2d (u - t)))), .second, .val (.long ((x_.toInt64) / ((u - t).toInt64))), .second, .val (.long ((x_.toInt64) - (x_.toInt64) / ((u - t).toInt64) * ((u - t).toInt64))), .second, .val (.double (FP.dsub (FP.ddiv (FP.i2d x_) (FP.i2d (u - t))) (FP.l2d ((x_.toInt64) / ((u - t).toInt64))))), .second, .val (.long ((2 : Int64) * ((x_.toInt64) - (x_.toInt64) / ((u - t).toInt64) * ((u - t).toInt64)))), .second] [(.double (4602678819172646912 : UInt64)), (.double (FP.dsub (FP.ddiv (FP.i2d x_) (FP.i2d (u - t))) (FP.l2d ((x_.toInt64) / ((u - t).toInt64)))))]) _ _ _
        refine Ends.go (fun _ k => XS.dcmpS X3.here hx rfl (hb hby at_160) rfl (v := (1 : Int32)) (own_f3 hx0 hy h3 _) k) ?_
        show Ends p e below s T3 (mkF m 161 #[.val (.int p0), .val (.int p1), .val (.int p2), .val (.int u), .val (.int t), .val (.int x_), .val (.ref b1), .val (.int (u - t)), .val (.double (FP.ddiv (FP.i2d x_) (FP.i2d (u - t)))), .second, .val (.long ((x_.toInt64) / ((u - t).toInt64))), .second, .val (.long ((x_.toInt64) - (x_.toInt64) / ((u - t).toInt64) * ((u - t).toInt64))), .second, .val (.double (FP.dsub (FP.ddiv (FP.i2d x_) (FP.i2d (u - t))) (FP.l2d ((x_.toInt64) / ((u - t).toInt64))))), .second, .val (.long ((2 : Int64) * ((x_.toInt64) - (x_.toInt64) / ((u - t).toInt64) * ((u - t).toInt64)))), .second] [(.int (1 : Int32))]) _ _ _
        refine Ends.go (fun _ k => XS.ifYes X3.here hx rfl (pc0 := 161) (pc' := 168) rfl (hb hby at_161) rfl ((if0 _ _).trans (flt (by decide : ¬ ((1 : Int32) < (0 : Int32)))).2.1) (by decide) (by decide) k) ?_
        show Ends p e below s T3 (mkF m 168 #[.val (.int p0), .val (.int p1), .val (.int p2), .val (.int u), .val (.int t), .val (.int x_), .val (.ref b1), .val (.int (u - t)), .val (.double (FP.ddiv (FP.i2d x_) (FP.i2d (u - t)))), .second, .val (.long ((x_.toInt64) / ((u - t).toInt64))), .second, .val (.long ((x_.toInt64) - (x_.toInt64) / ((u - t).toInt64) * ((u - t).toInt64))), .second, .val (.double (FP.dsub (FP.ddiv (FP.i2d x_) (FP.i2d (u - t))) (FP.l2d ((x_.toInt64) / ((u - t).toInt64))))), .second, .val (.long ((2 : Int64) * ((x_.toInt64) - (x_.toInt64) / ((u - t).toInt64) * ((u - t).toInt64)))), .second] []) _ _ _
        refine Ends.go (fun _ k => XS.iconst X3.here hx rfl (hb hby at_168) k) ?_
        show Ends p e below s T3 (mkF m 169 #[.val (.int p0), .val (.int p1), .val (.int p2), .val (.int u), .val (.int t), .val (.int x_), .val (.ref b1), .val (.int (u - t)), .val (.double (FP.ddiv (FP.i2d x_) (FP.i2d (u - t)))), .second, .val (.long ((x_.toInt64) / ((u - t).toInt64))), .second, .val (.long ((x_.toInt64) - (x_.toInt64) / ((u - t).toInt64) * ((u - t).toInt64))), .second, .val (.double (FP.dsub (FP.ddiv (FP.i2d x_) (FP.i2d (u - t))) (FP.l2d ((x_.toInt64) / ((u - t).toInt64))))), .second, .val (.long ((2 : Int64) * ((x_.toInt64) - (x_.toInt64) / ((u - t).toInt64) * ((u - t).toInt64)))), .second] [(.int (0 : Int32))]) _ _ _
        refine Ends.go (fun _ k => XS.lload X3.here hx rfl (hb hby at_169) rfl k) ?_
        show Ends p e below s T3 (mkF m 171 #[.val (.int p0), .val (.int p1), .val (.int p2), .val (.int u), .val (.int t), .val (.int x_), .val (.ref b1), .val (.int (u - t)), .val (.double (FP.ddiv (FP.i2d x_) (FP.i2d (u - t)))), .second, .val (.long ((x_.toInt64) / ((u - t).toInt64))), .second, .val (.long ((x_.toInt64) - (x_.toInt64) / ((u - t).toInt64) * ((u - t).toInt64))), .second, .val (.double (FP.dsub (FP.ddiv (FP.i2d x_) (FP.i2d (u - t))) (FP.l2d ((x_.toInt64) / ((u - t).toInt64))))), .second, .val (.long ((2 : Int64) * ((x_.toInt64) - (x_.toInt64) / ((u - t).toInt64) * ((u - t).toInt64)))), .second] [(.long ((2 : Int64) * ((x_.toInt64) - (x_.toInt64) / ((u - t).toInt64) * ((u - t).toInt64)))), (.int (0 : Int32))]) _ _ _
        refine Ends.go (fun _ k => XS.iload X3.here hx rfl (hb hby at_171) rfl k) ?_
        show Ends p e below s T3 (mkF m 173 #[.val (.int p0), .val (.int p1), .val (.int p2), .val (.int u), .val (.int t), .val (.int x_), .val (.ref b1), .val (.int (u - t)), .val (.double (FP.ddiv (FP.i2d x_) (FP.i2d (u - t)))), .second, .val (.long ((x_.toInt64) / ((u - t).toInt64))), .second, .val (.long ((x_.toInt64) - (x_.toInt64) / ((u - t).toInt64) * ((u - t).toInt64))), .second, .val (.double (FP.dsub (FP.ddiv (FP.i2d x_) (FP.i2d (u - t))) (FP.l2d ((x_.toInt64) / ((u - t).toInt64))))), .second, .val (.long ((2 : Int64) * ((x_.toInt64) - (x_.toInt64) / ((u - t).toInt64) * ((u - t).toInt64)))), .second] [(.int (u - t)), (.long ((2 : Int64) * ((x_.toInt64) - (x_.toInt64) / ((u - t).toInt64) * ((u - t).toInt64)))), (.int (0 : Int32))]) _ _ _
        refine Ends.go (fun _ k => XS.i2l X3.here hx rfl (hb hby at_173) rfl k) ?_
        show Ends p e below s T3 (mkF m 174 #[.val (.int p0), .val (.int p1), .val (.int p2), .val (.int u), .val (.int t), .val (.int x_), .val (.ref b1), .val (.int (u - t)), .val (.double (FP.ddiv (FP.i2d x_) (FP.i2d (u - t)))), .second, .val (.long ((x_.toInt64) / ((u - t).toInt64))), .second, .val (.long ((x_.toInt64) - (x_.toInt64) / ((u - t).toInt64) * ((u - t).toInt64))), .second, .val (.double (FP.dsub (FP.ddiv (FP.i2d x_) (FP.i2d (u - t))) (FP.l2d ((x_.toInt64) / ((u - t).toInt64))))), .second, .val (.long ((2 : Int64) * ((x_.toInt64) - (x_.toInt64) / ((u - t).toInt64) * ((u - t).toInt64)))), .second] [(.long ((u - t).toInt64)), (.long ((2 : Int64) * ((x_.toInt64) - (x_.toInt64) / ((u - t).toInt64) * ((u - t).toInt64)))), (.int (0 : Int32))]) _ _ _
        refine Ends.go (fun _ k => XS.lcmp X3.here hx rfl (hb hby at_174) rfl k) ?_
        show Ends p e below s T3 (mkF m 175 #[.val (.int p0), .val (.int p1), .val (.int p2), .val (.int u), .val (.int t), .val (.int x_), .val (.ref b1), .val (.int (u - t)), .val (.double (FP.ddiv (FP.i2d x_) (FP.i2d (u - t)))), .second, .val (.long ((x_.toInt64) / ((u - t).toInt64))), .second, .val (.long ((x_.toInt64) - (x_.toInt64) / ((u - t).toInt64) * ((u - t).toInt64))), .second, .val (.double (FP.dsub (FP.ddiv (FP.i2d x_) (FP.i2d (u - t))) (FP.l2d ((x_.toInt64) / ((u - t).toInt64))))), .second, .val (.long ((2 : Int64) * ((x_.toInt64) - (x_.toInt64) / ((u - t).toInt64) * ((u - t).toInt64)))), .second] [(.int (lcmpW ((2 : Int64) * ((x_.toInt64) - (x_.toInt64) / ((u - t).toInt64) * ((u - t).toInt64))) ((u - t).toInt64))), (.int (0 : Int32))]) _ _ _
        refine Ends.go (fun _ k => XS.ifYes X3.here hx rfl (pc0 := 175) (pc' := 182) rfl (hb hby at_175) rfl ((if0 _ _).trans (flt ((fun q => own_nl1 h3 ((lw_lt _ _).mp q)) : ¬ ((lcmpW ((2 : Int64) * ((x_.toInt64) - (x_.toInt64) / ((u - t).toInt64) * ((u - t).toInt64))) ((u - t).toInt64)) < (0 : Int32)))).2.1) (by decide) (by decide) k) ?_
        show Ends p e below s T3 (mkF m 182 #[.val (.int p0), .val (.int p1), .val (.int p2), .val (.int u), .val (.int t), .val (.int x_), .val (.ref b1), .val (.int (u - t)), .val (.double (FP.ddiv (FP.i2d x_) (FP.i2d (u - t)))), .second, .val (.long ((x_.toInt64) / ((u - t).toInt64))), .second, .val (.long ((x_.toInt64) - (x_.toInt64) / ((u - t).toInt64) * ((u - t).toInt64))), .second, .val (.double (FP.dsub (FP.ddiv (FP.i2d x_) (FP.i2d (u - t))) (FP.l2d ((x_.toInt64) / ((u - t).toInt64))))), .second, .val (.long ((2 : Int64) * ((x_.toInt64) - (x_.toInt64) / ((u - t).toInt64) * ((u - t).toInt64)))), .second] [(.int (0 : Int32))]) _ _ _
        refine Ends.go (fun _ k => XS.iconst X3.here hx rfl (hb hby at_182) k) ?_
        show Ends p e below s T3 (mkF m 183 #[.val (.int p0), .val (.int p1), .val (.int p2), .val (.int u), .val (.int t), .val (.int x_), .val (.ref b1), .val (.int (u - t)), .val (.double (FP.ddiv (FP.i2d x_) (FP.i2d (u - t)))), .second, .val (.long ((x_.toInt64) / ((u - t).toInt64))), .second, .val (.long ((x_.toInt64) - (x_.toInt64) / ((u - t).toInt64) * ((u - t).toInt64))), .second, .val (.double (FP.dsub (FP.ddiv (FP.i2d x_) (FP.i2d (u - t))) (FP.l2d ((x_.toInt64) / ((u - t).toInt64))))), .second, .val (.long ((2 : Int64) * ((x_.toInt64) - (x_.toInt64) / ((u - t).toInt64) * ((u - t).toInt64)))), .second] [(.int (0 : Int32)), (.int (0 : Int32))]) _ _ _
        refine Ends.go (fun _ k => XS.icmpNo X3.here hx rfl (hb hby at_183) rfl (teq (by decide : (0 : Int32) = (0 : Int32))).2 k) ?_
        show Ends p e below s T3 (mkF m 186 #[.val (.int p0), .val (.int p1), .val (.int p2), .val (.int u), .val (.int t), .val (.int x_), .val (.ref b1), .val (.int (u - t)), .val (.double (FP.ddiv (FP.i2d x_) (FP.i2d (u - t)))), .second, .val (.long ((x_.toInt64) / ((u - t).toInt64))), .second, .val (.long ((x_.toInt64) - (x_.toInt64) / ((u - t).toInt64) * ((u - t).toInt64))), .second, .val (.double (FP.dsub (FP.ddiv (FP.i2d x_) (FP.i2d (u - t))) (FP.l2d ((x_.toInt64) / ((u - t).toInt64))))), .second, .val (.long ((2 : Int64) * ((x_.toInt64) - (x_.toInt64) / ((u - t).toInt64) * ((u - t).toInt64)))), .second] []) _ _ _
        refine Ends.go (fun _ k => XS.dload X3.here hx rfl (hb hby at_186) rfl k) ?_
        show Ends p e below s T3 (mkF m 188 #[.val (.int p0), .val (.int p1), .val (.int p2), .val (.int u), .val (.int t), .val (.int x_), .val (.ref b1), .val (.int (u - t)), .val (.double (FP.ddiv (FP.i2d x_) (FP.i2d (u - t)))), .second, .val (.long ((x_.toInt64) / ((u - t).toInt64))), .second, .val (.long ((x_.toInt64) - (x_.toInt64) / ((u - t).toInt64) * ((u - t).toInt64))), .second, .val (.double (FP.dsub (FP.ddiv (FP.i2d x_) (FP.i2d (u - t))) (FP.l2d ((x_.toInt64) / ((u - t).toInt64))))), .second, .val (.long ((2 : Int64) * ((x_.toInt64) - (x_.toInt64) / ((u - t).toInt64) * ((u - t).toInt64)))), .second] [(.double (FP.dsub (FP.ddiv (FP.i2d x_) (FP.i2d (u - t))) (FP.l2d ((x_.toInt64) / ((u - t).toInt64)))))]) _ _ _
        refine Ends.go (X3.ldc2DoubleC hx hown (mvT hZ (ow hw 38 rfl)) (g := (mkF m 188 #[.val (.int p0), .val (.int p1), .val (.int p2), .val (.int u), .val (.int t), .val (.int x_), .val (.ref b1), .val (.int (u - t)), .val (.double (FP.ddiv (FP.i2d x_) (FP.i2d (u - t)))), .second, .val (.long ((x_.toInt64) / ((u - t).toInt64))), .second, .val (.long ((x_.toInt64) - (x_.toInt64) / ((u - t).toInt64) * ((u - t).toInt64))), .second, .val (.double (FP.dsub (FP.ddiv (FP.i2d x_) (FP.i2d (u - t))) (FP.l2d ((x_.toInt64) / ((u - t).toInt64))))), .second, .val (.long ((2 : Int64) * ((x_.toInt64) - (x_.toInt64) / ((u - t).toInt64) * ((u - t).toInt64)))), .second] [(.double (FP.dsub (FP.ddiv (FP.i2d x_) (FP.i2d (u - t))) (FP.l2d ((x_.toInt64) / ((u - t).toInt64)))))])) rfl (hb hby at_188)) ?_
        show Ends p e below s T3 (mkF m 191 #[.val (.int p0), .val (.int p1), .val (.int p2), .val (.int u), .val (.int t), .val (.int x_), .val (.ref b1), .val (.int (u - t)), .val (.double (FP.ddiv (FP.i2d x_) (FP.i2d (u - t)))), .second, .val (.long ((x_.toInt64) / ((u - t).toInt64))), .second, .val (.long ((x_.toInt64) - (x_.toInt64) / ((u - t).toInt64) * ((u - t).toInt64))), .second, .val (.double (FP.dsub (FP.ddiv (FP.i2d x_) (FP.i2d (u - t))) (FP.l2d ((x_.toInt64) / ((u - t).toInt64))))), .second, .val (.long ((2 : Int64) * ((x_.toInt64) - (x_.toInt64) / ((u - t).toInt64) * ((u - t).toInt64)))), .second] [(.double (4602678819172646912 : UInt64)), (.double (FP.dsub (FP.ddiv (FP.i2d x_) (FP.i2d (u - t))) (FP.l2d ((x_.toInt64) / ((u - t).toInt64)))))]) _ _ _
        refine Ends.go (fun _ k => XS.dcmpS X3.here hx rfl (hb hby at_191) rfl (v := (1 : Int32)) (own_f3 hx0 hy h3 _) k) ?_
        show Ends p e below s T3 (mkF m 192 #[.val (.int p0), .val (.int p1), .val (.int p2), .val (.int u), .val (.int t), .val (.int x_), .val (.ref b1), .val (.int (u - t)), .val (.double (FP.ddiv (FP.i2d x_) (FP.i2d (u - t)))), .second, .val (.long ((x_.toInt64) / ((u - t).toInt64))), .second, .val (.long ((x_.toInt64) - (x_.toInt64) / ((u - t).toInt64) * ((u - t).toInt64))), .second, .val (.double (FP.dsub (FP.ddiv (FP.i2d x_) (FP.i2d (u - t))) (FP.l2d ((x_.toInt64) / ((u - t).toInt64))))), .second, .val (.long ((2 : Int64) * ((x_.toInt64) - (x_.toInt64) / ((u - t).toInt64) * ((u - t).toInt64)))), .second] [(.int (1 : Int32))]) _ _ _
        refine Ends.go (fun _ k => XS.ifNo X3.here hx rfl (hb hby at_192) rfl ((if0 _ _).trans (tlt (by decide : (0 : Int32) < (1 : Int32))).2.2.2) k) ?_
        show Ends p e below s T3 (mkF m 195 #[.val (.int p0), .val (.int p1), .val (.int p2), .val (.int u), .val (.int t), .val (.int x_), .val (.ref b1), .val (.int (u - t)), .val (.double (FP.ddiv (FP.i2d x_) (FP.i2d (u - t)))), .second, .val (.long ((x_.toInt64) / ((u - t).toInt64))), .second, .val (.long ((x_.toInt64) - (x_.toInt64) / ((u - t).toInt64) * ((u - t).toInt64))), .second, .val (.double (FP.dsub (FP.ddiv (FP.i2d x_) (FP.i2d (u - t))) (FP.l2d ((x_.toInt64) / ((u - t).toInt64))))), .second, .val (.long ((2 : Int64) * ((x_.toInt64) - (x_.toInt64) / ((u - t).toInt64) * ((u - t).toInt64)))), .second] []) _ _ _
        refine Ends.go (fun _ k => XS.iconst X3.here hx rfl (hb hby at_195) k) ?_
        show Ends p e below s T3 (mkF m 196 #[.val (.int p0), .val (.int p1), .val (.int p2), .val (.int u), .val (.int t), .val (.int x_), .val (.ref b1), .val (.int (u - t)), .val (.double (FP.ddiv (FP.i2d x_) (FP.i2d (u - t)))), .second, .val (.long ((x_.toInt64) / ((u - t).toInt64))), .second, .val (.long ((x_.toInt64) - (x_.toInt64) / ((u - t).toInt64) * ((u - t).toInt64))), .second, .val (.double (FP.dsub (FP.ddiv (FP.i2d x_) (FP.i2d (u - t))) (FP.l2d ((x_.toInt64) / ((u - t).toInt64))))), .second, .val (.long ((2 : Int64) * ((x_.toInt64) - (x_.toInt64) / ((u - t).toInt64) * ((u - t).toInt64)))), .second] [(.int (1 : Int32))]) _ _ _
        refine Ends.go (fun _ k => XS.goto X3.here hx rfl (pc0 := 196) (pc' := 200) rfl (hb hby at_196) (by decide) (by decide) k) ?_
        show Ends p e below s T3 (mkF m 200 #[.val (.int p0), .val (.int p1), .val (.int p2), .val (.int u), .val (.int t), .val (.int x_), .val (.ref b1), .val (.int (u - t)), .val (.double (FP.ddiv (FP.i2d x_) (FP.i2d (u - t)))), .second, .val (.long ((x_.toInt64) / ((u - t).toInt64))), .second, .val (.long ((x_.toInt64) - (x_.toInt64) / ((u - t).toInt64) * ((u - t).toInt64))), .second, .val (.double (FP.dsub (FP.ddiv (FP.i2d x_) (FP.i2d (u - t))) (FP.l2d ((x_.toInt64) / ((u - t).toInt64))))), .second, .val (.long ((2 : Int64) * ((x_.toInt64) - (x_.toInt64) / ((u - t).toInt64) * ((u - t).toInt64)))), .second] [(.int (1 : Int32))]) _ _ _
        refine Ends.go (fun _ k => XS.lload X3.here hx rfl (hb hby at_200) rfl k) ?_
        show Ends p e below s T3 (mkF m 202 #[.val (.int p0), .val (.int p1), .val (.int p2), .val (.int u), .val (.int t), .val (.int x_), .val (.ref b1), .val (.int (u - t)), .val (.double (FP.ddiv (FP.i2d x_) (FP.i2d (u - t)))), .second, .val (.long ((x_.toInt64) / ((u - t).toInt64))), .second, .val (.long ((x_.toInt64) - (x_.toInt64) / ((u - t).toInt64) * ((u - t).toInt64))), .second, .val (.double (FP.dsub (FP.ddiv (FP.i2d x_) (FP.i2d (u - t))) (FP.l2d ((x_.toInt64) / ((u - t).toInt64))))), .second, .val (.long ((2 : Int64) * ((x_.toInt64) - (x_.toInt64) / ((u - t).toInt64) * ((u - t).toInt64)))), .second] [(.long ((2 : Int64) * ((x_.toInt64) - (x_.toInt64) / ((u - t).toInt64) * ((u - t).toInt64)))), (.int (1 : Int32))]) _ _ _
        refine Ends.go (fun _ k => XS.iload X3.here hx rfl (hb hby at_202) rfl k) ?_
        show Ends p e below s T3 (mkF m 204 #[.val (.int p0), .val (.int p1), .val (.int p2), .val (.int u), .val (.int t), .val (.int x_), .val (.ref b1), .val (.int (u - t)), .val (.double (FP.ddiv (FP.i2d x_) (FP.i2d (u - t)))), .second, .val (.long ((x_.toInt64) / ((u - t).toInt64))), .second, .val (.long ((x_.toInt64) - (x_.toInt64) / ((u - t).toInt64) * ((u - t).toInt64))), .second, .val (.double (FP.dsub (FP.ddiv (FP.i2d x_) (FP.i2d (u - t))) (FP.l2d ((x_.toInt64) / ((u - t).toInt64))))), .second, .val (.long ((2 : Int64) * ((x_.toInt64) - (x_.toInt64) / ((u - t).toInt64) * ((u - t).toInt64)))), .second] [(.int (u - t)), (.long ((2 : Int64) * ((x_.toInt64) - (x_.toInt64) / ((u - t).toInt64) * ((u - t).toInt64)))), (.int (1 : Int32))]) _ _ _
        refine Ends.go (fun _ k => XS.i2l X3.here hx rfl (hb hby at_204) rfl k) ?_
        show Ends p e below s T3 (mkF m 205 #[.val (.int p0), .val (.int p1), .val (.int p2), .val (.int u), .val (.int t), .val (.int x_), .val (.ref b1), .val (.int (u - t)), .val (.double (FP.ddiv (FP.i2d x_) (FP.i2d (u - t)))), .second, .val (.long ((x_.toInt64) / ((u - t).toInt64))), .second, .val (.long ((x_.toInt64) - (x_.toInt64) / ((u - t).toInt64) * ((u - t).toInt64))), .second, .val (.double (FP.dsub (FP.ddiv (FP.i2d x_) (FP.i2d (u - t))) (FP.l2d ((x_.toInt64) / ((u - t).toInt64))))), .second, .val (.long ((2 : Int64) * ((x_.toInt64) - (x_.toInt64) / ((u - t).toInt64) * ((u - t).toInt64)))), .second] [(.long ((u - t).toInt64)), (.long ((2 : Int64) * ((x_.toInt64) - (x_.toInt64) / ((u - t).toInt64) * ((u - t).toInt64)))), (.int (1 : Int32))]) _ _ _
        refine Ends.go (fun _ k => XS.lcmp X3.here hx rfl (hb hby at_205) rfl k) ?_
        show Ends p e below s T3 (mkF m 206 #[.val (.int p0), .val (.int p1), .val (.int p2), .val (.int u), .val (.int t), .val (.int x_), .val (.ref b1), .val (.int (u - t)), .val (.double (FP.ddiv (FP.i2d x_) (FP.i2d (u - t)))), .second, .val (.long ((x_.toInt64) / ((u - t).toInt64))), .second, .val (.long ((x_.toInt64) - (x_.toInt64) / ((u - t).toInt64) * ((u - t).toInt64))), .second, .val (.double (FP.dsub (FP.ddiv (FP.i2d x_) (FP.i2d (u - t))) (FP.l2d ((x_.toInt64) / ((u - t).toInt64))))), .second, .val (.long ((2 : Int64) * ((x_.toInt64) - (x_.toInt64) / ((u - t).toInt64) * ((u - t).toInt64)))), .second] [(.int (lcmpW ((2 : Int64) * ((x_.toInt64) - (x_.toInt64) / ((u - t).toInt64) * ((u - t).toInt64))) ((u - t).toInt64))), (.int (1 : Int32))]) _ _ _
        refine Ends.go (fun _ k => XS.ifNo X3.here hx rfl (hb hby at_206) rfl ((if0 _ _).trans (tlt (((lw_gt _ _).mpr h3) : (0 : Int32) < (lcmpW ((2 : Int64) * ((x_.toInt64) - (x_.toInt64) / ((u - t).toInt64) * ((u - t).toInt64))) ((u - t).toInt64)))).2.2.2) k) ?_
        show Ends p e below s T3 (mkF m 209 #[.val (.int p0), .val (.int p1), .val (.int p2), .val (.int u), .val (.int t), .val (.int x_), .val (.ref b1), .val (.int (u - t)), .val (.double (FP.ddiv (FP.i2d x_) (FP.i2d (u - t)))), .second, .val (.long ((x_.toInt64) / ((u - t).toInt64))), .second, .val (.long ((x_.toInt64) - (x_.toInt64) / ((u - t).toInt64) * ((u - t).toInt64))), .second, .val (.double (FP.dsub (FP.ddiv (FP.i2d x_) (FP.i2d (u - t))) (FP.l2d ((x_.toInt64) / ((u - t).toInt64))))), .second, .val (.long ((2 : Int64) * ((x_.toInt64) - (x_.toInt64) / ((u - t).toInt64) * ((u - t).toInt64)))), .second] [(.int (1 : Int32))]) _ _ _
        refine Ends.go (fun _ k => XS.iconst X3.here hx rfl (hb hby at_209) k) ?_
        show Ends p e below s T3 (mkF m 210 #[.val (.int p0), .val (.int p1), .val (.int p2), .val (.int u), .val (.int t), .val (.int x_), .val (.ref b1), .val (.int (u - t)), .val (.double (FP.ddiv (FP.i2d x_) (FP.i2d (u - t)))), .second, .val (.long ((x_.toInt64) / ((u - t).toInt64))), .second, .val (.long ((x_.toInt64) - (x_.toInt64) / ((u - t).toInt64) * ((u - t).toInt64))), .second, .val (.double (FP.dsub (FP.ddiv (FP.i2d x_) (FP.i2d (u - t))) (FP.l2d ((x_.toInt64) / ((u - t).toInt64))))), .second, .val (.long ((2 : Int64) * ((x_.toInt64) - (x_.toInt64) / ((u - t).toInt64) * ((u - t).toInt64)))), .second] [(.int (1 : Int32)), (.int (1 : Int32))]) _ _ _
        refine Ends.go (fun _ k => XS.goto X3.here hx rfl (pc0 := 210) (pc' := 214) rfl (hb hby at_210) (by decide) (by decide) k) ?_
        show Ends p e below s T3 (mkF m 214 #[.val (.int p0), .val (.int p1), .val (.int p2), .val (.int u), .val (.int t), .val (.int x_), .val (.ref b1), .val (.int (u - t)), .val (.double (FP.ddiv (FP.i2d x_) (FP.i2d (u - t)))), .second, .val (.long ((x_.toInt64) / ((u - t).toInt64))), .second, .val (.long ((x_.toInt64) - (x_.toInt64) / ((u - t).toInt64) * ((u - t).toInt64))), .second, .val (.double (FP.dsub (FP.ddiv (FP.i2d x_) (FP.i2d (u - t))) (FP.l2d ((x_.toInt64) / ((u - t).toInt64))))), .second, .val (.long ((2 : Int64) * ((x_.toInt64) - (x_.toInt64) / ((u - t).toInt64) * ((u - t).toInt64)))), .second] [(.int (1 : Int32)), (.int (1 : Int32))]) _ _ _
        refine Ends.go (fun _ k => XS.icmpNo X3.here hx rfl (hb hby at_214) rfl (teq (by decide : (1 : Int32) = (1 : Int32))).2 k) ?_
        show Ends p e below s T3 (mkF m 217 #[.val (.int p0), .val (.int p1), .val (.int p2), .val (.int u), .val (.int t), .val (.int x_), .val (.ref b1), .val (.int (u - t)), .val (.double (FP.ddiv (FP.i2d x_) (FP.i2d (u - t)))), .second, .val (.long ((x_.toInt64) / ((u - t).toInt64))), .second, .val (.long ((x_.toInt64) - (x_.toInt64) / ((u - t).toInt64) * ((u - t).toInt64))), .second, .val (.double (FP.dsub (FP.ddiv (FP.i2d x_) (FP.i2d (u - t))) (FP.l2d ((x_.toInt64) / ((u - t).toInt64))))), .second, .val (.long ((2 : Int64) * ((x_.toInt64) - (x_.toInt64) / ((u - t).toInt64) * ((u - t).toInt64)))), .second] []) _ _ _
        refine Ends.go (fun _ k => XS.iconst X3.here hx rfl (hb hby at_217) k) ?_
        show Ends p e below s T3 (mkF m 218 #[.val (.int p0), .val (.int p1), .val (.int p2), .val (.int u), .val (.int t), .val (.int x_), .val (.ref b1), .val (.int (u - t)), .val (.double (FP.ddiv (FP.i2d x_) (FP.i2d (u - t)))), .second, .val (.long ((x_.toInt64) / ((u - t).toInt64))), .second, .val (.long ((x_.toInt64) - (x_.toInt64) / ((u - t).toInt64) * ((u - t).toInt64))), .second, .val (.double (FP.dsub (FP.ddiv (FP.i2d x_) (FP.i2d (u - t))) (FP.l2d ((x_.toInt64) / ((u - t).toInt64))))), .second, .val (.long ((2 : Int64) * ((x_.toInt64) - (x_.toInt64) / ((u - t).toInt64) * ((u - t).toInt64)))), .second] [(.int (1 : Int32))]) _ _ _
        refine Ends.go (fun _ k => XS.goto X3.here hx rfl (pc0 := 218) (pc' := 222) rfl (hb hby at_218) (by decide) (by decide) k) ?_
        show Ends p e below s T3 (mkF m 222 #[.val (.int p0), .val (.int p1), .val (.int p2), .val (.int u), .val (.int t), .val (.int x_), .val (.ref b1), .val (.int (u - t)), .val (.double (FP.ddiv (FP.i2d x_) (FP.i2d (u - t)))), .second, .val (.long ((x_.toInt64) / ((u - t).toInt64))), .second, .val (.long ((x_.toInt64) - (x_.toInt64) / ((u - t).toInt64) * ((u - t).toInt64))), .second, .val (.double (FP.dsub (FP.ddiv (FP.i2d x_) (FP.i2d (u - t))) (FP.l2d ((x_.toInt64) / ((u - t).toInt64))))), .second, .val (.long ((2 : Int64) * ((x_.toInt64) - (x_.toInt64) / ((u - t).toInt64) * ((u - t).toInt64)))), .second] [(.int (1 : Int32))]) _ _ _
        refine Ends.retZ X3 hx Bd.notSynchronized (t := .boolean) Bd.returns (by simp) (hb hby at_222) (by decide) (by decide) ?_
        exact ⟨rfl, N3⟩
  · have hy : (u - t) = 0 := own_ut hu0 htu hn
    obtain ⟨_, _, ⟨T5, L5, k5, n5⟩, -, X5, ⟨Lc5, hQ5, l5, y5, z5⟩, st5⟩ := Jvm.LawKit.callS X0 hx (y := (⟨"com/example/even_keel/evenkeel/ZoneSnapshot", "loadPerServer", "(III)Ljava/util/OptionalDouble;"⟩ : MethodName)) hown (mvT hZ (ow hw 2 rfl)) (mvT hZ (ow hw 3 rfl)) (mvT hZ (ow hw 4 rfl)) (mvT hZ (ow hw 5 rfl)) (by decide) (own_backOf (W := 0) (rmS0 l Z a0 hw [] n0 h0 O0 u t x_ w_EMPTY FF0 hn) hZ (ow hw 5 rfl) (ow hw 4 rfl) (by decide) (by decide)) (g := (mkF m 30 #[.val (.int p0), .val (.int p1), .val (.int p2), .val (.int u), .val (.int t), .val (.int x_), .unset, .unset, .unset, .unset, .unset, .unset, .unset, .unset, .unset, .unset, .unset, .unset] [(.int x_), (.int t), (.int u)])) rfl (by rw [hml]; rfl) (argsL := [(.int u), (.int t), (.int x_)]) (rest := []) (lenOf pd0_0 rfl) rfl (by show 2 * 0 + _ ≤ _; exact Nat.le_of_eq rfl) (hb hby at_30) (fun _ _ => ⟨rfl, e0, (by decide : 0 + 0 ≤ _), (by decide : 0 + 0 ≤ _)⟩)
    dsimp only [Pt.U, Pt.locs, Pt.cells, Pt.slots] at X5 l5 y5 z5 st5 hQ5
    subst l5 y5 z5
    obtain ⟨rfl, N5q, e5q⟩ := hQ5
    have N5 := Fr.app N0 N5q
    refine Ends.go st5 ?_
    show Ends p e below s T5 (mkF m 33 #[.val (.int p0), .val (.int p1), .val (.int p2), .val (.int u), .val (.int t), .val (.int x_), .unset, .unset, .unset, .unset, .unset, .unset, .unset, .unset, .unset, .unset, .unset, .unset] [(.ref w_EMPTY)]) _ _ _
    refine Ends.go (fun _ k => XS.astore X5.here hx rfl (hb hby at_33) rfl rfl (l' := #[.val (.int p0), .val (.int p1), .val (.int p2), .val (.int u), .val (.int t), .val (.int x_), .val (.ref w_EMPTY), .unset, .unset, .unset, .unset, .unset, .unset, .unset, .unset, .unset, .unset, .unset]) rfl k) ?_
    show Ends p e below s T5 (mkF m 35 #[.val (.int p0), .val (.int p1), .val (.int p2), .val (.int u), .val (.int t), .val (.int x_), .val (.ref w_EMPTY), .unset, .unset, .unset, .unset, .unset, .unset, .unset, .unset, .unset, .unset, .unset] []) _ _ _
    refine Ends.go (fun _ k => XS.iloadN X5.here hx rfl (hb hby at_35) rfl k) ?_
    show Ends p e below s T5 (mkF m 36 #[.val (.int p0), .val (.int p1), .val (.int p2), .val (.int u), .val (.int t), .val (.int x_), .val (.ref w_EMPTY), .unset, .unset, .unset, .unset, .unset, .unset, .unset, .unset, .unset, .unset, .unset] [(.int u)]) _ _ _
    refine Ends.go (fun _ k => XS.iload X5.here hx rfl (hb hby at_36) rfl k) ?_
    show Ends p e below s T5 (mkF m 38 #[.val (.int p0), .val (.int p1), .val (.int p2), .val (.int u), .val (.int t), .val (.int x_), .val (.ref w_EMPTY), .unset, .unset, .unset, .unset, .unset, .unset, .unset, .unset, .unset, .unset, .unset] [(.int t), (.int u)]) _ _ _
    refine Ends.go (fun _ k => XS.isub X5.here hx rfl (hb hby at_38) rfl k) ?_
    show Ends p e below s T5 (mkF m 39 #[.val (.int p0), .val (.int p1), .val (.int p2), .val (.int u), .val (.int t), .val (.int x_), .val (.ref w_EMPTY), .unset, .unset, .unset, .unset, .unset, .unset, .unset, .unset, .unset, .unset, .unset] [(.int (u - t))]) _ _ _
    refine Ends.go (fun _ k => XS.istore X5.here hx rfl (hb hby at_39) rfl (l' := #[.val (.int p0), .val (.int p1), .val (.int p2), .val (.int u), .val (.int t), .val (.int x_), .val (.ref w_EMPTY), .val (.int (u - t)), .unset, .unset, .unset, .unset, .unset, .unset, .unset, .unset, .unset, .unset]) rfl k) ?_
    show Ends p e below s T5 (mkF m 41 #[.val (.int p0), .val (.int p1), .val (.int p2), .val (.int u), .val (.int t), .val (.int x_), .val (.ref w_EMPTY), .val (.int (u - t)), .unset, .unset, .unset, .unset, .unset, .unset, .unset, .unset, .unset, .unset] []) _ _ _
    refine Ends.go (fun _ k => XS.iload X5.here hx rfl (hb hby at_41) rfl k) ?_
    show Ends p e below s T5 (mkF m 43 #[.val (.int p0), .val (.int p1), .val (.int p2), .val (.int u), .val (.int t), .val (.int x_), .val (.ref w_EMPTY), .val (.int (u - t)), .unset, .unset, .unset, .unset, .unset, .unset, .unset, .unset, .unset, .unset] [(.int (u - t))]) _ _ _
    refine Ends.go (fun _ k => XS.ifNo X5.here hx rfl (hb hby at_43) rfl ((if0 _ _).trans (teq (hy : (u - t) = (0 : Int32))).2) k) ?_
    show Ends p e below s T5 (mkF m 46 #[.val (.int p0), .val (.int p1), .val (.int p2), .val (.int u), .val (.int t), .val (.int x_), .val (.ref w_EMPTY), .val (.int (u - t)), .unset, .unset, .unset, .unset, .unset, .unset, .unset, .unset, .unset, .unset] []) _ _ _
    refine Ends.go (fun _ k => XS.aload X5.here hx rfl (hb hby at_46) rfl rfl k) ?_
    show Ends p e below s T5 (mkF m 48 #[.val (.int p0), .val (.int p1), .val (.int p2), .val (.int u), .val (.int t), .val (.int x_), .val (.ref w_EMPTY), .val (.int (u - t)), .unset, .unset, .unset, .unset, .unset, .unset, .unset, .unset, .unset, .unset] [(.ref w_EMPTY)]) _ _ _
    obtain ⟨cq6, kq6, q6a, q6b, q6c⟩ := isOf hZ e5q (E_EMPTY.ext O0.2)
    obtain ⟨_, _, ⟨T6, L6, k6, n6⟩, -, X6, ⟨Lc6, hQ6, l6, y6, z6⟩, st6⟩ := X5.virtualBack hx (y := (⟨"java/util/OptionalDouble", "isPresent", "()Z"⟩ : MethodName)) (z := (⟨"java/util/OptionalDouble", "isPresent", "()Z"⟩ : MethodName)) hown (mvT hZ (ow hw 11 rfl)) (mvT hZ (ow hw 12 rfl)) (notFace_of_selects (args := #[]) (mvT hZ (ow hw 14 rfl))) (mvT hZ (ow hw 14 rfl)) (mvT hZ (ow hw 13 rfl)) (by decide) (own_backOf (W := 0) (rmQ l Z a0 hw [] n0 h0 O0 w_EMPTY (0 : Int32) (0 : Int32) (F_isPresent_EMPTY.ext O0.2) rfl) hZ (ow hw 15 rfl) (ow hw 8 rfl) (by decide) (by decide)) q6a q6c (g := (mkF m 48 #[.val (.int p0), .val (.int p1), .val (.int p2), .val (.int u), .val (.int t), .val (.int x_), .val (.ref w_EMPTY), .val (.int (u - t)), .unset, .unset, .unset, .unset, .unset, .unset, .unset, .unset, .unset, .unset] [(.ref w_EMPTY)])) rfl (by rw [hml]; rfl) (Steps.refl _) (argsL := []) (rest := []) (lenOf pd0_1 rfl) rfl (by show 2 * 0 + _ ≤ _; exact Nat.le_of_eq rfl) (hb hby at_48) (fun _ _ => ⟨rfl, e5q, (by decide : 0 + 0 ≤ _), (by decide : 0 + 0 ≤ _)⟩)
    dsimp only [Pt.U, Pt.locs, Pt.cells, Pt.slots] at X6 l6 y6 z6 st6 hQ6
    subst l6 y6 z6
    obtain ⟨rfl, N6q, e6q⟩ := hQ6
    have N6 := Fr.app N5 N6q
    refine Ends.go (fun _ k => st6.trans k) ?_
    show Ends p e below s T6 (mkF m 51 #[.val (.int p0), .val (.int p1), .val (.int p2), .val (.int u), .val (.int t), .val (.int x_), .val (.ref w_EMPTY), .val (.int (u - t)), .unset, .unset, .unset, .unset, .unset, .unset, .unset, .unset, .unset, .unset] [(.int (0 : Int32))]) _ _ _
    refine Ends.go (fun _ k => XS.ifNo X6.here hx rfl (hb hby at_51) rfl ((if0 _ _).trans (teq (by decide : (0 : Int32) = (0 : Int32))).2) k) ?_
    show Ends p e below s T6 (mkF m 54 #[.val (.int p0), .val (.int p1), .val (.int p2), .val (.int u), .val (.int t), .val (.int x_), .val (.ref w_EMPTY), .val (.int (u - t)), .unset, .unset, .unset, .unset, .unset, .unset, .unset, .unset, .unset, .unset] []) _ _ _
    refine Ends.go (fun _ k => XS.iconst X6.here hx rfl (hb hby at_54) k) ?_
    show Ends p e below s T6 (mkF m 55 #[.val (.int p0), .val (.int p1), .val (.int p2), .val (.int u), .val (.int t), .val (.int x_), .val (.ref w_EMPTY), .val (.int (u - t)), .unset, .unset, .unset, .unset, .unset, .unset, .unset, .unset, .unset, .unset] [(.int (1 : Int32))]) _ _ _
    refine Ends.go (fun _ k => XS.goto X6.here hx rfl (pc0 := 55) (pc' := 59) rfl (hb hby at_55) (by decide) (by decide) k) ?_
    show Ends p e below s T6 (mkF m 59 #[.val (.int p0), .val (.int p1), .val (.int p2), .val (.int u), .val (.int t), .val (.int x_), .val (.ref w_EMPTY), .val (.int (u - t)), .unset, .unset, .unset, .unset, .unset, .unset, .unset, .unset, .unset, .unset] [(.int (1 : Int32))]) _ _ _
    refine Ends.retZ X6 hx Bd.notSynchronized (t := .boolean) Bd.returns (by simp) (hb hby at_59) (by decide) (by decide) ?_
    exact ⟨rfl, N6⟩
set_option maxRecDepth 65536 in
set_option maxHeartbeats 40000000 in
theorem comes_1 {Post : Tables → Env → Array Value → State → Outcome → State → Prop} (hpost : ∀ tb e args s v u, (limb_1_1.after args s (.returned v) u = true ∧ limb_1_2.after args s (.returned v) u = true ∧ True) → FrameEnd s (.returned v) u (Jvm.fieldLocs frame_1_writes args s ++ Jvm.arrayLocs frame_1_arrays args s ++ Jvm.staticLocs frame_1_statics s) 16 128 → Post tb e args s (.returned v) u) :
    ArmFor flags0 classFile x code maxLocals ret World_1 tables_1 room_1 Calls_1 rest_1 Pre_1 Post := by
  intro l hfl _ _ p e ha hc hk s m args below hf hA hF happ hP
  obtain ⟨hcalls, hrest, hpre⟩ := hP
  obtain ⟨-, -, -, hnamed, -, -, -, hat⟩ := (Spec.applies_iff hf).mp happ
  obtain ⟨hg, hn⟩ := and_e (Cond.before_iff.mp (show (Jvm.Cond.and given_1 narrow_1).before args s = true from hpre))
  obtain ⟨g0a, g0b⟩ := and_e hg
  obtain ⟨g1a, g1b⟩ := and_e g0b
  obtain ⟨g2a, g2b⟩ := and_e g1b
  obtain ⟨w0, w1, w2, rfl⟩ : ∃ w0 w1 w2 : Value, args = #[w0, w1, w2] := by
    have hs : args.size = 3 := by simpa [Cond.value, given_1] using g0a
    obtain ⟨L⟩ := args
    match L, hs with
    | [w0, w1, w2], _ => exact ⟨w0, w1, w2, rfl⟩
  have hw := fun d (hd : d ∈ tables_1) => atoms_spec (ws := Jvm.Cond.code x code maxLocals ret :: tables_1) hat d (List.mem_cons_of_mem _ hd)
  have hfit : Fit s := fun {y c} hc i hi => by
    obtain ⟨ha, rfl⟩ := Array.getElem?_eq_some_iff.mp hc
    have q := List.all_eq_true.mp ((Array.all_eq_true_iff_forall_mem.mp hF) _ (Array.getElem_mem ha)) i (List.mem_range.mpr hi)
    simpa [Array.getElem?_eq_getElem hi] using q
  obtain ⟨hsets, hown0⟩ := atoms_of _ (rest_1_c_eq ▸ (show rest_1_c.before _ s = true from hrest))
  have hr0 := Cond.before_iff.mp hown0
  obtain ⟨i0, ei0⟩ := is_v g1a
  obtain rfl : w0 = (.int i0) := Option.some.inj ei0
  obtain ⟨i1, ei1⟩ := is_v g2a
  obtain rfl : w1 = (.int i1) := Option.some.inj ei1
  obtain ⟨i2, ei2⟩ := is_v g2b
  obtain rfl : w2 = (.int i2) := Option.some.inj ei2
  obtain ⟨w_EMPTY, ev_EMPTY⟩ := exa_v (Cond.before_iff.mp (hsets _ (List.mem_of_getElem? (i := 2) rfl)))
  obtain ⟨n, o, h1, h2, h3, _, L, rfl, ⟨rfl, N⟩, hq⟩ := rm0 l s _ hw tables_1 s.heap.size s.heap (Old.start s) i0 i1 i2 w_EMPTY ⟨Sta.start ev_EMPTY (Or.inl (hsets _ (List.mem_of_getElem? (i := 1) rfl))), Exa.start ev_EMPTY (Cond.before_iff.mp (hsets _ (List.mem_of_getElem? (i := 2) rfl))), Fld.start ((fld_at ev_EMPTY).symm.trans (own_eqI (Cond.before_iff.mp (hsets _ (List.mem_of_getElem? (i := 3) rfl)))))⟩ p e ha hc hk s m _ below hf ((Spec.applies_iff_loose hf).mp happ).1 ⟨rfl, State.Warmed39.refl s, rfl⟩ trivial
  refine ⟨n, _, h1, h2, h3, hpost _ _ _ _ _ _ ⟨Cond.after_iff.mpr rfl, Cond.after_iff.mpr (eq_i res_at (Term.int_eval (1)) rfl), trivial⟩ ⟨hq.1, hq.2.1, (hq.2.2.sift fun y hy => Or.inr (N y hy)).mono (by decide) (by decide)⟩⟩
theorem main_1_1 : Claimed_1_1 := comes_1 fun _ _ _ _ _ _ h hF => ⟨h.1, hF⟩
theorem main_1_2 : Claimed_1_2 := comes_1 fun _ _ _ _ _ _ h hF => ⟨h.2.1, hF⟩
end Jvm.Pilot.@@N@@
namespace Jvm.Pilot.@@N@@
open Jvm Jvm.ClassFile Sem Op Lib Jvm.Free Jvm.Stand Jvm.Pilot.@@N@@.Jvm.D
/-! MADE BY PROGRAM (witnessworld.py) out of the Statement's table words and the real class files: 11 classes; the members and pool entries that the words name. The judged class is class 1, her method 1. -/
namespace start1
open Jvm.ClassFile
def u (s : String) : CpInfo := .utf8 (stringToUtf16 s)
/-- a pool by its gaps: so many unusable entries, then the entry; so many at the end -/
def gap : Nat → List CpInfo → List CpInfo
  | 0, r => r
  | n + 1, r => .unusable :: gap n r
def poolList (es : List (Nat × CpInfo)) (last : Nat) : List CpInfo := es.foldr (fun e r => gap e.1 (e.2 :: r)) (gap last [])
def pool (es : List (Nat × CpInfo)) (last : Nat) : Array CpInfo := ⟨poolList es last⟩
def fileOf (pool : Array CpInfo) (this : Nat) (attrs : Array Attribute := #[]) (ms : Array MethodInfo := #[]) (fl : Nat := 33) (sup : Nat := 0) (ifs : Array Nat := #[]) (fds : Array FieldInfo := #[]) : ClassFile where
  minorVersion := 0
  majorVersion := 65
  constantPool := pool
  accessFlags := fl
  thisClass := this
  superClass := sup
  interfaces := ifs
  fields := fds
  methods := ms
  attributes := attrs
def plain (name : String) (sup : Option ClassId) : Class where
  name := name
  kind := .ordinary
  loader := none
  accessFlags := 33
  super := sup
  interfaces := #[]
  cf := none
  fields := #[]
  methods := #[]
  instanceTypes := #[]
  staticTypes := #[]
  resolved := #[]
  callSites := []
  init := .initialized
  statics := none
  mirror := none

def pool0 : Array CpInfo := pool [(5, u "<init>"), (0, u "()V"), (1, .class_ 10), (1, u "java/lang/Object")] 113

def k0c0 : Code := { maxStack := 0, maxLocals := 1, code := object_method_1_code, exceptionTable := #[], attributes := #[] }
def k0m0 : Method := { name := "<init>", desc := "()V", sig := { parameters := [], returnType := none }, accessFlags := 1, code := some k0c0 }
/-- java/lang/Object -/
def k0 : Class := { plain "java/lang/Object" none with
  accessFlags := 33
  interfaces := #[]
  cf := some (fileOf pool0 8 #[] #[{ accessFlags := 1, nameIndex := 5, descriptorIndex := 6, attributes := #[] }] 33 0 #[] #[])
  fields := #[]
  methods := #[k0m0]
  instanceTypes := #[]
  staticTypes := #[]
  resolved := Array.replicate 124 none
  statics := none }

def pool1 : Array CpInfo := pool [(2, .class_ 4), (1, u "java/lang/Object"), (0, u "<init>"), (0, u "()V"), (0, .integer 2147483647), (0, .long 2147483647), (1, .methodref 11 12), (0, .class_ 13), (0, .nameAndType 14 15), (0, u "com/example/even_keel/evenkeel/ZoneSnapshot"), (0, u "loadPerServer"), (0, u "(III)Ljava/util/OptionalDouble;"), (0, .methodref 17 18), (0, .class_ 19), (0, .nameAndType 20 21), (0, u "java/util/OptionalDouble"), (0, u "isPresent"), (0, u "()Z"), (0, .methodref 17 23), (0, .nameAndType 24 25), (0, u "getAsDouble"), (0, u "()D"), (0, .long 2), (1, .double 4602678819172646912), (1, .class_ 31), (0, u "com/example/even_keel/evenkeel/ZoneSnapshotLoadPerServerPinLaw"), (2, u "law"), (0, u "(III)Z")] 3

def k1m0 : Method := { name := "<init>", desc := "()V", sig := { parameters := [], returnType := none }, accessFlags := 1, code := none }
def k1c1 : Code := { maxStack := 6, maxLocals := 18, code := code, exceptionTable := #[], attributes := #[] }
def k1m1 : Method := { name := "law", desc := "(III)Z", sig := { parameters := [.int, .int, .int], returnType := some .boolean }, accessFlags := 9, code := some k1c1 }
/-- com/example/even_keel/evenkeel/ZoneSnapshotLoadPerServerPinLaw -/
def k1 : Class := { plain "com/example/even_keel/evenkeel/ZoneSnapshotLoadPerServerPinLaw" (some 0) with
  accessFlags := 49
  interfaces := #[]
  cf := some (fileOf pool1 30 #[] #[{ accessFlags := 1, nameIndex := 5, descriptorIndex := 6, attributes := #[] }, { accessFlags := 9, nameIndex := 34, descriptorIndex := 35, attributes := #[] }] 49 2 #[] #[])
  fields := #[]
  methods := #[k1m0, k1m1]
  instanceTypes := #[]
  staticTypes := #[]
  resolved := Array.replicate 39 none
  statics := none }

def pool2 : Array CpInfo := pool [(2, .class_ 4), (1, u "java/lang/Object"), (0, u "<init>"), (0, u "()V"), (0, .class_ 8), (0, u "java/lang/Record")] 13

def k2m0 : Method := { name := "<init>", desc := "()V", sig := { parameters := [], returnType := none }, accessFlags := 4, code := none }
/-- java/lang/Record -/
def k2 : Class := { plain "java/lang/Record" (some 0) with
  accessFlags := 1057
  interfaces := #[]
  cf := some (fileOf pool2 7 #[] #[{ accessFlags := 4, nameIndex := 5, descriptorIndex := 6, attributes := #[] }] 1057 2 #[] #[])
  fields := #[]
  methods := #[k2m0]
  instanceTypes := #[]
  staticTypes := #[]
  resolved := Array.replicate 22 none
  statics := none }

def pool3 : Array CpInfo := pool [(2, .class_ 4), (1, u "java/lang/Record"), (3, .class_ 10), (1, u "com/example/even_keel/evenkeel/ZoneSnapshot"), (0, u "zone"), (0, u "Ljava/lang/String;"), (2, u "upServers"), (0, u "I"), (2, u "trippedServers"), (2, u "activeCalls"), (2, u "loadPerServer"), (0, u "(III)Ljava/util/OptionalDouble;"), (0, .methodref 28 29), (0, .class_ 30), (0, .nameAndType 31 32), (0, u "java/util/OptionalDouble"), (0, u "of"), (0, u "(D)Ljava/util/OptionalDouble;"), (0, .methodref 28 34), (0, .nameAndType 35 36), (0, u "empty"), (0, u "()Ljava/util/OptionalDouble;")] 98

def k3c0 : Code := { maxStack := 4, maxLocals := 4, code := prog_36_method_3_code, exceptionTable := #[], attributes := #[] }
def k3m0 : Method := { name := "loadPerServer", desc := "(III)Ljava/util/OptionalDouble;", sig := { parameters := [.int, .int, .int], returnType := some (.object "java/util/OptionalDouble") }, accessFlags := 8, code := some k3c0 }
/-- com/example/even_keel/evenkeel/ZoneSnapshot -/
def k3 : Class := { plain "com/example/even_keel/evenkeel/ZoneSnapshot" (some 2) with
  accessFlags := 49
  interfaces := #[]
  cf := some (fileOf pool3 8 #[] #[{ accessFlags := 8, nameIndex := 25, descriptorIndex := 26, attributes := #[] }] 49 2 #[] #[{ accessFlags := 18, nameIndex := 11, descriptorIndex := 12, attributes := #[] }, { accessFlags := 18, nameIndex := 15, descriptorIndex := 16, attributes := #[] }, { accessFlags := 18, nameIndex := 19, descriptorIndex := 16, attributes := #[] }, { accessFlags := 18, nameIndex := 22, descriptorIndex := 16, attributes := #[] }])
  fields := #[{ name := "zone", type := (.object "java/lang/String"), accessFlags := 18, slot := 0, constantValue := 0 }, { name := "upServers", type := .int, accessFlags := 18, slot := 1, constantValue := 0 }, { name := "trippedServers", type := .int, accessFlags := 18, slot := 2, constantValue := 0 }, { name := "activeCalls", type := .int, accessFlags := 18, slot := 3, constantValue := 0 }]
  methods := #[k3m0]
  instanceTypes := #[(.object "java/lang/String"), .int, .int, .int]
  staticTypes := #[]
  resolved := Array.replicate 135 none
  statics := none }

def pool4 : Array CpInfo := pool [(1, .methodref 2 3), (0, .class_ 4), (0, .nameAndType 5 6), (0, u "java/lang/Object"), (0, u "<init>"), (0, u "()V"), (0, .fieldref 8 9), (0, .class_ 10), (0, .nameAndType 11 12), (0, u "java/util/OptionalDouble"), (0, u "isPresent"), (0, u "Z"), (4, .fieldref 8 18), (0, .nameAndType 19 20), (0, u "value"), (0, u "D"), (0, .fieldref 8 22), (0, .nameAndType 23 24), (0, u "EMPTY"), (0, u "Ljava/util/OptionalDouble;"), (0, .methodref 8 26), (0, .nameAndType 5 27), (0, u "(D)V"), (21, u "of"), (3, u "empty"), (5, u "getAsDouble"), (0, u "()D"), (41, u "()Ljava/util/OptionalDouble;"), (0, u "(D)Ljava/util/OptionalDouble;"), (1, u "()Z")] 38

def k4m0 : Method := { name := "<init>", desc := "()V", sig := { parameters := [], returnType := none }, accessFlags := 2, code := none }
def k4c1 : Code := { maxStack := 1, maxLocals := 0, code := jdk_2648_method_2_code, exceptionTable := #[], attributes := #[] }
def k4m1 : Method := { name := "empty", desc := "()Ljava/util/OptionalDouble;", sig := { parameters := [], returnType := some (.object "java/util/OptionalDouble") }, accessFlags := 9, code := some k4c1 }
def k4c2 : Code := { maxStack := 3, maxLocals := 3, code := jdk_2648_method_3_code, exceptionTable := #[], attributes := #[] }
def k4m2 : Method := { name := "<init>", desc := "(D)V", sig := { parameters := [.double], returnType := none }, accessFlags := 2, code := some k4c2 }
def k4c3 : Code := { maxStack := 4, maxLocals := 2, code := jdk_2648_method_4_code, exceptionTable := #[], attributes := #[] }
def k4m3 : Method := { name := "of", desc := "(D)Ljava/util/OptionalDouble;", sig := { parameters := [.double], returnType := some (.object "java/util/OptionalDouble") }, accessFlags := 9, code := some k4c3 }
def k4c4 : Code := { maxStack := 3, maxLocals := 1, code := jdk_2648_method_5_code, exceptionTable := #[], attributes := #[] }
def k4m4 : Method := { name := "getAsDouble", desc := "()D", sig := { parameters := [], returnType := some .double }, accessFlags := 1, code := some k4c4 }
def k4c5 : Code := { maxStack := 1, maxLocals := 1, code := jdk_2648_method_6_code, exceptionTable := #[], attributes := #[] }
def k4m5 : Method := { name := "isPresent", desc := "()Z", sig := { parameters := [], returnType := some .boolean }, accessFlags := 1, code := some k4c5 }
/-- java/util/OptionalDouble -/
def k4 : Class := { plain "java/util/OptionalDouble" (some 0) with
  accessFlags := 49
  interfaces := #[]
  cf := some (fileOf pool4 8 #[] #[{ accessFlags := 2, nameIndex := 5, descriptorIndex := 6, attributes := #[] }, { accessFlags := 9, nameIndex := 53, descriptorIndex := 102, attributes := #[] }, { accessFlags := 2, nameIndex := 5, descriptorIndex := 27, attributes := #[] }, { accessFlags := 9, nameIndex := 49, descriptorIndex := 103, attributes := #[] }, { accessFlags := 1, nameIndex := 59, descriptorIndex := 60, attributes := #[] }, { accessFlags := 1, nameIndex := 11, descriptorIndex := 105, attributes := #[] }] 49 2 #[] #[{ accessFlags := 26, nameIndex := 23, descriptorIndex := 24, attributes := #[] }, { accessFlags := 18, nameIndex := 11, descriptorIndex := 12, attributes := #[] }, { accessFlags := 18, nameIndex := 19, descriptorIndex := 20, attributes := #[] }])
  fields := #[{ name := "EMPTY", type := (.object "java/util/OptionalDouble"), accessFlags := 26, slot := 0, constantValue := 0 }, { name := "isPresent", type := .boolean, accessFlags := 18, slot := 0, constantValue := 0 }, { name := "value", type := .double, accessFlags := 18, slot := 1, constantValue := 0 }]
  methods := #[k4m0, k4m1, k4m2, k4m3, k4m4, k4m5]
  instanceTypes := #[.boolean, .double]
  staticTypes := #[(.object "java/util/OptionalDouble")]
  resolved := Array.replicate 144 none
  statics := some 0 }

def pool5 : Array CpInfo := pool [(1, u "java/lang/Cloneable"), (0, .class_ 1), (0, u "java/lang/Object"), (0, .class_ 3)] 3

/-- java/lang/Cloneable -/
def k5 : Class := { plain "java/lang/Cloneable" (some 0) with
  accessFlags := 1537
  interfaces := #[]
  cf := some (fileOf pool5 2 #[] #[] 1537 4 #[] #[])
  fields := #[]
  methods := #[]
  instanceTypes := #[]
  staticTypes := #[]
  resolved := Array.replicate 8 none
  statics := none }

def pool6 : Array CpInfo := pool [(1, u "java/io/Serializable"), (0, .class_ 1), (0, u "java/lang/Object"), (0, .class_ 3)] 3

/-- java/io/Serializable -/
def k6 : Class := { plain "java/io/Serializable" (some 0) with
  accessFlags := 1537
  interfaces := #[]
  cf := some (fileOf pool6 2 #[] #[] 1537 4 #[] #[])
  fields := #[]
  methods := #[]
  instanceTypes := #[]
  staticTypes := #[]
  resolved := Array.replicate 8 none
  statics := none }

/-- the primitive byte -/
def k7 : Class := { plain "byte" none with kind := .primitive 'B', accessFlags := 0x411 }
/-- [B -/
def k8 : Class := { plain "[B" (some 0) with kind := .array 7 .byte, interfaces := #[5, 6], accessFlags := 1041 }

/-- the primitive int -/
def k9 : Class := { plain "int" none with kind := .primitive 'I', accessFlags := 0x411 }
/-- [I -/
def k10 : Class := { plain "[I" (some 0) with kind := .array 9 .int, interfaces := #[5, 6], accessFlags := 1041 }

def heap : Heap := #[{ cls := 4, slots := #[.ref 1], vm := .statics 4 },
  { cls := 4, slots := #[.int 0, .double 0], vm := .none }]
def classes : Array Class := #[k0, k1, k2, k3, k4, k5, k6, k7, k8, k9, k10]
def interned : List (Array UInt16 × Addr) := []
def slotsUsed : Nat := 3
def theMethod : MethodId := ⟨1, 1⟩
def args0 : Array Value := #[.int 5, .int 7, .int 9]
def aboutOver (below : List Frame) : State where
  vm := { classes := classes, interned := interned.toArray }
  heap := heap
  slotsUsed := slotsUsed
  threads := #[{ frames := .invoking theMethod args0 :: below }]
def below0 : List Frame := [.native { method := ⟨0, 0⟩, args := #[] }]
def about1 : State := aboutOver below0
def p0 : Program := .bare "" "" ""
def e0 : Env := launch0.env 0 0 0
theorem w_frames : about1.frames = Frame.invoking theMethod args0 :: below0 := rfl
set_option maxRecDepth 65536 in
theorem w_args : argsFit about1.vm theMethod args0 = true := by decide +kernel
set_option maxRecDepth 65536 in
theorem w_heap : heapFits about1 = true := by decide +kernel
set_option maxRecDepth 65536 in
theorem w_runnable : about1.curStatus? = some .runnable := by decide +kernel
set_option maxRecDepth 65536 in
theorem w_alone : about1.alone = true := by decide +kernel
set_option maxRecDepth 65536 in
theorem w_named : about1.methodNamed? x = some theMethod := by decide +kernel
set_option maxRecDepth 65536 in
theorem w_hears : about1.hears theMethod below0 = true := by decide +kernel
set_option maxRecDepth 65536 in
theorem w_ripe : about1.ripe theMethod args0 below0 = true := by decide +kernel
theorem w_running : about1.status = .running := rfl
set_option maxRecDepth 65536 in
theorem w_room : about1.hasRoom e0.platform room_1 = true :=
  launch0.hasRoom_least _ room_1 (by decide +kernel) (by decide +kernel) (by decide +kernel) (by decide +kernel) (by decide +kernel) (by decide +kernel)
theorem allAtoms_all (ts : List Jvm.Cond) (a : Array Jvm.Value) (st : Jvm.State) : (allAtoms ts).before a st = ts.all (fun c => c.before a st) := by
  induction ts with
  | nil => rfl
  | cons c t ih =>
    show (Jvm.Cond.and c (allAtoms t)).before a st = _
    rw [Jvm.Cond.before_and, ih, List.all_cons]
def words1 : List Jvm.Cond := Jvm.Cond.code x code maxLocals ret :: tables_1
/-- a 'code' word, met by the world's own term for the bytes: nothing is compared byte by byte -/
theorem code_word {y : MethodName} {bytes : ByteArray} {mx : Nat} {rt : Option FieldType} {a : Array Value} {s : State} {m : MethodId} {meth : Method} {c : Code} (h1 : s.methodNamed? y = some m) (h2 : s.vm.method? m = some meth) (h3 : meth.code = some c) (h4 : c.code = bytes)
    (h5 : (c.maxLocals == mx && c.exceptionTable.isEmpty && decide (c.maxStack ≤ mostOperands) && decide (meth.sig.returnType = rt) && !meth.locks && decide (parseMethodDescriptor y.desc = some meth.sig)) = true) : (Jvm.Cond.code y bytes mx rt).before a s = true := by
  simp only [Bool.and_eq_true, beq_iff_eq, Bool.not_eq_true', decide_eq_true_eq] at h5
  obtain ⟨⟨⟨⟨⟨g1, g2⟩, g3⟩, g4⟩, g5⟩, g6⟩ := h5
  simp [Cond.before, Cond.holds, Cond.value, h1, h2, h3, h4, g1, g2, g3, g4, g5, g6]
def isCode : Jvm.Cond → Bool
  | .code _ _ _ _ => true
  | _ => false
theorem all_split {L : List Jvm.Cond} {P : Jvm.Cond → Bool} (h1 : L.all (fun c => isCode c || P c) = true) (h2 : ∀ c ∈ L.filter isCode, P c = true) : L.all P = true := by
  refine List.all_eq_true.mpr fun c hc => ?_
  have h := List.all_eq_true.mp h1 c hc
  rcases Bool.eq_false_or_eq_true (isCode c) with hi | hi
  · exact h2 c (List.mem_filter.mpr ⟨hc, hi⟩)
  · simpa [hi] using h
set_option maxRecDepth 65536 in
theorem w_c0 : (Jvm.Cond.code x code maxLocals ret).before args0 about1 = true := code_word (m := ⟨1, 1⟩) (meth := k1m1) (c := k1c1) (by decide +kernel) rfl rfl rfl (by decide +kernel)
set_option maxRecDepth 65536 in
theorem w_c1 : (Jvm.Cond.code ({ cls := "com/example/even_keel/evenkeel/ZoneSnapshot", name := "loadPerServer", desc := "(III)Ljava/util/OptionalDouble;" } : Jvm.MethodName) prog_36_method_3_code (4 : Nat) (Option.some (Jvm.ClassFile.FieldType.object "java/util/OptionalDouble"))).before args0 about1 = true := code_word (m := ⟨3, 0⟩) (meth := k3m0) (c := k3c0) (by decide +kernel) rfl rfl rfl (by decide +kernel)
set_option maxRecDepth 65536 in
theorem w_c2 : (Jvm.Cond.code ({ cls := "java/util/OptionalDouble", name := "empty", desc := "()Ljava/util/OptionalDouble;" } : Jvm.MethodName) jdk_2648_method_2_code (0 : Nat) (Option.some (Jvm.ClassFile.FieldType.object "java/util/OptionalDouble"))).before args0 about1 = true := code_word (m := ⟨4, 1⟩) (meth := k4m1) (c := k4c1) (by decide +kernel) rfl rfl rfl (by decide +kernel)
set_option maxRecDepth 65536 in
theorem w_c3 : (Jvm.Cond.code ({ cls := "java/util/OptionalDouble", name := "isPresent", desc := "()Z" } : Jvm.MethodName) jdk_2648_method_6_code (1 : Nat) (Option.some Jvm.ClassFile.FieldType.boolean)).before args0 about1 = true := code_word (m := ⟨4, 5⟩) (meth := k4m5) (c := k4c5) (by decide +kernel) rfl rfl rfl (by decide +kernel)
set_option maxRecDepth 65536 in
theorem w_c4 : (Jvm.Cond.code ({ cls := "java/util/OptionalDouble", name := "of", desc := "(D)Ljava/util/OptionalDouble;" } : Jvm.MethodName) jdk_2648_method_4_code (2 : Nat) (Option.some (Jvm.ClassFile.FieldType.object "java/util/OptionalDouble"))).before args0 about1 = true := code_word (m := ⟨4, 3⟩) (meth := k4m3) (c := k4c3) (by decide +kernel) rfl rfl rfl (by decide +kernel)
set_option maxRecDepth 65536 in
theorem w_c5 : (Jvm.Cond.code ({ cls := "java/util/OptionalDouble", name := "<init>", desc := "(D)V" } : Jvm.MethodName) jdk_2648_method_3_code (3 : Nat) (Option.none : Option Jvm.ClassFile.FieldType)).before args0 about1 = true := code_word (m := ⟨4, 2⟩) (meth := k4m2) (c := k4c2) (by decide +kernel) rfl rfl rfl (by decide +kernel)
set_option maxRecDepth 65536 in
theorem w_c6 : (Jvm.Cond.code ({ cls := "java/lang/Object", name := "<init>", desc := "()V" } : Jvm.MethodName) object_method_1_code (1 : Nat) (Option.none : Option Jvm.ClassFile.FieldType)).before args0 about1 = true := code_word (m := ⟨0, 0⟩) (meth := k0m0) (c := k0c0) (by decide +kernel) rfl rfl rfl (by decide +kernel)
set_option maxRecDepth 65536 in
theorem w_c7 : (Jvm.Cond.code ({ cls := "java/util/OptionalDouble", name := "getAsDouble", desc := "()D" } : Jvm.MethodName) jdk_2648_method_5_code (1 : Nat) (Option.some Jvm.ClassFile.FieldType.double)).before args0 about1 = true := code_word (m := ⟨4, 4⟩) (meth := k4m4) (c := k4c4) (by decide +kernel) rfl rfl rfl (by decide +kernel)
def codes1 : List Jvm.Cond := [Jvm.Cond.code x code maxLocals ret, Jvm.Cond.code ({ cls := "com/example/even_keel/evenkeel/ZoneSnapshot", name := "loadPerServer", desc := "(III)Ljava/util/OptionalDouble;" } : Jvm.MethodName) prog_36_method_3_code (4 : Nat) (Option.some (Jvm.ClassFile.FieldType.object "java/util/OptionalDouble")), Jvm.Cond.code ({ cls := "java/util/OptionalDouble", name := "empty", desc := "()Ljava/util/OptionalDouble;" } : Jvm.MethodName) jdk_2648_method_2_code (0 : Nat) (Option.some (Jvm.ClassFile.FieldType.object "java/util/OptionalDouble")), Jvm.Cond.code ({ cls := "java/util/OptionalDouble", name := "isPresent", desc := "()Z" } : Jvm.MethodName) jdk_2648_method_6_code (1 : Nat) (Option.some Jvm.ClassFile.FieldType.boolean), Jvm.Cond.code ({ cls := "java/util/OptionalDouble", name := "of", desc := "(D)Ljava/util/OptionalDouble;" } : Jvm.MethodName) jdk_2648_method_4_code (2 : Nat) (Option.some (Jvm.ClassFile.FieldType.object "java/util/OptionalDouble")), Jvm.Cond.code ({ cls := "java/util/OptionalDouble", name := "<init>", desc := "(D)V" } : Jvm.MethodName) jdk_2648_method_3_code (3 : Nat) (Option.none : Option Jvm.ClassFile.FieldType), Jvm.Cond.code ({ cls := "java/lang/Object", name := "<init>", desc := "()V" } : Jvm.MethodName) object_method_1_code (1 : Nat) (Option.none : Option Jvm.ClassFile.FieldType), Jvm.Cond.code ({ cls := "java/util/OptionalDouble", name := "getAsDouble", desc := "()D" } : Jvm.MethodName) jdk_2648_method_5_code (1 : Nat) (Option.some Jvm.ClassFile.FieldType.double)]
set_option maxRecDepth 65536 in
theorem codes_eq : words1.filter isCode = codes1 := rfl
theorem w_codes : ∀ c ∈ words1.filter isCode, c.before args0 about1 = true := by
  rw [codes_eq]
  intro c hc
  simp only [codes1, List.mem_cons, List.not_mem_nil, or_false] at hc
  rcases hc with rfl | rfl | rfl | rfl | rfl | rfl | rfl | rfl
  · exact w_c0
  · exact w_c1
  · exact w_c2
  · exact w_c3
  · exact w_c4
  · exact w_c5
  · exact w_c6
  · exact w_c7
set_option maxRecDepth 65536 in
theorem w_t1 : (words1.take 24).all (fun c => isCode c || c.before args0 about1) = true := by decide +kernel
set_option maxRecDepth 65536 in
theorem w_t2 : (words1.drop 24).all (fun c => isCode c || c.before args0 about1) = true := by decide +kernel
theorem w_tables : (allAtoms (Jvm.Cond.code x code maxLocals ret :: tables_1)).before args0 about1 = true := by
  rw [allAtoms_all]
  show words1.all (fun c => c.before args0 about1) = true
  refine all_split ?_ w_codes
  rw [← List.take_append_drop 24 words1, List.all_append, w_t1, w_t2]
  rfl
set_option maxRecDepth 65536 in
theorem w_rest : rest_1_c.before args0 about1 = true := by decide +kernel
set_option maxRecDepth 65536 in
theorem w_case : (Jvm.Cond.and given_1 narrow_1).before args0 about1 = true := by decide +kernel
theorem w_applies : (headSpec (Jvm.Cond.code x code maxLocals ret :: tables_1) room_1).applies x e0.platform about1 = true :=
  (Spec.applies_iff w_frames).mpr ⟨w_running, w_runnable, w_alone, w_named, w_hears, w_ripe, w_room, w_tables⟩
theorem atStart : AtStart classFile x code maxLocals ret World_1 tables_1 room_1 Calls_1 rest_1 Pre_1 launch0 p0 e0 about1 theMethod args0 below0 :=
  ⟨lists_1, trivial, launch0.admits_env _ _ _, launch0.least_env, fairChoices_fair.cas, fairChoices_fair.clock, w_frames, w_args, w_heap, w_applies, trivial, w_rest, w_case⟩
end start1
theorem witness_1 : WitnessClaimed_1 := ⟨start1.p0, start1.e0, start1.about1, start1.theMethod, start1.args0, start1.below0, start1.atStart⟩
end Jvm.Pilot.@@N@@
