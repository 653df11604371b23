import JvmDerived
import JvmDerived.Pilot.@@N@@Statement
import JvmDerived.Pilot.@@N@@Code
set_option linter.unusedVariables false
set_option linter.unusedSimpArgs false
namespace Jvm.Pilot.@@N@@
open Jvm Jvm.ClassFile Sem Op Lib Jvm.Free Jvm.Stand Jvm.LawKit Jvm.RoadKit Bundle Jvm.Pilot.@@N@@.Jvm.D

section OwnEnds
variable {p : Program} {l : Launch} {e : Env} {R : Room} {s : State} {m : MethodId} {args : Array Value} {below : List Frame} {meth : Method} {c : Code} {T : State} {locs : List Loc} {cells slots : Nat}
/-- from here the body comes to its end, returns, and leaves what Q says -/
def Ends (p : Program) (e : Env) (below : List Frame) (s T : State) (g : JFrame) (kc ks : Nat) (Q : Option Value → Heap → List Loc → Prop) : Prop :=
  ∃ s₂ o, Steps p.tables e below (T.setTop g) s₂ ∧ s₂.status = .running ∧ Ended s₂ below o ∧ ∃ v L, o = .returned v ∧ Q v s₂.heap L ∧ FrameEnd s o s₂ L kc ks
theorem Ends.go {T' : State} {g g' : JFrame} {kc ks : Nat} {Q : Option Value → Heap → List Loc → Prop} (h : ∀ target, Steps p.tables e below (T'.setTop g') target → Steps p.tables e below (T.setTop g) target) (k : Ends p e below s T' g' kc ks Q) : Ends p e below s T g kc ks Q := by
  obtain ⟨s₂, o, h1, h2⟩ := k
  exact ⟨s₂, o, h _ h1, h2⟩
theorem Ends.ret (X : Stand p l e R s m args below meth c T locs cells slots) (hx : p.tables.exec = Jvm.exec) (hlocks : meth.locks = false) {pc : Nat} {Ls : Array Slot} {w : Value} {t : FieldType} {i : Instr} {rest : List Value} (hret : meth.sig.returnType = some t) (hn : narrow t w = w)
    (hi : (i = .ireturn ∧ (t = .int ∨ t = .boolean ∨ t = .byte ∨ t = .char ∨ t = .short) ∧ ∃ z, w = .int z) ∨ (i = .lreturn ∧ t = .long ∧ ∃ z, w = .long z) ∨ (i = .dreturn ∧ t = .double ∧ ∃ z, w = .double z) ∨ (i = .freturn ∧ t = .float ∧ ∃ z, w = .float z) ∨ (i = .areturn ∧ t.isReference = true ∧ w.isRef = true))
    (hd : decode c.code pc = .ok (i, 1)) {kc ks : Nat} {Q : Option Value → Heap → List Loc → Prop} (hc : cells ≤ kc) (hs : slots ≤ ks) (hq : Q (some w) T.heap locs) : Ends p e below s T (mkF m pc Ls (w :: rest)) kc ks Q := by
  obtain ⟨fs, hr, hrun, hended, hW, hsame⟩ := X.leave (v := some w) (fun h => by rw [hret] at h; cases h) hlocks
  exact ⟨_, _, retOut X hx hret hn hi hd hr, hrun, hended, _, _, rfl, hq, ⟨_, rfl⟩, hW, hsame.mono hc hs⟩
theorem Ends.retZ (X : Stand p l e R s m args below meth c T locs cells slots) (hx : p.tables.exec = Jvm.exec) (hlocks : meth.locks = false) {pc : Nat} {Ls : Array Slot} {z : Int32} {t : FieldType} {rest : List Value} (hret : meth.sig.returnType = some t) (ht : t = .boolean ∨ t = .byte ∨ t = .char ∨ t = .short)
    (hd : decode c.code pc = .ok (.ireturn, 1)) {kc ks : Nat} {Q : Option Value → Heap → List Loc → Prop} (hc : cells ≤ kc) (hs : slots ≤ ks) (hq : Q (some (.int (nar t z))) T.heap locs) : Ends p e below s T (mkF m pc Ls (.int z :: rest)) kc ks Q := by
  obtain ⟨fs, hr, hrun, hended, hW, hsame⟩ := X.leave (v := some (.int (nar t z))) (fun h => by rw [hret] at h; cases h) hlocks
  exact ⟨_, _, retN X hx hret ht hd hr, hrun, hended, _, _, rfl, hq, ⟨_, rfl⟩, hW, hsame.mono hc hs⟩
theorem Ends.retV (X : Stand p l e R s m args below meth c T locs cells slots) (hx : p.tables.exec = Jvm.exec) (hlocks : meth.locks = false) {pc : Nat} {Ls : Array Slot} (hret : meth.sig.returnType = none)
    (hd : decode c.code pc = .ok (.return_, 1)) {kc ks : Nat} {Q : Option Value → Heap → List Loc → Prop} (hc : cells ≤ kc) (hs : slots ≤ ks) (hq : Q none T.heap locs) : Ends p e below s T (mkF m pc Ls []) kc ks Q := by
  obtain ⟨fs, hr, hrun, hended, hW, hsame⟩ := X.leave (v := none) (fun _ => rfl) hlocks
  exact ⟨_, _, X.returnOut hx hret hd hr, hrun, hended, _, _, rfl, hq, ⟨_, rfl⟩, hW, hsame.mono hc hs⟩
theorem own_mono (X : Stand p l e R s m args below meth c T locs cells slots) {kc ks : Nat} (hc : cells ≤ kc) (hs : slots ≤ ks) : Stand p l e R s m args below meth c T locs kc ks := { X with same := X.same.mono hc hs }
end OwnEnds
abbrev Meets1 (l : Launch) (y : MethodName) (bytes : ByteArray) (ml : Nat) (rt : Option FieldType) (ws : List Jvm.Cond) (rm : Room) (av : Array Value) (Z : State) (h0 : Heap) (Q : Option Value → Heap → List Loc → Prop) : Prop :=
  MetFree l y (head1 (Jvm.Cond.code y bytes ml rt :: ws) rm) (fun a U => a = av ∧ Z.Warmed39 U.vm ∧ U.heap = h0) (fun _ _ _ _ _ => True) (fun _ U o U' => ∃ v L, o = .returned v ∧ Q v U'.heap L ∧ FrameEnd U o U' L rm.cells rm.slots)
theorem own_backOf {p : Program} {l : Launch} {e : Env} {R : Room} {s : State} {args : Array Value} {below : List Frame} {Z : State} {a0 : Array Value} {h : Heap} {y : MethodName} {bytes : ByteArray} {maxL : Nat} {ret : Option FieldType} {rm : Room} {len W : Nat} {as' : Array Value} {Q : Option Value → Heap → List Loc → Prop}
    (hM : Meets1 l y bytes maxL ret [] rm as' Z h Q) (hZ : Z.Warmed39 s.vm) (wc : (Jvm.Cond.code y bytes maxL ret).before a0 Z = true) (wz : (Jvm.Cond.initialized y.cls).before a0 Z = true) (hf : rm.frames + 1 ≤ R.frames) (hl : W + (maxL + 11) + rm.locals ≤ R.locals) :
    Back l R p e below s args y len W (fun A a => a = as' ∧ A.U.heap = h ∧ A.cells + rm.cells ≤ R.cells ∧ A.slots + rm.slots ≤ R.slots)
      (fun A _ v B => ∃ L, Q v B.U.heap L ∧ B.locs = A.locs ++ L ∧ B.cells = A.cells + rm.cells ∧ B.slots = A.slots + rm.slots) := backOf (Q := Q) hM hZ wc wz hf hl
theorem ow {Z : State} {a0 : Array Value} (hw : ∀ d ∈ tables_1, d.before a0 Z = true) {d : Jvm.Cond} (i : Nat) (h : tables_1[i]? = some d) : d.before a0 Z = true := hw d (List.mem_of_getElem? h)
theorem own_old_le {Z : State} {n0 : Nat} {h : Heap} (O : Old Z n0 h) : n0 ≤ h.size := O.1 ▸ O.2.1
theorem own_eqI {args : Array Value} {s : State} {t : Term} {k : Int32} (h : (Jvm.Cond.eq t (.int k)).value args s none s [] = some true) : t.eval args s none [] s = some (.int k) := by
  cases ht : t.eval args s none [] s with
  | none => simp [Cond.value, ht] at h
  | some x => cases x <;> simp_all [Cond.value, Term.eval]
def own_bit (e : Int64) (k : Nat) : Bool := e.toBitVec.getLsbD k
theorem own_bor (a b : Int64) (k : Nat) : own_bit (a ||| b) k = (own_bit a k || own_bit b k) := by
  show (a.toBitVec ||| b.toBitVec).getLsbD k = _
  rw [BitVec.getLsbD_or]; rfl
theorem own_band (a b : Int64) (k : Nat) : own_bit (a &&& b) k = (own_bit a k && own_bit b k) := by
  show (a.toBitVec &&& b.toBitVec).getLsbD k = _
  rw [BitVec.getLsbD_and]; rfl
theorem own_bshl (e : Int64) (k : Nat) (hk : k < 63) : own_bit (e <<< ((1 : Int32) &&& 0x3f).toInt64) (k + 1) = own_bit e k := by
  show (e.toBitVec <<< (((1 : Int32) &&& 0x3f).toInt64.toBitVec.smod 64)).getLsbD (k + 1) = _
  rw [show (((1 : Int32) &&& 0x3f).toInt64.toBitVec.smod 64) = (1 : BitVec 64) by decide, BitVec.shiftLeft_eq', BitVec.getLsbD_shiftLeft]
  have h1 : (1 : BitVec 64).toNat = 1 := by decide
  rw [h1]
  simp only [Nat.add_sub_cancel, own_bit]
  have h2 : decide (k + 1 < 64) = true := by simp; omega
  have h3 : decide (k + 1 < 1) = false := by simp
  rw [h2, h3]; simp
theorem own_bshl0 (e : Int64) : own_bit (e <<< ((1 : Int32) &&& 0x3f).toInt64) 0 = false := by
  show (e.toBitVec <<< (((1 : Int32) &&& 0x3f).toInt64.toBitVec.smod 64)).getLsbD 0 = _
  rw [show (((1 : Int32) &&& 0x3f).toInt64.toBitVec.smod 64) = (1 : BitVec 64) by decide, BitVec.shiftLeft_eq', BitVec.getLsbD_shiftLeft]
  simp
theorem own_and4 (e : Int64) : (e &&& (4 : Int64)) = 0 ↔ own_bit e 2 = false := by
  constructor
  · intro h
    have h1 : own_bit (e &&& 4) 2 = false := by rw [h]; decide
    rw [own_band] at h1
    have h2 : own_bit 4 2 = true := by decide
    rw [h2, Bool.and_true] at h1
    exact h1
  · intro h
    have hb : e.toBitVec &&& (4 : BitVec 64) = 0 := by
      apply BitVec.eq_of_getLsbD_eq
      intro i hi
      rw [BitVec.getLsbD_and]
      by_cases q : i = 2
      · subst q
        have : e.toBitVec.getLsbD 2 = false := h
        rw [this]; simp
      · have h4 : (4 : BitVec 64).getLsbD i = false := by
          rw [show (4 : BitVec 64) = BitVec.twoPow 64 2 by decide, BitVec.getLsbD_twoPow]
          simp [Ne.symm q]
        rw [h4]; simp
    exact Int64.toBitVec_inj.mp hb
/-! ## an array of 256 longs -/
def Lng (Z : State) (h : Heap) (a : Addr) (f : Nat → Int64) : Prop := ∃ c : Cell, Arr Z h a c .long ∧ c.slots.size = (256 : Int32).toNatClampNeg ∧ ∀ i, i < c.slots.size → c.slots[i]? = some (.long (f i))
section OwnLng
variable {Z : State} {h h' : Heap} {a b : Addr} {f : Nat → Int64} {sl : Nat} {v : Value} {ws : List Addr}
theorem Lng.lt (F : Lng Z h a f) : a < h.size := by obtain ⟨c, A, -⟩ := F; exact A.lt
theorem Lng.ext (F : Lng Z h a f) (E : Ext h h') : Lng Z h' a f := by obtain ⟨c, A, r⟩ := F; exact ⟨c, A.ext E, r⟩
theorem Lng.other (F : Lng Z h b f) (W : Wr h h' a sl v) (q : b ≠ a) : Lng Z h' b f := by obtain ⟨c, A, r⟩ := F; exact ⟨c, A.other W q, r⟩
theorem Lng.keep (F : Lng Z h a f) (K : Keep h h' ws) (q : a ∉ ws) : Lng Z h' a f := by obtain ⟨c, A, r⟩ := F; exact ⟨c, ⟨K.2.1 a c A.1 q, A.2⟩, r⟩
theorem Lng.new {k : ClassId} (A : Arr Z h a (newA k .long (256 : Int32)) .long) : Lng Z h a (fun _ => 0) := ⟨_, A, sz_new _ _ _, fun i hi => by
  rw [sz_new] at hi
  have hi' : i < 256 := hi
  simp [newA, hi', defaultValue]⟩
theorem Lng.set {c : Cell} {j : Int32} {x : Int64} (A : Arr Z h a c .long) (S : c.slots.size = (256 : Int32).toNatClampNeg) (H : ∀ i, i < c.slots.size → c.slots[i]? = some (.long (f i))) (W : Wr h h' a j.toNatClampNeg (.long x)) : Lng Z h' a (fun i => if i = j.toNatClampNeg then x else f i) := by
  refine ⟨_, A.same W, by rw [sz_set]; exact S, fun i hi => ?_⟩
  rw [sz_set] at hi
  by_cases u : i = j.toNatClampNeg
  · subst u; simp [Cell.setSlot, hi]
  · have := H i hi
    simp only [Cell.setSlot, if_neg u]
    rw [Array.getElem?_setIfInBounds_ne (Ne.symm u)]; exact this
end OwnLng
theorem own_ready {Z : State} {vm' : Vm} (h : Z.Warmed39 vm') {cur index c : Nat} {f : Field} (r : Z.vm.fieldReady cur index c f) : vm'.fieldReady cur index c f := by
  obtain ⟨k, i, kc, h1, h2, h3, h4⟩ := r
  obtain ⟨k', a1, a2, a3, a4, -⟩ := h.2.2.2 _ _ h1
  obtain ⟨kc', b1, b2, -⟩ := h.2.2.2 _ _ h3
  refine ⟨k', i, kc', a1, ?_, b1, ?_⟩
  · rcases a4 index with q | ⟨q, -⟩
    · rw [q]; exact h2
    · rw [q] at h2; cases h2
  · rw [b2]; exact h4
theorem own_getFR {p : Program} {l : Launch} {e : Env} {R : Room} {s : State} {m : MethodId} {args : Array Value} {below : List Frame} {meth : Method} {c : Code} {T : State} {locs : List Loc} {cells slots : Nat} {Z : State} {a0 : Array Value} {h : Heap}
    (X : Stand p l e R s m args below meth c T locs cells slots) (hx : p.tables.exec = Jvm.exec) (hZ : Z.Warmed39 s.vm) {own R0 O n d : String} {index : Nat} (hown : s.vm.findClass own = some m.cls) (w : (Jvm.Cond.fieldRef own index R0 n d).before a0 Z = true) (via : Via Z R0 O n d)
    (eT : T.heap = h) {a : Addr} {v : Value} (F : Fld Z h a O n d v) {g : JFrame} (hg : g.method = m) {rest : List Value} (hs : g.stack = .ref a :: rest) (hd : decode c.code g.pc = .ok (.getfield index, 3)) : ∃ T', Stand p l e R s m args below meth c T' locs cells slots ∧ T'.heap = h ∧ ∀ target, Steps p.tables e below (T'.setTop { g with pc := g.pc + 3, stack := v :: rest }) target → Steps p.tables e below (T.setTop g) target := by
  obtain ⟨cell, cf, k, i, f, h1, h2, h3, h4, -, -, h7⟩ := F
  have hZo : Z.vm.findClass own = some m.cls := by rw [← hZ.alike.findClass]; exact hown
  obtain ⟨c', k', i', f', q1, q2⟩ := Cond.fieldRef_spec (s := Z) hZo w
  cases (via _ h2).symm.trans q1
  refine ⟨T, X, eT, fun target hrest => ?_⟩
  subst hg
  have q3 := own_ready (wtrans hZ X.warmed) q2
  jvm_step X.here [hx, hd, getfield.wp_ready (e := e) (s := T) (f := g) X.here.top q3 h3 hs (by rw [eT]; exact h1) h4 h7]
  exact hrest
/-! ## bytes and bits -/
def own_isb (x : Int32) : Prop := -128 ≤ x.toInt ∧ x.toInt < 128
theorem own_isb8 (z : Int32) : own_isb (nar .byte z) := (c_i2b z).2
theorem own_narby {r : Int32} (h : own_isb r) : nar .byte r = r := by
  have a := c_i2b r
  have b := h.1
  have c := h.2
  exact Int32.toInt_inj.mp (by show r.toInt8.toInt32.toInt = r.toInt; omega)
theorem own_in255 (x : Int32) : ¬ (x &&& (255 : Int32)) < 0 ∧ (x &&& (255 : Int32)) < 256 := by
  have h1 : 0 ≤ (x &&& (255 : Int32)).toInt ∧ (x &&& (255 : Int32)).toInt ≤ 255 := c_and x 255 (by decide)
  constructor
  · intro q
    have q' : (x &&& (255 : Int32)).toInt < 0 := Int32.lt_iff_toInt_lt.mp q
    omega
  · exact Int32.lt_iff_toInt_lt.mpr (show (x &&& (255 : Int32)).toInt < 256 by omega)
theorem own_ix (x : Int32) : (((x &&& (255 : Int32)).toNatClampNeg : Nat) : Int) = x.toInt % 256 := by
  have d1 : (x &&& (255 : Int32)).toInt = x.toInt % ((2 ^ 8 : Nat) : Int) := c_mask x 255 8 (by decide) (by decide)
  have := nat_of (own_in255 x).1
  omega
theorem own_ixlt (x : Int32) : (x &&& (255 : Int32)).toNatClampNeg < 256 := by have := own_ix x; omega
theorem own_ixeq {x y : Int32} (hx : own_isb x) (hy : own_isb y) : (x &&& (255 : Int32)).toNatClampNeg = (y &&& (255 : Int32)).toNatClampNeg ↔ x = y := by
  constructor
  · intro q
    have a := own_ix x
    have b := own_ix y
    have x1 := hx.1
    have x2 := hx.2
    have y1 := hy.1
    have y2 := hy.2
    exact Int32.toInt_inj.mp (by omega)
  · intro q; rw [q]
/-- the low bits of missing: which of the three bytes x is not -/
def own_mis (f : Nat → Int64) (a0 a1 a2 : Int32) : Prop := ∀ x, own_isb x → own_bit (f (x &&& (255 : Int32)).toNatClampNeg) 0 = decide (¬ x = a0) ∧ own_bit (f (x &&& (255 : Int32)).toNatClampNeg) 1 = decide (¬ x = a1) ∧ own_bit (f (x &&& (255 : Int32)).toNatClampNeg) 2 = decide (¬ x = a2)
theorem own_step {g f : Nat → Int64} {a : Int32} {M : Int64} (h : f = fun i => if i = (a &&& (255 : Int32)).toNatClampNeg then (g (a &&& (255 : Int32)).toNatClampNeg &&& M) else g i) {x : Int32} (hx : own_isb x) (ha : own_isb a) (k : Nat) :
    own_bit (f (x &&& (255 : Int32)).toNatClampNeg) k = (own_bit (g (x &&& (255 : Int32)).toNatClampNeg) k && (own_bit M k || decide (¬ x = a))) := by
  subst h
  show own_bit (if _ then _ else _) k = _
  by_cases q : x = a
  · subst q
    rw [if_pos rfl, own_band]; simp
  · rw [if_neg (fun z => q ((own_ixeq hx ha).mp z))]; simp [q]
theorem own_mis3 {g f1 f2 f3 : Nat → Int64} {a0 a1 a2 : Int32} (hg : ∀ i, i < 256 → g i = -1)
    (h1 : f1 = fun i => if i = (a0 &&& (255 : Int32)).toNatClampNeg then (g (a0 &&& (255 : Int32)).toNatClampNeg &&& (-2 : Int64)) else g i)
    (h2 : f2 = fun i => if i = (a1 &&& (255 : Int32)).toNatClampNeg then (f1 (a1 &&& (255 : Int32)).toNatClampNeg &&& (-3 : Int64)) else f1 i)
    (h3 : f3 = fun i => if i = (a2 &&& (255 : Int32)).toNatClampNeg then (f2 (a2 &&& (255 : Int32)).toNatClampNeg &&& (-5 : Int64)) else f2 i)
    (b0 : own_isb a0) (b1 : own_isb a1) (b2 : own_isb a2) : own_mis f3 a0 a1 a2 := by
  intro x hx
  have e : g (x &&& (255 : Int32)).toNatClampNeg = -1 := hg _ (own_ixlt x)
  have m0 : own_bit (-1) 0 = true ∧ own_bit (-1) 1 = true ∧ own_bit (-1) 2 = true := by decide
  have m1 : own_bit (-2) 0 = false ∧ own_bit (-2) 1 = true ∧ own_bit (-2) 2 = true := by decide
  have m2 : own_bit (-3) 0 = true ∧ own_bit (-3) 1 = false ∧ own_bit (-3) 2 = true := by decide
  have m3 : own_bit (-5) 0 = true ∧ own_bit (-5) 1 = true ∧ own_bit (-5) 2 = false := by decide
  refine ⟨?_, ?_, ?_⟩ <;> rw [own_step h3 hx b2, own_step h2 hx b1, own_step h1 hx b0, e] <;> simp [m0, m1, m2, m3]
/-- what the low two bits of 'ending' say behind the bytes x, y -/
def own_I (a0 a1 x y : Int32) (e : Int64) : Prop := own_bit e 0 = decide (¬ y = a0) ∧ own_bit e 1 = decide (¬ (x = a0 ∧ y = a1))
theorem own_turn {f : Nat → Int64} {a0 a1 a2 x y z : Int32} {e : Int64} (hI : own_I a0 a1 x y e) (hm : own_mis f a0 a1 a2) (hz : own_isb z) :
    own_I a0 a1 y z ((e <<< ((1 : Int32) &&& 0x3f).toInt64) ||| f (z &&& (255 : Int32)).toNatClampNeg) ∧ ((((e <<< ((1 : Int32) &&& 0x3f).toInt64) ||| f (z &&& (255 : Int32)).toNatClampNeg) &&& (4 : Int64)) = 0 ↔ x = a0 ∧ y = a1 ∧ z = a2) := by
  obtain ⟨q0, q1, q2⟩ := hm z hz
  refine ⟨⟨?_, ?_⟩, ?_⟩
  · rw [own_bor, own_bshl0, q0]; simp
  · rw [own_bor, own_bshl _ 0 (by decide), q1, hI.1]
    by_cases u : y = a0 <;> by_cases w : z = a1 <;> simp [u, w]
  · rw [own_and4, own_bor, own_bshl _ 1 (by decide), q2, hI.2]
    by_cases u : x = a0 <;> by_cases w : y = a1 <;> by_cases r : z = a2 <;> simp [u, w, r]
theorem own_two {f : Nat → Int64} {a0 a1 a2 x y : Int32} (hm : own_mis f a0 a1 a2) (hx : own_isb x) (hy : own_isb y) :
    own_I a0 a1 x y ((((-2 : Int64) ||| f (x &&& (255 : Int32)).toNatClampNeg) <<< ((1 : Int32) &&& 0x3f).toInt64) ||| f (y &&& (255 : Int32)).toNatClampNeg) := by
  obtain ⟨q0, q1, q2⟩ := hm y hy
  obtain ⟨r0, r1, r2⟩ := hm x hx
  refine ⟨?_, ?_⟩
  · rw [own_bor, own_bshl0, q0]; simp
  · rw [own_bor, own_bshl _ 0 (by decide), own_bor, q1, r0, show own_bit (-2) 0 = false by decide]
    by_cases u : x = a0 <;> by_cases w : y = a1 <;> simp [u, w]
/-! ## the first window that is the pattern -/
def own_hc (a0 a1 a2 x y z f m i : Int32) : Prop := ¬ i < f ∧ i < m ∧ x = a0 ∧ y = a1 ∧ z = a2
instance (a0 a1 a2 x y z f m i : Int32) : Decidable (own_hc a0 a1 a2 x y z f m i) := by unfold own_hc; infer_instance
def own_end (r m : Int32) : Int32 := if r < 0 then m else r
theorem own_win (q : Int64) (s : Int32) : ((q + s.toInt64) - q).toInt32 = s := by
  have a := c_l2i ((q + s.toInt64) - q)
  have b := c_lsub (q + s.toInt64) q
  have c := c_ladd q s.toInt64
  have d := c_i2l s
  have e1 := s.le_toInt
  have e2 := s.toInt_lt
  have f1 := ((q + s.toInt64) - q).toInt32.le_toInt
  have f2 := ((q + s.toInt64) - q).toInt32.toInt_lt
  generalize ((q + s.toInt64) - q).toInt32 = w at *
  generalize ((q + s.toInt64) - q) = w1 at *
  generalize (q + s.toInt64) = w2 at *
  exact Int32.toInt_inj.mp (by omega)
theorem own_winne {b q : Int64} {s : Int32} (hq : ((b.toUInt64 >>> ((2 : Int32) &&& 0x3f).toInt64.toUInt64).toInt64) = q) (h : 2 ≤ s.toInt ∧ s.toInt ≤ 8) : ¬ (q + s.toInt64) = (-1 : Int64) := fun z => by
  have a : ((b.toUInt64 >>> ((2 : Int32) &&& 0x3f).toInt64.toUInt64).toInt64).toInt = (b.toInt % 18446744073709551616) / (2 ^ 2 : Nat) := c_lushr b 2 2 (by decide) (by decide)
  rw [hq] at a
  have c := c_ladd q s.toInt64
  have d := c_i2l s
  rw [z] at c
  have e : (-1 : Int64).toInt = -1 := by decide
  omega
theorem own_wineq {q : Int64} {s t : Int32} : (q + s.toInt64) = (q + t.toInt64) ↔ s = t := by
  constructor
  · intro z
    have c1 := c_ladd q s.toInt64
    have c2 := c_ladd q t.toInt64
    rw [z] at c1
    have d1 := c_i2l s
    have d2 := c_i2l t
    have e1 := s.le_toInt
    have e2 := s.toInt_lt
    have f1 := t.le_toInt
    have f2 := t.toInt_lt
    generalize (q + t.toInt64) = w at *
    exact Int32.toInt_inj.mp (by omega)
  · intro z; rw [z]
theorem own_st31 {x s : Int32} (h : ((2 : Int32) + ((x &&& (2147483647 : Int32)) % (7 : Int32))) = s) : 2 ≤ s.toInt ∧ s.toInt ≤ 8 := by
  have h1 := c_and x 2147483647 (by decide)
  have h2 := (c_irem (x &&& 2147483647) 7 7 (by decide)).1 h1.1
  have h3 := c_iadd 2 ((x &&& (2147483647 : Int32)) % (7 : Int32))
  rw [h] at h3
  have e : (2 : Int32).toInt = 2 := by decide
  have e1 := s.le_toInt
  have e2 := s.toInt_lt
  omega
theorem own_st8 {x s : Int32} (h : ((2 : Int32) + ((x &&& (255 : Int32)) % (7 : Int32))) = s) : 2 ≤ s.toInt ∧ s.toInt ≤ 8 := by
  have h1 := c_and x 255 (by decide)
  have h2 := (c_irem (x &&& 255) 7 7 (by decide)).1 h1.1
  have h3 := c_iadd 2 ((x &&& (255 : Int32)) % (7 : Int32))
  rw [h] at h3
  have e : (2 : Int32).toInt = 2 := by decide
  have e1 := s.le_toInt
  have e2 := s.toInt_lt
  omega
theorem own_nz {s : Int32} (h : 2 ≤ s.toInt ∧ s.toInt ≤ 8) : ((9 : Int32) - s) ≠ 0 := fun z => by
  have h3 := c_isub 9 s
  rw [z] at h3
  have e : (9 : Int32).toInt = 9 := by decide
  have e0 : (0 : Int32).toInt = 0 := by decide
  omega
theorem own_lim {s x m : Int32} (h : 2 ≤ s.toInt ∧ s.toInt ≤ 8) (hm : (s + ((x &&& (255 : Int32)) % ((9 : Int32) - s))) = m) : s.toInt ≤ m.toInt ∧ m.toInt ≤ 8 := by
  have h1 : 0 ≤ (x &&& (255 : Int32)).toInt ∧ (x &&& (255 : Int32)).toInt ≤ 255 := c_and x 255 (by decide)
  have h3 := c_isub 9 s
  have e : (9 : Int32).toInt = 9 := by decide
  have g1 := ((9 : Int32) - s).le_toInt
  have g2 := ((9 : Int32) - s).toInt_lt
  have h4 : ((9 : Int32) - s).toInt = 9 - s.toInt := by omega
  have h2 := (c_iremV (x &&& 255) ((9 : Int32) - s)).1 h1.1 (by omega)
  have h5 := c_iadd s ((x &&& (255 : Int32)) % ((9 : Int32) - s))
  rw [hm] at h5
  have e1 := m.le_toInt
  have e2 := m.toInt_lt
  omega
theorem own_seven {s : Int32} (h : 2 ≤ s.toInt ∧ s.toInt ≤ 8) : s = 2 ∨ s = 3 ∨ s = 4 ∨ s = 5 ∨ s = 6 ∨ s = 7 ∨ s = 8 := by
  have h3 : s.toInt = 2 ∨ s.toInt = 3 ∨ s.toInt = 4 ∨ s.toInt = 5 ∨ s.toInt = 6 ∨ s.toInt = 7 ∨ s.toInt = 8 := by omega
  rcases h3 with q | q | q | q | q | q | q
  · exact Or.inl (Int32.toInt_inj.mp q)
  · exact Or.inr (Or.inl (Int32.toInt_inj.mp q))
  · exact Or.inr (Or.inr (Or.inl (Int32.toInt_inj.mp q)))
  · exact Or.inr (Or.inr (Or.inr (Or.inl (Int32.toInt_inj.mp q))))
  · exact Or.inr (Or.inr (Or.inr (Or.inr (Or.inl (Int32.toInt_inj.mp q)))))
  · exact Or.inr (Or.inr (Or.inr (Or.inr (Or.inr (Or.inl (Int32.toInt_inj.mp q))))))
  · exact Or.inr (Or.inr (Or.inr (Or.inr (Or.inr (Or.inr (Int32.toInt_inj.mp q))))))
/-- fill's loop -/
theorem own_i0 {k : Nat} {i : Int32} (h : i.toInt + (k : Int) = 256) (h0 : 0 ≤ i.toInt) : ¬ i < 0 := fun q => by
  have q' : i.toInt < 0 := Int32.lt_iff_toInt_lt.mp q
  omega
theorem own_ilt {k : Nat} {i : Int32} (h : i.toInt + ((k + 1 : Nat) : Int) = 256) : i < 256 := Int32.lt_iff_toInt_lt.mpr (show i.toInt < 256 by omega)
theorem own_ige {i : Int32} (h : i.toInt + ((0 : Nat) : Int) = 256) : ¬ i < 256 := fun q => by
  have q' : i.toInt < 256 := Int32.lt_iff_toInt_lt.mp q
  omega
theorem own_inc {k : Nat} {i : Int32} (h : i.toInt + ((k + 1 : Nat) : Int) = 256) (h0 : 0 ≤ i.toInt) : (i + 1).toInt = i.toInt + 1 := by
  have a := c_iadd i 1
  have e : (1 : Int32).toInt = 1 := by decide
  have e1 := (i + 1).le_toInt
  have e2 := (i + 1).toInt_lt
  omega
theorem own_fillstep {g : Nat → Int64} {i : Int32} (h : (i + 1).toInt = i.toInt + 1) (h0 : 0 ≤ i.toInt) (hg : ∀ x, x < i.toNatClampNeg → g x = -1) : ∀ x, x < (i + 1).toNatClampNeg → (fun z => if z = i.toNatClampNeg then (-1 : Int64) else g z) x = -1 := by
  intro x hx
  by_cases q : x = i.toNatClampNeg
  · exact if_pos q
  · refine (if_neg q).trans (hg x ?_)
    simp only [Int32.toNatClampNeg] at *
    omega
theorem own_fillend {g : Nat → Int64} {i : Int32} (h : i.toInt + ((0 : Nat) : Int) = 256) (hg : ∀ x, x < i.toNatClampNeg → g x = -1) : ∀ x, x < 256 → g x = -1 := fun x hx => hg x (by
  simp only [Int32.toNatClampNeg]
  omega)
theorem own_dd1 {q : Int64} {s : Int32} {X : Int64} (h : ¬ (q + s.toInt64) = (-1 : Int64)) : ((2 : Int64) + X) = (if (q + s.toInt64) = (-1 : Int64) then (0 : Int64) else (0 : Int64) + 2) + X := by
  rw [if_neg h, Int64.zero_add]
theorem own_dd2 {q : Int64} {s t : Int32} {k D X : Int64} (h : k = if s = t then (0 : Int64) else 2) : (D + (k + X)) = (if (q + s.toInt64) = (q + t.toInt64) then D else D + 2) + X := by
  by_cases u : s = t
  · rw [h, if_pos u, if_pos (own_wineq.mpr u), Int64.zero_add]
  · rw [h, if_neg u, if_neg (fun z => u (own_wineq.mp z)), Int64.add_assoc]
theorem own_hcs {a0 a1 a2 x y z f f' m i : Int32} (h1 : ¬ i < f) (h2 : ¬ i < f') : own_hc a0 a1 a2 x y z f m i ↔ own_hc a0 a1 a2 x y z f' m i := ⟨fun z => ⟨h2, z.2⟩, fun z => ⟨h1, z.2⟩⟩
def own_first (a0_ a1_ a2_ u0_ u1_ u2_ u3_ u4_ u5_ u6_ u7_ f m : Int32) : Int32 := if own_hc a0_ a1_ a2_ u0_ u1_ u2_ f m 2 then 3 else if own_hc a0_ a1_ a2_ u1_ u2_ u3_ f m 3 then 4 else if own_hc a0_ a1_ a2_ u2_ u3_ u4_ f m 4 then 5 else if own_hc a0_ a1_ a2_ u3_ u4_ u5_ f m 5 then 6 else if own_hc a0_ a1_ a2_ u4_ u5_ u6_ f m 6 then 7 else if own_hc a0_ a1_ a2_ u5_ u6_ u7_ f m 7 then 8 else -1
def own_inv (a0_ a1_ a2_ u0_ u1_ u2_ u3_ u4_ u5_ u6_ u7_ s : Int32) (e : Int64) : Prop := (s = 2 → own_I a0_ a1_ u0_ u1_ e) ∧ (s = 3 → own_I a0_ a1_ u1_ u2_ e) ∧ (s = 4 → own_I a0_ a1_ u2_ u3_ e) ∧ (s = 5 → own_I a0_ a1_ u3_ u4_ e) ∧ (s = 6 → own_I a0_ a1_ u4_ u5_ e) ∧ (s = 7 → own_I a0_ a1_ u5_ u6_ e) ∧ (s = 8 → own_I a0_ a1_ u6_ u7_ e)
theorem own_fh2 {a0_ a1_ a2_ u0_ u1_ u2_ u3_ u4_ u5_ u6_ u7_ m : Int32} (hm : (2 : Int32) < m) (h : u0_ = a0_ ∧ u1_ = a1_ ∧ u2_ = a2_) : own_first a0_ a1_ a2_ u0_ u1_ u2_ u3_ u4_ u5_ u6_ u7_ 2 m = 3 := by
  unfold own_first
  rw [if_pos (show own_hc a0_ a1_ a2_ u0_ u1_ u2_ 2 m 2 from ⟨by decide, hm, h⟩)]
theorem own_fm2 {a0_ a1_ a2_ u0_ u1_ u2_ u3_ u4_ u5_ u6_ u7_ m : Int32} (h : ¬ (u0_ = a0_ ∧ u1_ = a1_ ∧ u2_ = a2_)) : own_first a0_ a1_ a2_ u0_ u1_ u2_ u3_ u4_ u5_ u6_ u7_ 2 m = own_first a0_ a1_ a2_ u0_ u1_ u2_ u3_ u4_ u5_ u6_ u7_ 3 m := by
  unfold own_first
  rw [if_neg (show ¬ own_hc a0_ a1_ a2_ u0_ u1_ u2_ 2 m 2 from fun z => h z.2.2), if_neg (show ¬ own_hc a0_ a1_ a2_ u0_ u1_ u2_ 3 m 2 from fun z => z.1 (by decide))]
  exact (ite_congr (propext (own_hcs (by decide) (by decide))) (fun _ => rfl) (fun _ => (ite_congr (propext (own_hcs (by decide) (by decide))) (fun _ => rfl) (fun _ => (ite_congr (propext (own_hcs (by decide) (by decide))) (fun _ => rfl) (fun _ => (ite_congr (propext (own_hcs (by decide) (by decide))) (fun _ => rfl) (fun _ => (ite_congr (propext (own_hcs (by decide) (by decide))) (fun _ => rfl) (fun _ => rfl))))))))))
theorem own_fh3 {a0_ a1_ a2_ u0_ u1_ u2_ u3_ u4_ u5_ u6_ u7_ m : Int32} (hm : (3 : Int32) < m) (h : u1_ = a0_ ∧ u2_ = a1_ ∧ u3_ = a2_) : own_first a0_ a1_ a2_ u0_ u1_ u2_ u3_ u4_ u5_ u6_ u7_ 3 m = 4 := by
  unfold own_first
  rw [if_neg (show ¬ own_hc a0_ a1_ a2_ u0_ u1_ u2_ 3 m 2 from fun z => z.1 (by decide)), if_pos (show own_hc a0_ a1_ a2_ u1_ u2_ u3_ 3 m 3 from ⟨by decide, hm, h⟩)]
theorem own_fm3 {a0_ a1_ a2_ u0_ u1_ u2_ u3_ u4_ u5_ u6_ u7_ m : Int32} (h : ¬ (u1_ = a0_ ∧ u2_ = a1_ ∧ u3_ = a2_)) : own_first a0_ a1_ a2_ u0_ u1_ u2_ u3_ u4_ u5_ u6_ u7_ 3 m = own_first a0_ a1_ a2_ u0_ u1_ u2_ u3_ u4_ u5_ u6_ u7_ 4 m := by
  unfold own_first
  rw [if_neg (show ¬ own_hc a0_ a1_ a2_ u0_ u1_ u2_ 3 m 2 from fun z => z.1 (by decide)), if_neg (show ¬ own_hc a0_ a1_ a2_ u1_ u2_ u3_ 3 m 3 from fun z => h z.2.2), if_neg (show ¬ own_hc a0_ a1_ a2_ u0_ u1_ u2_ 4 m 2 from fun z => z.1 (by decide)), if_neg (show ¬ own_hc a0_ a1_ a2_ u1_ u2_ u3_ 4 m 3 from fun z => z.1 (by decide))]
  exact (ite_congr (propext (own_hcs (by decide) (by decide))) (fun _ => rfl) (fun _ => (ite_congr (propext (own_hcs (by decide) (by decide))) (fun _ => rfl) (fun _ => (ite_congr (propext (own_hcs (by decide) (by decide))) (fun _ => rfl) (fun _ => (ite_congr (propext (own_hcs (by decide) (by decide))) (fun _ => rfl) (fun _ => rfl))))))))
theorem own_fh4 {a0_ a1_ a2_ u0_ u1_ u2_ u3_ u4_ u5_ u6_ u7_ m : Int32} (hm : (4 : Int32) < m) (h : u2_ = a0_ ∧ u3_ = a1_ ∧ u4_ = a2_) : own_first a0_ a1_ a2_ u0_ u1_ u2_ u3_ u4_ u5_ u6_ u7_ 4 m = 5 := by
  unfold own_first
  rw [if_neg (show ¬ own_hc a0_ a1_ a2_ u0_ u1_ u2_ 4 m 2 from fun z => z.1 (by decide)), if_neg (show ¬ own_hc a0_ a1_ a2_ u1_ u2_ u3_ 4 m 3 from fun z => z.1 (by decide)), if_pos (show own_hc a0_ a1_ a2_ u2_ u3_ u4_ 4 m 4 from ⟨by decide, hm, h⟩)]
theorem own_fm4 {a0_ a1_ a2_ u0_ u1_ u2_ u3_ u4_ u5_ u6_ u7_ m : Int32} (h : ¬ (u2_ = a0_ ∧ u3_ = a1_ ∧ u4_ = a2_)) : own_first a0_ a1_ a2_ u0_ u1_ u2_ u3_ u4_ u5_ u6_ u7_ 4 m = own_first a0_ a1_ a2_ u0_ u1_ u2_ u3_ u4_ u5_ u6_ u7_ 5 m := by
  unfold own_first
  rw [if_neg (show ¬ own_hc a0_ a1_ a2_ u0_ u1_ u2_ 4 m 2 from fun z => z.1 (by decide)), if_neg (show ¬ own_hc a0_ a1_ a2_ u1_ u2_ u3_ 4 m 3 from fun z => z.1 (by decide)), if_neg (show ¬ own_hc a0_ a1_ a2_ u2_ u3_ u4_ 4 m 4 from fun z => h z.2.2), if_neg (show ¬ own_hc a0_ a1_ a2_ u0_ u1_ u2_ 5 m 2 from fun z => z.1 (by decide)), if_neg (show ¬ own_hc a0_ a1_ a2_ u1_ u2_ u3_ 5 m 3 from fun z => z.1 (by decide)), if_neg (show ¬ own_hc a0_ a1_ a2_ u2_ u3_ u4_ 5 m 4 from fun z => z.1 (by decide))]
  exact (ite_congr (propext (own_hcs (by decide) (by decide))) (fun _ => rfl) (fun _ => (ite_congr (propext (own_hcs (by decide) (by decide))) (fun _ => rfl) (fun _ => (ite_congr (propext (own_hcs (by decide) (by decide))) (fun _ => rfl) (fun _ => rfl))))))
theorem own_fh5 {a0_ a1_ a2_ u0_ u1_ u2_ u3_ u4_ u5_ u6_ u7_ m : Int32} (hm : (5 : Int32) < m) (h : u3_ = a0_ ∧ u4_ = a1_ ∧ u5_ = a2_) : own_first a0_ a1_ a2_ u0_ u1_ u2_ u3_ u4_ u5_ u6_ u7_ 5 m = 6 := by
  unfold own_first
  rw [if_neg (show ¬ own_hc a0_ a1_ a2_ u0_ u1_ u2_ 5 m 2 from fun z => z.1 (by decide)), if_neg (show ¬ own_hc a0_ a1_ a2_ u1_ u2_ u3_ 5 m 3 from fun z => z.1 (by decide)), if_neg (show ¬ own_hc a0_ a1_ a2_ u2_ u3_ u4_ 5 m 4 from fun z => z.1 (by decide)), if_pos (show own_hc a0_ a1_ a2_ u3_ u4_ u5_ 5 m 5 from ⟨by decide, hm, h⟩)]
theorem own_fm5 {a0_ a1_ a2_ u0_ u1_ u2_ u3_ u4_ u5_ u6_ u7_ m : Int32} (h : ¬ (u3_ = a0_ ∧ u4_ = a1_ ∧ u5_ = a2_)) : own_first a0_ a1_ a2_ u0_ u1_ u2_ u3_ u4_ u5_ u6_ u7_ 5 m = own_first a0_ a1_ a2_ u0_ u1_ u2_ u3_ u4_ u5_ u6_ u7_ 6 m := by
  unfold own_first
  rw [if_neg (show ¬ own_hc a0_ a1_ a2_ u0_ u1_ u2_ 5 m 2 from fun z => z.1 (by decide)), if_neg (show ¬ own_hc a0_ a1_ a2_ u1_ u2_ u3_ 5 m 3 from fun z => z.1 (by decide)), if_neg (show ¬ own_hc a0_ a1_ a2_ u2_ u3_ u4_ 5 m 4 from fun z => z.1 (by decide)), if_neg (show ¬ own_hc a0_ a1_ a2_ u3_ u4_ u5_ 5 m 5 from fun z => h z.2.2), if_neg (show ¬ own_hc a0_ a1_ a2_ u0_ u1_ u2_ 6 m 2 from fun z => z.1 (by decide)), if_neg (show ¬ own_hc a0_ a1_ a2_ u1_ u2_ u3_ 6 m 3 from fun z => z.1 (by decide)), if_neg (show ¬ own_hc a0_ a1_ a2_ u2_ u3_ u4_ 6 m 4 from fun z => z.1 (by decide)), if_neg (show ¬ own_hc a0_ a1_ a2_ u3_ u4_ u5_ 6 m 5 from fun z => z.1 (by decide))]
  exact (ite_congr (propext (own_hcs (by decide) (by decide))) (fun _ => rfl) (fun _ => (ite_congr (propext (own_hcs (by decide) (by decide))) (fun _ => rfl) (fun _ => rfl))))
theorem own_fh6 {a0_ a1_ a2_ u0_ u1_ u2_ u3_ u4_ u5_ u6_ u7_ m : Int32} (hm : (6 : Int32) < m) (h : u4_ = a0_ ∧ u5_ = a1_ ∧ u6_ = a2_) : own_first a0_ a1_ a2_ u0_ u1_ u2_ u3_ u4_ u5_ u6_ u7_ 6 m = 7 := by
  unfold own_first
  rw [if_neg (show ¬ own_hc a0_ a1_ a2_ u0_ u1_ u2_ 6 m 2 from fun z => z.1 (by decide)), if_neg (show ¬ own_hc a0_ a1_ a2_ u1_ u2_ u3_ 6 m 3 from fun z => z.1 (by decide)), if_neg (show ¬ own_hc a0_ a1_ a2_ u2_ u3_ u4_ 6 m 4 from fun z => z.1 (by decide)), if_neg (show ¬ own_hc a0_ a1_ a2_ u3_ u4_ u5_ 6 m 5 from fun z => z.1 (by decide)), if_pos (show own_hc a0_ a1_ a2_ u4_ u5_ u6_ 6 m 6 from ⟨by decide, hm, h⟩)]
theorem own_fm6 {a0_ a1_ a2_ u0_ u1_ u2_ u3_ u4_ u5_ u6_ u7_ m : Int32} (h : ¬ (u4_ = a0_ ∧ u5_ = a1_ ∧ u6_ = a2_)) : own_first a0_ a1_ a2_ u0_ u1_ u2_ u3_ u4_ u5_ u6_ u7_ 6 m = own_first a0_ a1_ a2_ u0_ u1_ u2_ u3_ u4_ u5_ u6_ u7_ 7 m := by
  unfold own_first
  rw [if_neg (show ¬ own_hc a0_ a1_ a2_ u0_ u1_ u2_ 6 m 2 from fun z => z.1 (by decide)), if_neg (show ¬ own_hc a0_ a1_ a2_ u1_ u2_ u3_ 6 m 3 from fun z => z.1 (by decide)), if_neg (show ¬ own_hc a0_ a1_ a2_ u2_ u3_ u4_ 6 m 4 from fun z => z.1 (by decide)), if_neg (show ¬ own_hc a0_ a1_ a2_ u3_ u4_ u5_ 6 m 5 from fun z => z.1 (by decide)), if_neg (show ¬ own_hc a0_ a1_ a2_ u4_ u5_ u6_ 6 m 6 from fun z => h z.2.2), if_neg (show ¬ own_hc a0_ a1_ a2_ u0_ u1_ u2_ 7 m 2 from fun z => z.1 (by decide)), if_neg (show ¬ own_hc a0_ a1_ a2_ u1_ u2_ u3_ 7 m 3 from fun z => z.1 (by decide)), if_neg (show ¬ own_hc a0_ a1_ a2_ u2_ u3_ u4_ 7 m 4 from fun z => z.1 (by decide)), if_neg (show ¬ own_hc a0_ a1_ a2_ u3_ u4_ u5_ 7 m 5 from fun z => z.1 (by decide)), if_neg (show ¬ own_hc a0_ a1_ a2_ u4_ u5_ u6_ 7 m 6 from fun z => z.1 (by decide))]
  exact (ite_congr (propext (own_hcs (by decide) (by decide))) (fun _ => rfl) (fun _ => rfl))
theorem own_fh7 {a0_ a1_ a2_ u0_ u1_ u2_ u3_ u4_ u5_ u6_ u7_ m : Int32} (hm : (7 : Int32) < m) (h : u5_ = a0_ ∧ u6_ = a1_ ∧ u7_ = a2_) : own_first a0_ a1_ a2_ u0_ u1_ u2_ u3_ u4_ u5_ u6_ u7_ 7 m = 8 := by
  unfold own_first
  rw [if_neg (show ¬ own_hc a0_ a1_ a2_ u0_ u1_ u2_ 7 m 2 from fun z => z.1 (by decide)), if_neg (show ¬ own_hc a0_ a1_ a2_ u1_ u2_ u3_ 7 m 3 from fun z => z.1 (by decide)), if_neg (show ¬ own_hc a0_ a1_ a2_ u2_ u3_ u4_ 7 m 4 from fun z => z.1 (by decide)), if_neg (show ¬ own_hc a0_ a1_ a2_ u3_ u4_ u5_ 7 m 5 from fun z => z.1 (by decide)), if_neg (show ¬ own_hc a0_ a1_ a2_ u4_ u5_ u6_ 7 m 6 from fun z => z.1 (by decide)), if_pos (show own_hc a0_ a1_ a2_ u5_ u6_ u7_ 7 m 7 from ⟨by decide, hm, h⟩)]
theorem own_fm7 {a0_ a1_ a2_ u0_ u1_ u2_ u3_ u4_ u5_ u6_ u7_ m : Int32} (h : ¬ (u5_ = a0_ ∧ u6_ = a1_ ∧ u7_ = a2_)) : own_first a0_ a1_ a2_ u0_ u1_ u2_ u3_ u4_ u5_ u6_ u7_ 7 m = own_first a0_ a1_ a2_ u0_ u1_ u2_ u3_ u4_ u5_ u6_ u7_ 8 m := by
  unfold own_first
  rw [if_neg (show ¬ own_hc a0_ a1_ a2_ u0_ u1_ u2_ 7 m 2 from fun z => z.1 (by decide)), if_neg (show ¬ own_hc a0_ a1_ a2_ u1_ u2_ u3_ 7 m 3 from fun z => z.1 (by decide)), if_neg (show ¬ own_hc a0_ a1_ a2_ u2_ u3_ u4_ 7 m 4 from fun z => z.1 (by decide)), if_neg (show ¬ own_hc a0_ a1_ a2_ u3_ u4_ u5_ 7 m 5 from fun z => z.1 (by decide)), if_neg (show ¬ own_hc a0_ a1_ a2_ u4_ u5_ u6_ 7 m 6 from fun z => z.1 (by decide)), if_neg (show ¬ own_hc a0_ a1_ a2_ u5_ u6_ u7_ 7 m 7 from fun z => h z.2.2), if_neg (show ¬ own_hc a0_ a1_ a2_ u0_ u1_ u2_ 8 m 2 from fun z => z.1 (by decide)), if_neg (show ¬ own_hc a0_ a1_ a2_ u1_ u2_ u3_ 8 m 3 from fun z => z.1 (by decide)), if_neg (show ¬ own_hc a0_ a1_ a2_ u2_ u3_ u4_ 8 m 4 from fun z => z.1 (by decide)), if_neg (show ¬ own_hc a0_ a1_ a2_ u3_ u4_ u5_ 8 m 5 from fun z => z.1 (by decide)), if_neg (show ¬ own_hc a0_ a1_ a2_ u4_ u5_ u6_ 8 m 6 from fun z => z.1 (by decide)), if_neg (show ¬ own_hc a0_ a1_ a2_ u5_ u6_ u7_ 8 m 7 from fun z => z.1 (by decide))]
theorem own_fe2 {a0_ a1_ a2_ u0_ u1_ u2_ u3_ u4_ u5_ u6_ u7_ m : Int32} (hm : ¬ (2 : Int32) < m) : own_first a0_ a1_ a2_ u0_ u1_ u2_ u3_ u4_ u5_ u6_ u7_ 2 m = -1 := by
  unfold own_first
  rw [if_neg (show ¬ own_hc a0_ a1_ a2_ u0_ u1_ u2_ 2 m 2 from fun z => hm (Int32.lt_of_le_of_lt (by decide : (2 : Int32) ≤ 2) z.2.1)), if_neg (show ¬ own_hc a0_ a1_ a2_ u1_ u2_ u3_ 2 m 3 from fun z => hm (Int32.lt_of_le_of_lt (by decide : (2 : Int32) ≤ 3) z.2.1)), if_neg (show ¬ own_hc a0_ a1_ a2_ u2_ u3_ u4_ 2 m 4 from fun z => hm (Int32.lt_of_le_of_lt (by decide : (2 : Int32) ≤ 4) z.2.1)), if_neg (show ¬ own_hc a0_ a1_ a2_ u3_ u4_ u5_ 2 m 5 from fun z => hm (Int32.lt_of_le_of_lt (by decide : (2 : Int32) ≤ 5) z.2.1)), if_neg (show ¬ own_hc a0_ a1_ a2_ u4_ u5_ u6_ 2 m 6 from fun z => hm (Int32.lt_of_le_of_lt (by decide : (2 : Int32) ≤ 6) z.2.1)), if_neg (show ¬ own_hc a0_ a1_ a2_ u5_ u6_ u7_ 2 m 7 from fun z => hm (Int32.lt_of_le_of_lt (by decide : (2 : Int32) ≤ 7) z.2.1))]
theorem own_fe3 {a0_ a1_ a2_ u0_ u1_ u2_ u3_ u4_ u5_ u6_ u7_ m : Int32} (hm : ¬ (3 : Int32) < m) : own_first a0_ a1_ a2_ u0_ u1_ u2_ u3_ u4_ u5_ u6_ u7_ 3 m = -1 := by
  unfold own_first
  rw [if_neg (show ¬ own_hc a0_ a1_ a2_ u0_ u1_ u2_ 3 m 2 from fun z => z.1 (by decide)), if_neg (show ¬ own_hc a0_ a1_ a2_ u1_ u2_ u3_ 3 m 3 from fun z => hm (Int32.lt_of_le_of_lt (by decide : (3 : Int32) ≤ 3) z.2.1)), if_neg (show ¬ own_hc a0_ a1_ a2_ u2_ u3_ u4_ 3 m 4 from fun z => hm (Int32.lt_of_le_of_lt (by decide : (3 : Int32) ≤ 4) z.2.1)), if_neg (show ¬ own_hc a0_ a1_ a2_ u3_ u4_ u5_ 3 m 5 from fun z => hm (Int32.lt_of_le_of_lt (by decide : (3 : Int32) ≤ 5) z.2.1)), if_neg (show ¬ own_hc a0_ a1_ a2_ u4_ u5_ u6_ 3 m 6 from fun z => hm (Int32.lt_of_le_of_lt (by decide : (3 : Int32) ≤ 6) z.2.1)), if_neg (show ¬ own_hc a0_ a1_ a2_ u5_ u6_ u7_ 3 m 7 from fun z => hm (Int32.lt_of_le_of_lt (by decide : (3 : Int32) ≤ 7) z.2.1))]
theorem own_fe4 {a0_ a1_ a2_ u0_ u1_ u2_ u3_ u4_ u5_ u6_ u7_ m : Int32} (hm : ¬ (4 : Int32) < m) : own_first a0_ a1_ a2_ u0_ u1_ u2_ u3_ u4_ u5_ u6_ u7_ 4 m = -1 := by
  unfold own_first
  rw [if_neg (show ¬ own_hc a0_ a1_ a2_ u0_ u1_ u2_ 4 m 2 from fun z => z.1 (by decide)), if_neg (show ¬ own_hc a0_ a1_ a2_ u1_ u2_ u3_ 4 m 3 from fun z => z.1 (by decide)), if_neg (show ¬ own_hc a0_ a1_ a2_ u2_ u3_ u4_ 4 m 4 from fun z => hm (Int32.lt_of_le_of_lt (by decide : (4 : Int32) ≤ 4) z.2.1)), if_neg (show ¬ own_hc a0_ a1_ a2_ u3_ u4_ u5_ 4 m 5 from fun z => hm (Int32.lt_of_le_of_lt (by decide : (4 : Int32) ≤ 5) z.2.1)), if_neg (show ¬ own_hc a0_ a1_ a2_ u4_ u5_ u6_ 4 m 6 from fun z => hm (Int32.lt_of_le_of_lt (by decide : (4 : Int32) ≤ 6) z.2.1)), if_neg (show ¬ own_hc a0_ a1_ a2_ u5_ u6_ u7_ 4 m 7 from fun z => hm (Int32.lt_of_le_of_lt (by decide : (4 : Int32) ≤ 7) z.2.1))]
theorem own_fe5 {a0_ a1_ a2_ u0_ u1_ u2_ u3_ u4_ u5_ u6_ u7_ m : Int32} (hm : ¬ (5 : Int32) < m) : own_first a0_ a1_ a2_ u0_ u1_ u2_ u3_ u4_ u5_ u6_ u7_ 5 m = -1 := by
  unfold own_first
  rw [if_neg (show ¬ own_hc a0_ a1_ a2_ u0_ u1_ u2_ 5 m 2 from fun z => z.1 (by decide)), if_neg (show ¬ own_hc a0_ a1_ a2_ u1_ u2_ u3_ 5 m 3 from fun z => z.1 (by decide)), if_neg (show ¬ own_hc a0_ a1_ a2_ u2_ u3_ u4_ 5 m 4 from fun z => z.1 (by decide)), if_neg (show ¬ own_hc a0_ a1_ a2_ u3_ u4_ u5_ 5 m 5 from fun z => hm (Int32.lt_of_le_of_lt (by decide : (5 : Int32) ≤ 5) z.2.1)), if_neg (show ¬ own_hc a0_ a1_ a2_ u4_ u5_ u6_ 5 m 6 from fun z => hm (Int32.lt_of_le_of_lt (by decide : (5 : Int32) ≤ 6) z.2.1)), if_neg (show ¬ own_hc a0_ a1_ a2_ u5_ u6_ u7_ 5 m 7 from fun z => hm (Int32.lt_of_le_of_lt (by decide : (5 : Int32) ≤ 7) z.2.1))]
theorem own_fe6 {a0_ a1_ a2_ u0_ u1_ u2_ u3_ u4_ u5_ u6_ u7_ m : Int32} (hm : ¬ (6 : Int32) < m) : own_first a0_ a1_ a2_ u0_ u1_ u2_ u3_ u4_ u5_ u6_ u7_ 6 m = -1 := by
  unfold own_first
  rw [if_neg (show ¬ own_hc a0_ a1_ a2_ u0_ u1_ u2_ 6 m 2 from fun z => z.1 (by decide)), if_neg (show ¬ own_hc a0_ a1_ a2_ u1_ u2_ u3_ 6 m 3 from fun z => z.1 (by decide)), if_neg (show ¬ own_hc a0_ a1_ a2_ u2_ u3_ u4_ 6 m 4 from fun z => z.1 (by decide)), if_neg (show ¬ own_hc a0_ a1_ a2_ u3_ u4_ u5_ 6 m 5 from fun z => z.1 (by decide)), if_neg (show ¬ own_hc a0_ a1_ a2_ u4_ u5_ u6_ 6 m 6 from fun z => hm (Int32.lt_of_le_of_lt (by decide : (6 : Int32) ≤ 6) z.2.1)), if_neg (show ¬ own_hc a0_ a1_ a2_ u5_ u6_ u7_ 6 m 7 from fun z => hm (Int32.lt_of_le_of_lt (by decide : (6 : Int32) ≤ 7) z.2.1))]
theorem own_fe7 {a0_ a1_ a2_ u0_ u1_ u2_ u3_ u4_ u5_ u6_ u7_ m : Int32} (hm : ¬ (7 : Int32) < m) : own_first a0_ a1_ a2_ u0_ u1_ u2_ u3_ u4_ u5_ u6_ u7_ 7 m = -1 := by
  unfold own_first
  rw [if_neg (show ¬ own_hc a0_ a1_ a2_ u0_ u1_ u2_ 7 m 2 from fun z => z.1 (by decide)), if_neg (show ¬ own_hc a0_ a1_ a2_ u1_ u2_ u3_ 7 m 3 from fun z => z.1 (by decide)), if_neg (show ¬ own_hc a0_ a1_ a2_ u2_ u3_ u4_ 7 m 4 from fun z => z.1 (by decide)), if_neg (show ¬ own_hc a0_ a1_ a2_ u3_ u4_ u5_ 7 m 5 from fun z => z.1 (by decide)), if_neg (show ¬ own_hc a0_ a1_ a2_ u4_ u5_ u6_ 7 m 6 from fun z => z.1 (by decide)), if_neg (show ¬ own_hc a0_ a1_ a2_ u5_ u6_ u7_ 7 m 7 from fun z => hm (Int32.lt_of_le_of_lt (by decide : (7 : Int32) ≤ 7) z.2.1))]
theorem own_fe8 {a0_ a1_ a2_ u0_ u1_ u2_ u3_ u4_ u5_ u6_ u7_ m : Int32} (hm : ¬ (8 : Int32) < m) : own_first a0_ a1_ a2_ u0_ u1_ u2_ u3_ u4_ u5_ u6_ u7_ 8 m = -1 := by
  unfold own_first
  rw [if_neg (show ¬ own_hc a0_ a1_ a2_ u0_ u1_ u2_ 8 m 2 from fun z => z.1 (by decide)), if_neg (show ¬ own_hc a0_ a1_ a2_ u1_ u2_ u3_ 8 m 3 from fun z => z.1 (by decide)), if_neg (show ¬ own_hc a0_ a1_ a2_ u2_ u3_ u4_ 8 m 4 from fun z => z.1 (by decide)), if_neg (show ¬ own_hc a0_ a1_ a2_ u3_ u4_ u5_ 8 m 5 from fun z => z.1 (by decide)), if_neg (show ¬ own_hc a0_ a1_ a2_ u4_ u5_ u6_ 8 m 6 from fun z => z.1 (by decide)), if_neg (show ¬ own_hc a0_ a1_ a2_ u5_ u6_ u7_ 8 m 7 from fun z => z.1 (by decide))]
theorem own_firstb {a0_ a1_ a2_ u0_ u1_ u2_ u3_ u4_ u5_ u6_ u7_ s m : Int32} (hs : 2 ≤ s.toInt ∧ s.toInt ≤ 8) (hm : s.toInt ≤ m.toInt ∧ m.toInt ≤ 8) : 2 ≤ (own_end (own_first a0_ a1_ a2_ u0_ u1_ u2_ u3_ u4_ u5_ u6_ u7_ s m) m).toInt ∧ (own_end (own_first a0_ a1_ a2_ u0_ u1_ u2_ u3_ u4_ u5_ u6_ u7_ s m) m).toInt ≤ 8 := by
  have h : own_first a0_ a1_ a2_ u0_ u1_ u2_ u3_ u4_ u5_ u6_ u7_ s m = 3 ∨ own_first a0_ a1_ a2_ u0_ u1_ u2_ u3_ u4_ u5_ u6_ u7_ s m = 4 ∨ own_first a0_ a1_ a2_ u0_ u1_ u2_ u3_ u4_ u5_ u6_ u7_ s m = 5 ∨ own_first a0_ a1_ a2_ u0_ u1_ u2_ u3_ u4_ u5_ u6_ u7_ s m = 6 ∨ own_first a0_ a1_ a2_ u0_ u1_ u2_ u3_ u4_ u5_ u6_ u7_ s m = 7 ∨ own_first a0_ a1_ a2_ u0_ u1_ u2_ u3_ u4_ u5_ u6_ u7_ s m = 8 ∨ own_first a0_ a1_ a2_ u0_ u1_ u2_ u3_ u4_ u5_ u6_ u7_ s m = -1 := by
    unfold own_first
    repeat' split
    all_goals simp
  unfold own_end
  rcases h with q | q | q | q | q | q | q <;> rw [q]
  all_goals first | (rw [if_neg (by decide)]; decide) | (rw [if_pos (by decide)]; omega)
theorem own_m8 {s m : Int32} (h : s.toInt ≤ m.toInt ∧ m.toInt ≤ 8) : ¬ (8 : Int32) < m := fun q => by
  have q' : 8 < m.toInt := Int32.lt_iff_toInt_lt.mp q
  omega
theorem own_meq {m i : Int32} (h1 : ¬ m < i) (h2 : ¬ i < m) : m = i := Int32.le_antisymm (Int32.not_lt.mp h2) (Int32.not_lt.mp h1)
theorem own_enm {r en m : Int32} (h : r = -1) (he : en = own_end r m) : en = m := by rw [he, h]; exact if_pos (by decide)
theorem own_enr {r en m i : Int32} (h : r = i) (hi : ¬ i < 0) (he : en = own_end r m) : en = i := by rw [he, h]; exact if_neg hi
theorem own_mlt {m i j : Int32} (h : j.toInt = i.toInt + 1) (hm : i < m) : ¬ m < j := fun q => by
  have q' := Int32.lt_iff_toInt_lt.mp q
  have m' := Int32.lt_iff_toInt_lt.mp hm
  omega
theorem own_nlt {s m : Int32} (h : s.toInt ≤ m.toInt) : ¬ m < s := fun q => by
  have q' := Int32.lt_iff_toInt_lt.mp q
  omega
theorem own_et {r m : Int32} (h : r < 0) : m = own_end r m := (if_pos h).symm
theorem own_ef {r m : Int32} (h : ¬ r < 0) : r = own_end r m := (if_neg h).symm
theorem own_iv2 {a0_ a1_ a2_ u0_ u1_ u2_ u3_ u4_ u5_ u6_ u7_ : Int32} {e : Int64} (h : own_I a0_ a1_ u0_ u1_ e) : own_inv a0_ a1_ a2_ u0_ u1_ u2_ u3_ u4_ u5_ u6_ u7_ 2 e := ⟨fun _ => h, fun q => absurd q (by decide), fun q => absurd q (by decide), fun q => absurd q (by decide), fun q => absurd q (by decide), fun q => absurd q (by decide), fun q => absurd q (by decide)⟩
theorem own_iv3 {a0_ a1_ a2_ u0_ u1_ u2_ u3_ u4_ u5_ u6_ u7_ : Int32} {e : Int64} (h : own_I a0_ a1_ u1_ u2_ e) : own_inv a0_ a1_ a2_ u0_ u1_ u2_ u3_ u4_ u5_ u6_ u7_ 3 e := ⟨fun q => absurd q (by decide), fun _ => h, fun q => absurd q (by decide), fun q => absurd q (by decide), fun q => absurd q (by decide), fun q => absurd q (by decide), fun q => absurd q (by decide)⟩
theorem own_iv4 {a0_ a1_ a2_ u0_ u1_ u2_ u3_ u4_ u5_ u6_ u7_ : Int32} {e : Int64} (h : own_I a0_ a1_ u2_ u3_ e) : own_inv a0_ a1_ a2_ u0_ u1_ u2_ u3_ u4_ u5_ u6_ u7_ 4 e := ⟨fun q => absurd q (by decide), fun q => absurd q (by decide), fun _ => h, fun q => absurd q (by decide), fun q => absurd q (by decide), fun q => absurd q (by decide), fun q => absurd q (by decide)⟩
theorem own_iv5 {a0_ a1_ a2_ u0_ u1_ u2_ u3_ u4_ u5_ u6_ u7_ : Int32} {e : Int64} (h : own_I a0_ a1_ u3_ u4_ e) : own_inv a0_ a1_ a2_ u0_ u1_ u2_ u3_ u4_ u5_ u6_ u7_ 5 e := ⟨fun q => absurd q (by decide), fun q => absurd q (by decide), fun q => absurd q (by decide), fun _ => h, fun q => absurd q (by decide), fun q => absurd q (by decide), fun q => absurd q (by decide)⟩
theorem own_iv6 {a0_ a1_ a2_ u0_ u1_ u2_ u3_ u4_ u5_ u6_ u7_ : Int32} {e : Int64} (h : own_I a0_ a1_ u4_ u5_ e) : own_inv a0_ a1_ a2_ u0_ u1_ u2_ u3_ u4_ u5_ u6_ u7_ 6 e := ⟨fun q => absurd q (by decide), fun q => absurd q (by decide), fun q => absurd q (by decide), fun q => absurd q (by decide), fun _ => h, fun q => absurd q (by decide), fun q => absurd q (by decide)⟩
theorem own_iv7 {a0_ a1_ a2_ u0_ u1_ u2_ u3_ u4_ u5_ u6_ u7_ : Int32} {e : Int64} (h : own_I a0_ a1_ u5_ u6_ e) : own_inv a0_ a1_ a2_ u0_ u1_ u2_ u3_ u4_ u5_ u6_ u7_ 7 e := ⟨fun q => absurd q (by decide), fun q => absurd q (by decide), fun q => absurd q (by decide), fun q => absurd q (by decide), fun q => absurd q (by decide), fun _ => h, fun q => absurd q (by decide)⟩
theorem own_iv8 {a0_ a1_ a2_ u0_ u1_ u2_ u3_ u4_ u5_ u6_ u7_ : Int32} {e : Int64} (h : own_I a0_ a1_ u6_ u7_ e) : own_inv a0_ a1_ a2_ u0_ u1_ u2_ u3_ u4_ u5_ u6_ u7_ 8 e := ⟨fun q => absurd q (by decide), fun q => absurd q (by decide), fun q => absurd q (by decide), fun q => absurd q (by decide), fun q => absurd q (by decide), fun q => absurd q (by decide), fun _ => h⟩
def GlobF (Z : State) (w_CLASSIC : Addr) : Prop :=
  Sta Z Z.heap "com/example/sindano/sindano/boyermoore/Stretches$Opening" "CLASSIC" "Lcom/example/sindano/sindano/boyermoore/Stretches$Opening;" (.ref w_CLASSIC) ∧
  Exa Z Z.heap w_CLASSIC "com/example/sindano/sindano/boyermoore/Stretches$Opening"
theorem d1_0 : decode method_2_code 0 = .ok (.iload_n 0, 1) := by decide +kernel
theorem d1_1 : decode method_2_code 1 = .ok (.iload_n 1, 1) := by decide +kernel
theorem d1_2 : decode method_2_code 2 = .ok (.iushr, 1) := by decide +kernel
theorem d1_3 : decode method_2_code 3 = .ok (.iconst 1, 1) := by decide +kernel
theorem d1_4 : decode method_2_code 4 = .ok (.iand, 1) := by decide +kernel
theorem d1_5 : decode method_2_code 5 = .ok (.ifCond .eq 7, 3) := by decide +kernel
theorem d1_8 : decode method_2_code 8 = .ok (.iload_n 3, 1) := by decide +kernel
theorem d1_9 : decode method_2_code 9 = .ok (.goto 4, 3) := by decide +kernel
theorem d1_12 : decode method_2_code 12 = .ok (.iload_n 2, 1) := by decide +kernel
theorem d1_13 : decode method_2_code 13 = .ok (.ireturn, 1) := by decide +kernel
theorem pn1 : plainName "com/example/sindano/sindano/boyermoore/ReadingExactPinLaw" = true := by first | (simp [plainName, overriddenIn]; done) | decide +kernel
theorem ef1 (m : MethodId) (p0 : Int32) (p1 : Int32) (p2 : Int32) (p3 : Int32) : entryFrame m #[(.int p0), (.int p1), (.int p2), (.int p3)] 4 = mkF m 0 #[.val (.int p0), .val (.int p1), .val (.int p2), .val (.int p3)] [] := by first | (simp [entryFrame, mkF, argsToLocals, Value.category]; done) | rfl
set_option maxRecDepth 65536 in
set_option maxHeartbeats 40000000 in
theorem rmP (l : Launch) (Z : State) (a0 : Array Value) (hw : ∀ d ∈ tables_1, d.before a0 Z = true) (ws : List Jvm.Cond) (n0 : Nat) (h0 : Heap) (O0 : Old Z n0 h0) (p0 : Int32) (p1 : Int32) (p2 : Int32) (p3 : Int32)  :
    Meets1 l (⟨"com/example/sindano/sindano/boyermoore/ReadingExactPinLaw", "pick", "(IIBB)B"⟩ : MethodName) method_2_code 4 (some .byte) ws ({ frames := 0, cells := 0, slots := 0, locals := 0 } : Room) #[(.int p0), (.int p1), (.int p2), (.int p3)] Z h0 (fun v h L => ∃ r : Int32, v = some (.int r) ∧ Fr n0 L ∧ h = h0 ∧ own_isb r) := by
  refine MetFree.of_bodySF (plainFor_of_name pn1) hisR ?_
  intro p e s m args below meth c s₁ Bd hml0 hP hK
  obtain ⟨rfl, hZ, hh⟩ := hP
  have hx := Bd.exec
  have hby := Bd.bytes
  have hml : c.maxLocals = 4 := hml0
  have hown : s.vm.findClass "com/example/sindano/sindano/boyermoore/ReadingExactPinLaw" = some m.cls := findClass_of_methodNamed Bd.named
  have hnm := (name_of_methodNamed Bd.named Bd.method).1
  have X0 : Stand p l e ({ frames := 0, cells := 0, slots := 0, locals := 0 } : Room) s m #[(.int p0), (.int p1), (.int p2), (.int p3)] below meth c s₁ [] 0 0 := Stand.of_body Bd
  have e0 : s₁.heap = h0 := by rw [← hh, Bd.state]; rfl
  have N0 := Fr.nil n0
  have Z0 := own_old_le O0
  show Ends p e below s s₁ (entryFrame m #[(.int p0), (.int p1), (.int p2), (.int p3)] 4) ({ frames := 0, cells := 0, slots := 0, locals := 0 } : Room).cells ({ frames := 0, cells := 0, slots := 0, locals := 0 } : Room).slots (fun v h L => ∃ r : Int32, v = some (.int r) ∧ Fr n0 L ∧ h = h0 ∧ own_isb r)
  refine Ends.go (fun _ k => castTop (ef1 m p0 p1 p2 p3) k) ?_
  have K0 := Keep.refl h0 []
  refine Ends.go (fun _ k => XS.iloadN X0.here hx rfl (hb hby d1_0) rfl k) ?_
  refine Ends.go (fun _ k => XS.iloadN X0.here hx rfl (hb hby d1_1) rfl k) ?_
  refine Ends.go (fun _ k => XS.iushr X0.here hx rfl (hb hby d1_2) rfl k) ?_
  show Ends p e below s s₁ (mkF m 3 #[.val (.int p0), .val (.int p1), .val (.int p2), .val (.int p3)] [(.int ((p0.toUInt32 >>> (p1 &&& 31).toUInt32).toInt32))]) _ _ _
  refine Ends.go (fun _ k => XS.iconst X0.here hx rfl (hb hby d1_3) k) ?_
  refine Ends.go (fun _ k => XS.iand X0.here hx rfl (hb hby d1_4) rfl k) ?_
  by_cases hc5_1 : (((p0.toUInt32 >>> (p1 &&& 31).toUInt32).toInt32) &&& (1 : Int32)) = (0 : Int32)
  · refine Ends.go (fun _ k => XS.ifYes X0.here hx rfl (pc0 := 5) (pc' := 12) rfl (hb hby d1_5) rfl ((if0 _ _).trans (teq hc5_1).1) (by decide) (by decide) k) ?_
    refine Ends.go (fun _ k => XS.iloadN X0.here hx rfl (hb hby d1_12) rfl k) ?_
    show Ends p e below s s₁ (mkF m 13 #[.val (.int p0), .val (.int p1), .val (.int p2), .val (.int p3)] [(.int p2)]) _ _ _
    refine Ends.retZ X0 hx Bd.notSynchronized (t := .byte) Bd.returns (by simp) (hb hby d1_13) (by decide) (by decide) ?_
    exact ⟨_, rfl, N0, e0, own_isb8 _⟩
  · refine Ends.go (fun _ k => XS.ifNo X0.here hx rfl (hb hby d1_5) rfl ((if0 _ _).trans (feq hc5_1).1) k) ?_
    refine Ends.go (fun _ k => XS.iloadN X0.here hx rfl (hb hby d1_8) rfl k) ?_
    refine Ends.go (fun _ k => XS.goto X0.here hx rfl (pc0 := 9) (pc' := 13) rfl (hb hby d1_9) (by decide) (by decide) k) ?_
    refine Ends.retZ X0 hx Bd.notSynchronized (t := .byte) Bd.returns (by simp) (hb hby d1_13) (by decide) (by decide) ?_
    exact ⟨_, rfl, N0, e0, own_isb8 _⟩
theorem d3_0 : decode method_3_code 0 = .ok (.iload_n 2, 1) := by decide +kernel
theorem d3_1 : decode method_3_code 1 = .ok (.iload_n 3, 1) := by decide +kernel
theorem d3_2 : decode method_3_code 2 = .ok (.if_icmp .lt 44, 3) := by decide +kernel
theorem d3_5 : decode method_3_code 5 = .ok (.iload_n 2, 1) := by decide +kernel
theorem d3_6 : decode method_3_code 6 = .ok (.iload 4, 2) := by decide +kernel
theorem d3_8 : decode method_3_code 8 = .ok (.if_icmp .ge 38, 3) := by decide +kernel
theorem d3_11 : decode method_3_code 11 = .ok (.aload_n 0, 1) := by decide +kernel
theorem d3_12 : decode method_3_code 12 = .ok (.iload_n 2, 1) := by decide +kernel
theorem d3_13 : decode method_3_code 13 = .ok (.iconst 2, 1) := by decide +kernel
theorem d3_14 : decode method_3_code 14 = .ok (.isub, 1) := by decide +kernel
theorem d3_15 : decode method_3_code 15 = .ok (.baload, 1) := by decide +kernel
theorem d3_16 : decode method_3_code 16 = .ok (.aload_n 1, 1) := by decide +kernel
theorem d3_17 : decode method_3_code 17 = .ok (.iconst 0, 1) := by decide +kernel
theorem d3_18 : decode method_3_code 18 = .ok (.baload, 1) := by decide +kernel
theorem d3_19 : decode method_3_code 19 = .ok (.if_icmp .ne 27, 3) := by decide +kernel
theorem d3_22 : decode method_3_code 22 = .ok (.aload_n 0, 1) := by decide +kernel
theorem d3_23 : decode method_3_code 23 = .ok (.iload_n 2, 1) := by decide +kernel
theorem d3_24 : decode method_3_code 24 = .ok (.iconst 1, 1) := by decide +kernel
theorem d3_25 : decode method_3_code 25 = .ok (.isub, 1) := by decide +kernel
theorem d3_26 : decode method_3_code 26 = .ok (.baload, 1) := by decide +kernel
theorem d3_27 : decode method_3_code 27 = .ok (.aload_n 1, 1) := by decide +kernel
theorem d3_28 : decode method_3_code 28 = .ok (.iconst 1, 1) := by decide +kernel
theorem d3_29 : decode method_3_code 29 = .ok (.baload, 1) := by decide +kernel
theorem d3_30 : decode method_3_code 30 = .ok (.if_icmp .ne 16, 3) := by decide +kernel
theorem d3_33 : decode method_3_code 33 = .ok (.aload_n 0, 1) := by decide +kernel
theorem d3_34 : decode method_3_code 34 = .ok (.iload_n 2, 1) := by decide +kernel
theorem d3_35 : decode method_3_code 35 = .ok (.baload, 1) := by decide +kernel
theorem d3_36 : decode method_3_code 36 = .ok (.aload_n 1, 1) := by decide +kernel
theorem d3_37 : decode method_3_code 37 = .ok (.iconst 2, 1) := by decide +kernel
theorem d3_38 : decode method_3_code 38 = .ok (.baload, 1) := by decide +kernel
theorem d3_39 : decode method_3_code 39 = .ok (.if_icmp .ne 7, 3) := by decide +kernel
theorem d3_42 : decode method_3_code 42 = .ok (.iconst 1, 1) := by decide +kernel
theorem d3_43 : decode method_3_code 43 = .ok (.goto 4, 3) := by decide +kernel
theorem d3_46 : decode method_3_code 46 = .ok (.iconst 0, 1) := by decide +kernel
theorem d3_47 : decode method_3_code 47 = .ok (.ireturn, 1) := by decide +kernel
theorem pn3 : plainName "com/example/sindano/sindano/boyermoore/ReadingExactPinLaw" = true := by first | (simp [plainName, overriddenIn]; done) | decide +kernel
theorem ef3_rriii (m : MethodId) (x0 : Addr) (x1 : Addr) (x2 : Int32) (x3 : Int32) (x4 : Int32) : entryFrame m #[(.ref x0), (.ref x1), (.int x2), (.int x3), (.int x4)] 5 = mkF m 0 #[.val (.ref x0), .val (.ref x1), .val (.int x2), .val (.int x3), .val (.int x4)] [] := by first | (simp [entryFrame, mkF, argsToLocals, Value.category]; done) | rfl
set_option maxRecDepth 65536 in
set_option maxHeartbeats 40000000 in
theorem rmH_2 (l : Launch) (Z : State) (a0 : Array Value) (hw : ∀ d ∈ tables_1, d.before a0 Z = true) (ws : List Jvm.Cond) (n0 : Nat) (h0 : Heap) (O0 : Old Z n0 h0)  (bf_ pf_ : Addr) (kb_ kp_ : ClassId) (f_ m_ : Int32) (a0_ a1_ a2_ u0_ u1_ u2_ u3_ u4_ u5_ u6_ u7_ : Int32) (Vb : Arv Z h0 bf_ kb_ .byte (8 : Int32) [(.int u0_), (.int u1_), (.int u2_), (.int u3_), (.int u4_), (.int u5_), (.int u6_), (.int u7_)] (.int (0 : Int32))) (Vp : Arv Z h0 pf_ kp_ .byte (3 : Int32) [(.int a0_), (.int a1_), (.int a2_)] (.int (0 : Int32))) :
    Meets1 l (⟨"com/example/sindano/sindano/boyermoore/ReadingExactPinLaw", "hit", "([B[BIII)Z"⟩ : MethodName) method_3_code 5 (some .boolean) ws ({ frames := 0, cells := 0, slots := 0, locals := 0 } : Room) #[(.ref bf_), (.ref pf_), (.int (2 : Int32)), (.int f_), (.int m_)] Z h0 (fun v h L => ∃ r : Int32, v = some (.int r) ∧ Fr n0 L ∧ h = h0 ∧ ((r = 1 ∧ own_hc a0_ a1_ a2_ u0_ u1_ u2_ f_ m_ 2) ∨ (r = 0 ∧ ¬ own_hc a0_ a1_ a2_ u0_ u1_ u2_ f_ m_ 2))) := by
  refine MetFree.of_bodySF (plainFor_of_name pn3) hisR ?_
  intro p e s m args below meth c s₁ Bd hml0 hP hK
  obtain ⟨rfl, hZ, hh⟩ := hP
  have hx := Bd.exec
  have hby := Bd.bytes
  have hml : c.maxLocals = 5 := hml0
  have hown : s.vm.findClass "com/example/sindano/sindano/boyermoore/ReadingExactPinLaw" = some m.cls := findClass_of_methodNamed Bd.named
  have hnm := (name_of_methodNamed Bd.named Bd.method).1
  have X0 : Stand p l e ({ frames := 0, cells := 0, slots := 0, locals := 0 } : Room) s m #[(.ref bf_), (.ref pf_), (.int (2 : Int32)), (.int f_), (.int m_)] below meth c s₁ [] 0 0 := Stand.of_body Bd
  have e0 : s₁.heap = h0 := by rw [← hh, Bd.state]; rfl
  have N0 := Fr.nil n0
  have Z0 := own_old_le O0
  show Ends p e below s s₁ (entryFrame m #[(.ref bf_), (.ref pf_), (.int (2 : Int32)), (.int f_), (.int m_)] 5) ({ frames := 0, cells := 0, slots := 0, locals := 0 } : Room).cells ({ frames := 0, cells := 0, slots := 0, locals := 0 } : Room).slots (fun v h L => ∃ r : Int32, v = some (.int r) ∧ Fr n0 L ∧ h = h0 ∧ ((r = 1 ∧ own_hc a0_ a1_ a2_ u0_ u1_ u2_ f_ m_ 2) ∨ (r = 0 ∧ ¬ own_hc a0_ a1_ a2_ u0_ u1_ u2_ f_ m_ 2)))
  refine Ends.go (fun _ k => castTop (ef3_rriii m bf_ pf_ (2 : Int32) f_ m_) k) ?_
  have K0 := Keep.refl h0 []
  refine Ends.go (fun _ k => XS.iloadN X0.here hx rfl (hb hby d3_0) rfl k) ?_
  refine Ends.go (fun _ k => XS.iloadN X0.here hx rfl (hb hby d3_1) rfl k) ?_
  by_cases hc2_1 : (2 : Int32) < f_
  · refine Ends.go (fun _ k => XS.icmpYes X0.here hx rfl (pc0 := 2) (pc' := 46) rfl (hb hby d3_2) rfl (tlt hc2_1).1 (by decide) (by decide) k) ?_
    show Ends p e below s s₁ (mkF m 46 #[.val (.ref bf_), .val (.ref pf_), .val (.int (2 : Int32)), .val (.int f_), .val (.int m_)] []) _ _ _
    refine Ends.go (fun _ k => XS.iconst X0.here hx rfl (hb hby d3_46) k) ?_
    refine Ends.retZ X0 hx Bd.notSynchronized (t := .boolean) Bd.returns (by simp) (hb hby d3_47) (by decide) (by decide) ?_
    exact ⟨0, rfl, N0, e0, Or.inr ⟨rfl, fun z => z.1 hc2_1⟩⟩
  · refine Ends.go (fun _ k => XS.icmpNo X0.here hx rfl (hb hby d3_2) rfl (flt hc2_1).1 k) ?_
    refine Ends.go (fun _ k => XS.iloadN X0.here hx rfl (hb hby d3_5) rfl k) ?_
    refine Ends.go (fun _ k => XS.iload X0.here hx rfl (hb hby d3_6) rfl k) ?_
    show Ends p e below s s₁ (mkF m 8 #[.val (.ref bf_), .val (.ref pf_), .val (.int (2 : Int32)), .val (.int f_), .val (.int m_)] [(.int m_), (.int (2 : Int32))]) _ _ _
    by_cases hc8_2 : (2 : Int32) < m_
    · refine Ends.go (fun _ k => XS.icmpNo X0.here hx rfl (hb hby d3_8) rfl (tlt hc8_2).2.1 k) ?_
      refine Ends.go (fun _ k => XS.aloadN X0.here hx rfl (hb hby d3_11) rfl rfl k) ?_
      refine Ends.go (fun _ k => XS.iloadN X0.here hx rfl (hb hby d3_12) rfl k) ?_
      refine Ends.go (fun _ k => XS.iconst X0.here hx rfl (hb hby d3_13) k) ?_
      show Ends p e below s s₁ (mkF m 14 #[.val (.ref bf_), .val (.ref pf_), .val (.int (2 : Int32)), .val (.int f_), .val (.int m_)] [(.int (2 : Int32)), (.int (2 : Int32)), (.ref bf_)]) _ _ _
      refine Ends.go (fun _ k => XS.isub X0.here hx rfl (hb hby d3_14) rfl k) ?_
      obtain ⟨cl3, Ar3, q3, S3, M3, H3, G3⟩ := id Vb
      have hin3 := inb_of (j := (0 : Int32)) S3 ⟨by decide, by decide⟩
      refine Ends.go (X0.baloadBytes hx (j := (0 : Int32)) (v := (.int u0_)) (by rw [e0]; exact Ar3.1) (State.isArrayOf_alike hZ.alike Ar3.2.1) Ar3.2.2 hin3 (H3.at hin3 rfl) (g := (mkF m 15 #[.val (.ref bf_), .val (.ref pf_), .val (.int (2 : Int32)), .val (.int f_), .val (.int m_)] [(.int (0 : Int32)), (.ref bf_)])) rfl rfl (hb hby d3_15)) ?_
      refine Ends.go (fun _ k => XS.aloadN X0.here hx rfl (hb hby d3_16) rfl rfl k) ?_
      refine Ends.go (fun _ k => XS.iconst X0.here hx rfl (hb hby d3_17) k) ?_
      show Ends p e below s s₁ (mkF m 18 #[.val (.ref bf_), .val (.ref pf_), .val (.int (2 : Int32)), .val (.int f_), .val (.int m_)] [(.int (0 : Int32)), (.ref pf_), (.int u0_)]) _ _ _
      obtain ⟨cl4, Ar4, q4, S4, M4, H4, G4⟩ := id Vp
      have hin4 := inb_of (j := (0 : Int32)) S4 ⟨by decide, by decide⟩
      refine Ends.go (X0.baloadBytes hx (j := (0 : Int32)) (v := (.int a0_)) (by rw [e0]; exact Ar4.1) (State.isArrayOf_alike hZ.alike Ar4.2.1) Ar4.2.2 hin4 (H4.at hin4 rfl) (g := (mkF m 18 #[.val (.ref bf_), .val (.ref pf_), .val (.int (2 : Int32)), .val (.int f_), .val (.int m_)] [(.int (0 : Int32)), (.ref pf_), (.int u0_)])) rfl rfl (hb hby d3_18)) ?_
      by_cases hc19_5 : u0_ = a0_
      · refine Ends.go (fun _ k => XS.icmpNo X0.here hx rfl (hb hby d3_19) rfl (teq hc19_5).2 k) ?_
        refine Ends.go (fun _ k => XS.aloadN X0.here hx rfl (hb hby d3_22) rfl rfl k) ?_
        refine Ends.go (fun _ k => XS.iloadN X0.here hx rfl (hb hby d3_23) rfl k) ?_
        show Ends p e below s s₁ (mkF m 24 #[.val (.ref bf_), .val (.ref pf_), .val (.int (2 : Int32)), .val (.int f_), .val (.int m_)] [(.int (2 : Int32)), (.ref bf_)]) _ _ _
        refine Ends.go (fun _ k => XS.iconst X0.here hx rfl (hb hby d3_24) k) ?_
        refine Ends.go (fun _ k => XS.isub X0.here hx rfl (hb hby d3_25) rfl k) ?_
        obtain ⟨cl6, Ar6, q6, S6, M6, H6, G6⟩ := id Vb
        have hin6 := inb_of (j := (1 : Int32)) S6 ⟨by decide, by decide⟩
        refine Ends.go (X0.baloadBytes hx (j := (1 : Int32)) (v := (.int u1_)) (by rw [e0]; exact Ar6.1) (State.isArrayOf_alike hZ.alike Ar6.2.1) Ar6.2.2 hin6 (H6.at hin6 rfl) (g := (mkF m 26 #[.val (.ref bf_), .val (.ref pf_), .val (.int (2 : Int32)), .val (.int f_), .val (.int m_)] [(.int (1 : Int32)), (.ref bf_)])) rfl rfl (hb hby d3_26)) ?_
        refine Ends.go (fun _ k => XS.aloadN X0.here hx rfl (hb hby d3_27) rfl rfl k) ?_
        show Ends p e below s s₁ (mkF m 28 #[.val (.ref bf_), .val (.ref pf_), .val (.int (2 : Int32)), .val (.int f_), .val (.int m_)] [(.ref pf_), (.int u1_)]) _ _ _
        refine Ends.go (fun _ k => XS.iconst X0.here hx rfl (hb hby d3_28) k) ?_
        obtain ⟨cl7, Ar7, q7, S7, M7, H7, G7⟩ := id Vp
        have hin7 := inb_of (j := (1 : Int32)) S7 ⟨by decide, by decide⟩
        refine Ends.go (X0.baloadBytes hx (j := (1 : Int32)) (v := (.int a1_)) (by rw [e0]; exact Ar7.1) (State.isArrayOf_alike hZ.alike Ar7.2.1) Ar7.2.2 hin7 (H7.at hin7 rfl) (g := (mkF m 29 #[.val (.ref bf_), .val (.ref pf_), .val (.int (2 : Int32)), .val (.int f_), .val (.int m_)] [(.int (1 : Int32)), (.ref pf_), (.int u1_)])) rfl rfl (hb hby d3_29)) ?_
        by_cases hc30_8 : u1_ = a1_
        · refine Ends.go (fun _ k => XS.icmpNo X0.here hx rfl (hb hby d3_30) rfl (teq hc30_8).2 k) ?_
          refine Ends.go (fun _ k => XS.aloadN X0.here hx rfl (hb hby d3_33) rfl rfl k) ?_
          show Ends p e below s s₁ (mkF m 34 #[.val (.ref bf_), .val (.ref pf_), .val (.int (2 : Int32)), .val (.int f_), .val (.int m_)] [(.ref bf_)]) _ _ _
          refine Ends.go (fun _ k => XS.iloadN X0.here hx rfl (hb hby d3_34) rfl k) ?_
          obtain ⟨cl9, Ar9, q9, S9, M9, H9, G9⟩ := id Vb
          have hin9 := inb_of (j := (2 : Int32)) S9 ⟨by decide, by decide⟩
          refine Ends.go (X0.baloadBytes hx (j := (2 : Int32)) (v := (.int u2_)) (by rw [e0]; exact Ar9.1) (State.isArrayOf_alike hZ.alike Ar9.2.1) Ar9.2.2 hin9 (H9.at hin9 rfl) (g := (mkF m 35 #[.val (.ref bf_), .val (.ref pf_), .val (.int (2 : Int32)), .val (.int f_), .val (.int m_)] [(.int (2 : Int32)), (.ref bf_)])) rfl rfl (hb hby d3_35)) ?_
          refine Ends.go (fun _ k => XS.aloadN X0.here hx rfl (hb hby d3_36) rfl rfl k) ?_
          refine Ends.go (fun _ k => XS.iconst X0.here hx rfl (hb hby d3_37) k) ?_
          show Ends p e below s s₁ (mkF m 38 #[.val (.ref bf_), .val (.ref pf_), .val (.int (2 : Int32)), .val (.int f_), .val (.int m_)] [(.int (2 : Int32)), (.ref pf_), (.int u2_)]) _ _ _
          obtain ⟨cl10, Ar10, q10, S10, M10, H10, G10⟩ := id Vp
          have hin10 := inb_of (j := (2 : Int32)) S10 ⟨by decide, by decide⟩
          refine Ends.go (X0.baloadBytes hx (j := (2 : Int32)) (v := (.int a2_)) (by rw [e0]; exact Ar10.1) (State.isArrayOf_alike hZ.alike Ar10.2.1) Ar10.2.2 hin10 (H10.at hin10 rfl) (g := (mkF m 38 #[.val (.ref bf_), .val (.ref pf_), .val (.int (2 : Int32)), .val (.int f_), .val (.int m_)] [(.int (2 : Int32)), (.ref pf_), (.int u2_)])) rfl rfl (hb hby d3_38)) ?_
          by_cases hc39_11 : u2_ = a2_
          · refine Ends.go (fun _ k => XS.icmpNo X0.here hx rfl (hb hby d3_39) rfl (teq hc39_11).2 k) ?_
            refine Ends.go (fun _ k => XS.iconst X0.here hx rfl (hb hby d3_42) k) ?_
            refine Ends.go (fun _ k => XS.goto X0.here hx rfl (pc0 := 43) (pc' := 47) rfl (hb hby d3_43) (by decide) (by decide) k) ?_
            show Ends p e below s s₁ (mkF m 47 #[.val (.ref bf_), .val (.ref pf_), .val (.int (2 : Int32)), .val (.int f_), .val (.int m_)] [(.int (1 : Int32))]) _ _ _
            refine Ends.retZ X0 hx Bd.notSynchronized (t := .boolean) Bd.returns (by simp) (hb hby d3_47) (by decide) (by decide) ?_
            exact ⟨1, rfl, N0, e0, Or.inl ⟨rfl, hc2_1, hc8_2, hc19_5, hc30_8, hc39_11⟩⟩
          · refine Ends.go (fun _ k => XS.icmpYes X0.here hx rfl (pc0 := 39) (pc' := 46) rfl (hb hby d3_39) rfl (feq hc39_11).2 (by decide) (by decide) k) ?_
            refine Ends.go (fun _ k => XS.iconst X0.here hx rfl (hb hby d3_46) k) ?_
            refine Ends.retZ X0 hx Bd.notSynchronized (t := .boolean) Bd.returns (by simp) (hb hby d3_47) (by decide) (by decide) ?_
            exact ⟨0, rfl, N0, e0, Or.inr ⟨rfl, fun z => hc39_11 z.2.2.2.2⟩⟩
        · refine Ends.go (fun _ k => XS.icmpYes X0.here hx rfl (pc0 := 30) (pc' := 46) rfl (hb hby d3_30) rfl (feq hc30_8).2 (by decide) (by decide) k) ?_
          refine Ends.go (fun _ k => XS.iconst X0.here hx rfl (hb hby d3_46) k) ?_
          show Ends p e below s s₁ (mkF m 47 #[.val (.ref bf_), .val (.ref pf_), .val (.int (2 : Int32)), .val (.int f_), .val (.int m_)] [(.int (0 : Int32))]) _ _ _
          refine Ends.retZ X0 hx Bd.notSynchronized (t := .boolean) Bd.returns (by simp) (hb hby d3_47) (by decide) (by decide) ?_
          exact ⟨0, rfl, N0, e0, Or.inr ⟨rfl, fun z => hc30_8 z.2.2.2.1⟩⟩
      · refine Ends.go (fun _ k => XS.icmpYes X0.here hx rfl (pc0 := 19) (pc' := 46) rfl (hb hby d3_19) rfl (feq hc19_5).2 (by decide) (by decide) k) ?_
        refine Ends.go (fun _ k => XS.iconst X0.here hx rfl (hb hby d3_46) k) ?_
        refine Ends.retZ X0 hx Bd.notSynchronized (t := .boolean) Bd.returns (by simp) (hb hby d3_47) (by decide) (by decide) ?_
        exact ⟨0, rfl, N0, e0, Or.inr ⟨rfl, fun z => hc19_5 z.2.2.1⟩⟩
    · refine Ends.go (fun _ k => XS.icmpYes X0.here hx rfl (pc0 := 8) (pc' := 46) rfl (hb hby d3_8) rfl (flt hc8_2).2.1 (by decide) (by decide) k) ?_
      refine Ends.go (fun _ k => XS.iconst X0.here hx rfl (hb hby d3_46) k) ?_
      show Ends p e below s s₁ (mkF m 47 #[.val (.ref bf_), .val (.ref pf_), .val (.int (2 : Int32)), .val (.int f_), .val (.int m_)] [(.int (0 : Int32))]) _ _ _
      refine Ends.retZ X0 hx Bd.notSynchronized (t := .boolean) Bd.returns (by simp) (hb hby d3_47) (by decide) (by decide) ?_
      exact ⟨0, rfl, N0, e0, Or.inr ⟨rfl, fun z => hc8_2 z.2.1⟩⟩
set_option maxRecDepth 65536 in
set_option maxHeartbeats 40000000 in
theorem rmH_3 (l : Launch) (Z : State) (a0 : Array Value) (hw : ∀ d ∈ tables_1, d.before a0 Z = true) (ws : List Jvm.Cond) (n0 : Nat) (h0 : Heap) (O0 : Old Z n0 h0)  (bf_ pf_ : Addr) (kb_ kp_ : ClassId) (f_ m_ : Int32) (a0_ a1_ a2_ u0_ u1_ u2_ u3_ u4_ u5_ u6_ u7_ : Int32) (Vb : Arv Z h0 bf_ kb_ .byte (8 : Int32) [(.int u0_), (.int u1_), (.int u2_), (.int u3_), (.int u4_), (.int u5_), (.int u6_), (.int u7_)] (.int (0 : Int32))) (Vp : Arv Z h0 pf_ kp_ .byte (3 : Int32) [(.int a0_), (.int a1_), (.int a2_)] (.int (0 : Int32))) :
    Meets1 l (⟨"com/example/sindano/sindano/boyermoore/ReadingExactPinLaw", "hit", "([B[BIII)Z"⟩ : MethodName) method_3_code 5 (some .boolean) ws ({ frames := 0, cells := 0, slots := 0, locals := 0 } : Room) #[(.ref bf_), (.ref pf_), (.int (3 : Int32)), (.int f_), (.int m_)] Z h0 (fun v h L => ∃ r : Int32, v = some (.int r) ∧ Fr n0 L ∧ h = h0 ∧ ((r = 1 ∧ own_hc a0_ a1_ a2_ u1_ u2_ u3_ f_ m_ 3) ∨ (r = 0 ∧ ¬ own_hc a0_ a1_ a2_ u1_ u2_ u3_ f_ m_ 3))) := by
  refine MetFree.of_bodySF (plainFor_of_name pn3) hisR ?_
  intro p e s m args below meth c s₁ Bd hml0 hP hK
  obtain ⟨rfl, hZ, hh⟩ := hP
  have hx := Bd.exec
  have hby := Bd.bytes
  have hml : c.maxLocals = 5 := hml0
  have hown : s.vm.findClass "com/example/sindano/sindano/boyermoore/ReadingExactPinLaw" = some m.cls := findClass_of_methodNamed Bd.named
  have hnm := (name_of_methodNamed Bd.named Bd.method).1
  have X0 : Stand p l e ({ frames := 0, cells := 0, slots := 0, locals := 0 } : Room) s m #[(.ref bf_), (.ref pf_), (.int (3 : Int32)), (.int f_), (.int m_)] below meth c s₁ [] 0 0 := Stand.of_body Bd
  have e0 : s₁.heap = h0 := by rw [← hh, Bd.state]; rfl
  have N0 := Fr.nil n0
  have Z0 := own_old_le O0
  show Ends p e below s s₁ (entryFrame m #[(.ref bf_), (.ref pf_), (.int (3 : Int32)), (.int f_), (.int m_)] 5) ({ frames := 0, cells := 0, slots := 0, locals := 0 } : Room).cells ({ frames := 0, cells := 0, slots := 0, locals := 0 } : Room).slots (fun v h L => ∃ r : Int32, v = some (.int r) ∧ Fr n0 L ∧ h = h0 ∧ ((r = 1 ∧ own_hc a0_ a1_ a2_ u1_ u2_ u3_ f_ m_ 3) ∨ (r = 0 ∧ ¬ own_hc a0_ a1_ a2_ u1_ u2_ u3_ f_ m_ 3)))
  refine Ends.go (fun _ k => castTop (ef3_rriii m bf_ pf_ (3 : Int32) f_ m_) k) ?_
  have K0 := Keep.refl h0 []
  refine Ends.go (fun _ k => XS.iloadN X0.here hx rfl (hb hby d3_0) rfl k) ?_
  refine Ends.go (fun _ k => XS.iloadN X0.here hx rfl (hb hby d3_1) rfl k) ?_
  by_cases hc2_12 : (3 : Int32) < f_
  · refine Ends.go (fun _ k => XS.icmpYes X0.here hx rfl (pc0 := 2) (pc' := 46) rfl (hb hby d3_2) rfl (tlt hc2_12).1 (by decide) (by decide) k) ?_
    show Ends p e below s s₁ (mkF m 46 #[.val (.ref bf_), .val (.ref pf_), .val (.int (3 : Int32)), .val (.int f_), .val (.int m_)] []) _ _ _
    refine Ends.go (fun _ k => XS.iconst X0.here hx rfl (hb hby d3_46) k) ?_
    refine Ends.retZ X0 hx Bd.notSynchronized (t := .boolean) Bd.returns (by simp) (hb hby d3_47) (by decide) (by decide) ?_
    exact ⟨0, rfl, N0, e0, Or.inr ⟨rfl, fun z => z.1 hc2_12⟩⟩
  · refine Ends.go (fun _ k => XS.icmpNo X0.here hx rfl (hb hby d3_2) rfl (flt hc2_12).1 k) ?_
    refine Ends.go (fun _ k => XS.iloadN X0.here hx rfl (hb hby d3_5) rfl k) ?_
    refine Ends.go (fun _ k => XS.iload X0.here hx rfl (hb hby d3_6) rfl k) ?_
    show Ends p e below s s₁ (mkF m 8 #[.val (.ref bf_), .val (.ref pf_), .val (.int (3 : Int32)), .val (.int f_), .val (.int m_)] [(.int m_), (.int (3 : Int32))]) _ _ _
    by_cases hc8_13 : (3 : Int32) < m_
    · refine Ends.go (fun _ k => XS.icmpNo X0.here hx rfl (hb hby d3_8) rfl (tlt hc8_13).2.1 k) ?_
      refine Ends.go (fun _ k => XS.aloadN X0.here hx rfl (hb hby d3_11) rfl rfl k) ?_
      refine Ends.go (fun _ k => XS.iloadN X0.here hx rfl (hb hby d3_12) rfl k) ?_
      refine Ends.go (fun _ k => XS.iconst X0.here hx rfl (hb hby d3_13) k) ?_
      show Ends p e below s s₁ (mkF m 14 #[.val (.ref bf_), .val (.ref pf_), .val (.int (3 : Int32)), .val (.int f_), .val (.int m_)] [(.int (2 : Int32)), (.int (3 : Int32)), (.ref bf_)]) _ _ _
      refine Ends.go (fun _ k => XS.isub X0.here hx rfl (hb hby d3_14) rfl k) ?_
      obtain ⟨cl14, Ar14, q14, S14, M14, H14, G14⟩ := id Vb
      have hin14 := inb_of (j := (1 : Int32)) S14 ⟨by decide, by decide⟩
      refine Ends.go (X0.baloadBytes hx (j := (1 : Int32)) (v := (.int u1_)) (by rw [e0]; exact Ar14.1) (State.isArrayOf_alike hZ.alike Ar14.2.1) Ar14.2.2 hin14 (H14.at hin14 rfl) (g := (mkF m 15 #[.val (.ref bf_), .val (.ref pf_), .val (.int (3 : Int32)), .val (.int f_), .val (.int m_)] [(.int (1 : Int32)), (.ref bf_)])) rfl rfl (hb hby d3_15)) ?_
      refine Ends.go (fun _ k => XS.aloadN X0.here hx rfl (hb hby d3_16) rfl rfl k) ?_
      refine Ends.go (fun _ k => XS.iconst X0.here hx rfl (hb hby d3_17) k) ?_
      show Ends p e below s s₁ (mkF m 18 #[.val (.ref bf_), .val (.ref pf_), .val (.int (3 : Int32)), .val (.int f_), .val (.int m_)] [(.int (0 : Int32)), (.ref pf_), (.int u1_)]) _ _ _
      obtain ⟨cl15, Ar15, q15, S15, M15, H15, G15⟩ := id Vp
      have hin15 := inb_of (j := (0 : Int32)) S15 ⟨by decide, by decide⟩
      refine Ends.go (X0.baloadBytes hx (j := (0 : Int32)) (v := (.int a0_)) (by rw [e0]; exact Ar15.1) (State.isArrayOf_alike hZ.alike Ar15.2.1) Ar15.2.2 hin15 (H15.at hin15 rfl) (g := (mkF m 18 #[.val (.ref bf_), .val (.ref pf_), .val (.int (3 : Int32)), .val (.int f_), .val (.int m_)] [(.int (0 : Int32)), (.ref pf_), (.int u1_)])) rfl rfl (hb hby d3_18)) ?_
      by_cases hc19_16 : u1_ = a0_
      · refine Ends.go (fun _ k => XS.icmpNo X0.here hx rfl (hb hby d3_19) rfl (teq hc19_16).2 k) ?_
        refine Ends.go (fun _ k => XS.aloadN X0.here hx rfl (hb hby d3_22) rfl rfl k) ?_
        refine Ends.go (fun _ k => XS.iloadN X0.here hx rfl (hb hby d3_23) rfl k) ?_
        show Ends p e below s s₁ (mkF m 24 #[.val (.ref bf_), .val (.ref pf_), .val (.int (3 : Int32)), .val (.int f_), .val (.int m_)] [(.int (3 : Int32)), (.ref bf_)]) _ _ _
        refine Ends.go (fun _ k => XS.iconst X0.here hx rfl (hb hby d3_24) k) ?_
        refine Ends.go (fun _ k => XS.isub X0.here hx rfl (hb hby d3_25) rfl k) ?_
        obtain ⟨cl17, Ar17, q17, S17, M17, H17, G17⟩ := id Vb
        have hin17 := inb_of (j := (2 : Int32)) S17 ⟨by decide, by decide⟩
        refine Ends.go (X0.baloadBytes hx (j := (2 : Int32)) (v := (.int u2_)) (by rw [e0]; exact Ar17.1) (State.isArrayOf_alike hZ.alike Ar17.2.1) Ar17.2.2 hin17 (H17.at hin17 rfl) (g := (mkF m 26 #[.val (.ref bf_), .val (.ref pf_), .val (.int (3 : Int32)), .val (.int f_), .val (.int m_)] [(.int (2 : Int32)), (.ref bf_)])) rfl rfl (hb hby d3_26)) ?_
        refine Ends.go (fun _ k => XS.aloadN X0.here hx rfl (hb hby d3_27) rfl rfl k) ?_
        show Ends p e below s s₁ (mkF m 28 #[.val (.ref bf_), .val (.ref pf_), .val (.int (3 : Int32)), .val (.int f_), .val (.int m_)] [(.ref pf_), (.int u2_)]) _ _ _
        refine Ends.go (fun _ k => XS.iconst X0.here hx rfl (hb hby d3_28) k) ?_
        obtain ⟨cl18, Ar18, q18, S18, M18, H18, G18⟩ := id Vp
        have hin18 := inb_of (j := (1 : Int32)) S18 ⟨by decide, by decide⟩
        refine Ends.go (X0.baloadBytes hx (j := (1 : Int32)) (v := (.int a1_)) (by rw [e0]; exact Ar18.1) (State.isArrayOf_alike hZ.alike Ar18.2.1) Ar18.2.2 hin18 (H18.at hin18 rfl) (g := (mkF m 29 #[.val (.ref bf_), .val (.ref pf_), .val (.int (3 : Int32)), .val (.int f_), .val (.int m_)] [(.int (1 : Int32)), (.ref pf_), (.int u2_)])) rfl rfl (hb hby d3_29)) ?_
        by_cases hc30_19 : u2_ = a1_
        · refine Ends.go (fun _ k => XS.icmpNo X0.here hx rfl (hb hby d3_30) rfl (teq hc30_19).2 k) ?_
          refine Ends.go (fun _ k => XS.aloadN X0.here hx rfl (hb hby d3_33) rfl rfl k) ?_
          show Ends p e below s s₁ (mkF m 34 #[.val (.ref bf_), .val (.ref pf_), .val (.int (3 : Int32)), .val (.int f_), .val (.int m_)] [(.ref bf_)]) _ _ _
          refine Ends.go (fun _ k => XS.iloadN X0.here hx rfl (hb hby d3_34) rfl k) ?_
          obtain ⟨cl20, Ar20, q20, S20, M20, H20, G20⟩ := id Vb
          have hin20 := inb_of (j := (3 : Int32)) S20 ⟨by decide, by decide⟩
          refine Ends.go (X0.baloadBytes hx (j := (3 : Int32)) (v := (.int u3_)) (by rw [e0]; exact Ar20.1) (State.isArrayOf_alike hZ.alike Ar20.2.1) Ar20.2.2 hin20 (H20.at hin20 rfl) (g := (mkF m 35 #[.val (.ref bf_), .val (.ref pf_), .val (.int (3 : Int32)), .val (.int f_), .val (.int m_)] [(.int (3 : Int32)), (.ref bf_)])) rfl rfl (hb hby d3_35)) ?_
          refine Ends.go (fun _ k => XS.aloadN X0.here hx rfl (hb hby d3_36) rfl rfl k) ?_
          refine Ends.go (fun _ k => XS.iconst X0.here hx rfl (hb hby d3_37) k) ?_
          show Ends p e below s s₁ (mkF m 38 #[.val (.ref bf_), .val (.ref pf_), .val (.int (3 : Int32)), .val (.int f_), .val (.int m_)] [(.int (2 : Int32)), (.ref pf_), (.int u3_)]) _ _ _
          obtain ⟨cl21, Ar21, q21, S21, M21, H21, G21⟩ := id Vp
          have hin21 := inb_of (j := (2 : Int32)) S21 ⟨by decide, by decide⟩
          refine Ends.go (X0.baloadBytes hx (j := (2 : Int32)) (v := (.int a2_)) (by rw [e0]; exact Ar21.1) (State.isArrayOf_alike hZ.alike Ar21.2.1) Ar21.2.2 hin21 (H21.at hin21 rfl) (g := (mkF m 38 #[.val (.ref bf_), .val (.ref pf_), .val (.int (3 : Int32)), .val (.int f_), .val (.int m_)] [(.int (2 : Int32)), (.ref pf_), (.int u3_)])) rfl rfl (hb hby d3_38)) ?_
          by_cases hc39_22 : u3_ = a2_
          · refine Ends.go (fun _ k => XS.icmpNo X0.here hx rfl (hb hby d3_39) rfl (teq hc39_22).2 k) ?_
            refine Ends.go (fun _ k => XS.iconst X0.here hx rfl (hb hby d3_42) k) ?_
            refine Ends.go (fun _ k => XS.goto X0.here hx rfl (pc0 := 43) (pc' := 47) rfl (hb hby d3_43) (by decide) (by decide) k) ?_
            show Ends p e below s s₁ (mkF m 47 #[.val (.ref bf_), .val (.ref pf_), .val (.int (3 : Int32)), .val (.int f_), .val (.int m_)] [(.int (1 : Int32))]) _ _ _
            refine Ends.retZ X0 hx Bd.notSynchronized (t := .boolean) Bd.returns (by simp) (hb hby d3_47) (by decide) (by decide) ?_
            exact ⟨1, rfl, N0, e0, Or.inl ⟨rfl, hc2_12, hc8_13, hc19_16, hc30_19, hc39_22⟩⟩
          · refine Ends.go (fun _ k => XS.icmpYes X0.here hx rfl (pc0 := 39) (pc' := 46) rfl (hb hby d3_39) rfl (feq hc39_22).2 (by decide) (by decide) k) ?_
            refine Ends.go (fun _ k => XS.iconst X0.here hx rfl (hb hby d3_46) k) ?_
            refine Ends.retZ X0 hx Bd.notSynchronized (t := .boolean) Bd.returns (by simp) (hb hby d3_47) (by decide) (by decide) ?_
            exact ⟨0, rfl, N0, e0, Or.inr ⟨rfl, fun z => hc39_22 z.2.2.2.2⟩⟩
        · refine Ends.go (fun _ k => XS.icmpYes X0.here hx rfl (pc0 := 30) (pc' := 46) rfl (hb hby d3_30) rfl (feq hc30_19).2 (by decide) (by decide) k) ?_
          refine Ends.go (fun _ k => XS.iconst X0.here hx rfl (hb hby d3_46) k) ?_
          show Ends p e below s s₁ (mkF m 47 #[.val (.ref bf_), .val (.ref pf_), .val (.int (3 : Int32)), .val (.int f_), .val (.int m_)] [(.int (0 : Int32))]) _ _ _
          refine Ends.retZ X0 hx Bd.notSynchronized (t := .boolean) Bd.returns (by simp) (hb hby d3_47) (by decide) (by decide) ?_
          exact ⟨0, rfl, N0, e0, Or.inr ⟨rfl, fun z => hc30_19 z.2.2.2.1⟩⟩
      · refine Ends.go (fun _ k => XS.icmpYes X0.here hx rfl (pc0 := 19) (pc' := 46) rfl (hb hby d3_19) rfl (feq hc19_16).2 (by decide) (by decide) k) ?_
        refine Ends.go (fun _ k => XS.iconst X0.here hx rfl (hb hby d3_46) k) ?_
        refine Ends.retZ X0 hx Bd.notSynchronized (t := .boolean) Bd.returns (by simp) (hb hby d3_47) (by decide) (by decide) ?_
        exact ⟨0, rfl, N0, e0, Or.inr ⟨rfl, fun z => hc19_16 z.2.2.1⟩⟩
    · refine Ends.go (fun _ k => XS.icmpYes X0.here hx rfl (pc0 := 8) (pc' := 46) rfl (hb hby d3_8) rfl (flt hc8_13).2.1 (by decide) (by decide) k) ?_
      refine Ends.go (fun _ k => XS.iconst X0.here hx rfl (hb hby d3_46) k) ?_
      show Ends p e below s s₁ (mkF m 47 #[.val (.ref bf_), .val (.ref pf_), .val (.int (3 : Int32)), .val (.int f_), .val (.int m_)] [(.int (0 : Int32))]) _ _ _
      refine Ends.retZ X0 hx Bd.notSynchronized (t := .boolean) Bd.returns (by simp) (hb hby d3_47) (by decide) (by decide) ?_
      exact ⟨0, rfl, N0, e0, Or.inr ⟨rfl, fun z => hc8_13 z.2.1⟩⟩
set_option maxRecDepth 65536 in
set_option maxHeartbeats 40000000 in
theorem rmH_4 (l : Launch) (Z : State) (a0 : Array Value) (hw : ∀ d ∈ tables_1, d.before a0 Z = true) (ws : List Jvm.Cond) (n0 : Nat) (h0 : Heap) (O0 : Old Z n0 h0)  (bf_ pf_ : Addr) (kb_ kp_ : ClassId) (f_ m_ : Int32) (a0_ a1_ a2_ u0_ u1_ u2_ u3_ u4_ u5_ u6_ u7_ : Int32) (Vb : Arv Z h0 bf_ kb_ .byte (8 : Int32) [(.int u0_), (.int u1_), (.int u2_), (.int u3_), (.int u4_), (.int u5_), (.int u6_), (.int u7_)] (.int (0 : Int32))) (Vp : Arv Z h0 pf_ kp_ .byte (3 : Int32) [(.int a0_), (.int a1_), (.int a2_)] (.int (0 : Int32))) :
    Meets1 l (⟨"com/example/sindano/sindano/boyermoore/ReadingExactPinLaw", "hit", "([B[BIII)Z"⟩ : MethodName) method_3_code 5 (some .boolean) ws ({ frames := 0, cells := 0, slots := 0, locals := 0 } : Room) #[(.ref bf_), (.ref pf_), (.int (4 : Int32)), (.int f_), (.int m_)] Z h0 (fun v h L => ∃ r : Int32, v = some (.int r) ∧ Fr n0 L ∧ h = h0 ∧ ((r = 1 ∧ own_hc a0_ a1_ a2_ u2_ u3_ u4_ f_ m_ 4) ∨ (r = 0 ∧ ¬ own_hc a0_ a1_ a2_ u2_ u3_ u4_ f_ m_ 4))) := by
  refine MetFree.of_bodySF (plainFor_of_name pn3) hisR ?_
  intro p e s m args below meth c s₁ Bd hml0 hP hK
  obtain ⟨rfl, hZ, hh⟩ := hP
  have hx := Bd.exec
  have hby := Bd.bytes
  have hml : c.maxLocals = 5 := hml0
  have hown : s.vm.findClass "com/example/sindano/sindano/boyermoore/ReadingExactPinLaw" = some m.cls := findClass_of_methodNamed Bd.named
  have hnm := (name_of_methodNamed Bd.named Bd.method).1
  have X0 : Stand p l e ({ frames := 0, cells := 0, slots := 0, locals := 0 } : Room) s m #[(.ref bf_), (.ref pf_), (.int (4 : Int32)), (.int f_), (.int m_)] below meth c s₁ [] 0 0 := Stand.of_body Bd
  have e0 : s₁.heap = h0 := by rw [← hh, Bd.state]; rfl
  have N0 := Fr.nil n0
  have Z0 := own_old_le O0
  show Ends p e below s s₁ (entryFrame m #[(.ref bf_), (.ref pf_), (.int (4 : Int32)), (.int f_), (.int m_)] 5) ({ frames := 0, cells := 0, slots := 0, locals := 0 } : Room).cells ({ frames := 0, cells := 0, slots := 0, locals := 0 } : Room).slots (fun v h L => ∃ r : Int32, v = some (.int r) ∧ Fr n0 L ∧ h = h0 ∧ ((r = 1 ∧ own_hc a0_ a1_ a2_ u2_ u3_ u4_ f_ m_ 4) ∨ (r = 0 ∧ ¬ own_hc a0_ a1_ a2_ u2_ u3_ u4_ f_ m_ 4)))
  refine Ends.go (fun _ k => castTop (ef3_rriii m bf_ pf_ (4 : Int32) f_ m_) k) ?_
  have K0 := Keep.refl h0 []
  refine Ends.go (fun _ k => XS.iloadN X0.here hx rfl (hb hby d3_0) rfl k) ?_
  refine Ends.go (fun _ k => XS.iloadN X0.here hx rfl (hb hby d3_1) rfl k) ?_
  by_cases hc2_23 : (4 : Int32) < f_
  · refine Ends.go (fun _ k => XS.icmpYes X0.here hx rfl (pc0 := 2) (pc' := 46) rfl (hb hby d3_2) rfl (tlt hc2_23).1 (by decide) (by decide) k) ?_
    show Ends p e below s s₁ (mkF m 46 #[.val (.ref bf_), .val (.ref pf_), .val (.int (4 : Int32)), .val (.int f_), .val (.int m_)] []) _ _ _
    refine Ends.go (fun _ k => XS.iconst X0.here hx rfl (hb hby d3_46) k) ?_
    refine Ends.retZ X0 hx Bd.notSynchronized (t := .boolean) Bd.returns (by simp) (hb hby d3_47) (by decide) (by decide) ?_
    exact ⟨0, rfl, N0, e0, Or.inr ⟨rfl, fun z => z.1 hc2_23⟩⟩
  · refine Ends.go (fun _ k => XS.icmpNo X0.here hx rfl (hb hby d3_2) rfl (flt hc2_23).1 k) ?_
    refine Ends.go (fun _ k => XS.iloadN X0.here hx rfl (hb hby d3_5) rfl k) ?_
    refine Ends.go (fun _ k => XS.iload X0.here hx rfl (hb hby d3_6) rfl k) ?_
    show Ends p e below s s₁ (mkF m 8 #[.val (.ref bf_), .val (.ref pf_), .val (.int (4 : Int32)), .val (.int f_), .val (.int m_)] [(.int m_), (.int (4 : Int32))]) _ _ _
    by_cases hc8_24 : (4 : Int32) < m_
    · refine Ends.go (fun _ k => XS.icmpNo X0.here hx rfl (hb hby d3_8) rfl (tlt hc8_24).2.1 k) ?_
      refine Ends.go (fun _ k => XS.aloadN X0.here hx rfl (hb hby d3_11) rfl rfl k) ?_
      refine Ends.go (fun _ k => XS.iloadN X0.here hx rfl (hb hby d3_12) rfl k) ?_
      refine Ends.go (fun _ k => XS.iconst X0.here hx rfl (hb hby d3_13) k) ?_
      show Ends p e below s s₁ (mkF m 14 #[.val (.ref bf_), .val (.ref pf_), .val (.int (4 : Int32)), .val (.int f_), .val (.int m_)] [(.int (2 : Int32)), (.int (4 : Int32)), (.ref bf_)]) _ _ _
      refine Ends.go (fun _ k => XS.isub X0.here hx rfl (hb hby d3_14) rfl k) ?_
      obtain ⟨cl25, Ar25, q25, S25, M25, H25, G25⟩ := id Vb
      have hin25 := inb_of (j := (2 : Int32)) S25 ⟨by decide, by decide⟩
      refine Ends.go (X0.baloadBytes hx (j := (2 : Int32)) (v := (.int u2_)) (by rw [e0]; exact Ar25.1) (State.isArrayOf_alike hZ.alike Ar25.2.1) Ar25.2.2 hin25 (H25.at hin25 rfl) (g := (mkF m 15 #[.val (.ref bf_), .val (.ref pf_), .val (.int (4 : Int32)), .val (.int f_), .val (.int m_)] [(.int (2 : Int32)), (.ref bf_)])) rfl rfl (hb hby d3_15)) ?_
      refine Ends.go (fun _ k => XS.aloadN X0.here hx rfl (hb hby d3_16) rfl rfl k) ?_
      refine Ends.go (fun _ k => XS.iconst X0.here hx rfl (hb hby d3_17) k) ?_
      show Ends p e below s s₁ (mkF m 18 #[.val (.ref bf_), .val (.ref pf_), .val (.int (4 : Int32)), .val (.int f_), .val (.int m_)] [(.int (0 : Int32)), (.ref pf_), (.int u2_)]) _ _ _
      obtain ⟨cl26, Ar26, q26, S26, M26, H26, G26⟩ := id Vp
      have hin26 := inb_of (j := (0 : Int32)) S26 ⟨by decide, by decide⟩
      refine Ends.go (X0.baloadBytes hx (j := (0 : Int32)) (v := (.int a0_)) (by rw [e0]; exact Ar26.1) (State.isArrayOf_alike hZ.alike Ar26.2.1) Ar26.2.2 hin26 (H26.at hin26 rfl) (g := (mkF m 18 #[.val (.ref bf_), .val (.ref pf_), .val (.int (4 : Int32)), .val (.int f_), .val (.int m_)] [(.int (0 : Int32)), (.ref pf_), (.int u2_)])) rfl rfl (hb hby d3_18)) ?_
      by_cases hc19_27 : u2_ = a0_
      · refine Ends.go (fun _ k => XS.icmpNo X0.here hx rfl (hb hby d3_19) rfl (teq hc19_27).2 k) ?_
        refine Ends.go (fun _ k => XS.aloadN X0.here hx rfl (hb hby d3_22) rfl rfl k) ?_
        refine Ends.go (fun _ k => XS.iloadN X0.here hx rfl (hb hby d3_23) rfl k) ?_
        show Ends p e below s s₁ (mkF m 24 #[.val (.ref bf_), .val (.ref pf_), .val (.int (4 : Int32)), .val (.int f_), .val (.int m_)] [(.int (4 : Int32)), (.ref bf_)]) _ _ _
        refine Ends.go (fun _ k => XS.iconst X0.here hx rfl (hb hby d3_24) k) ?_
        refine Ends.go (fun _ k => XS.isub X0.here hx rfl (hb hby d3_25) rfl k) ?_
        obtain ⟨cl28, Ar28, q28, S28, M28, H28, G28⟩ := id Vb
        have hin28 := inb_of (j := (3 : Int32)) S28 ⟨by decide, by decide⟩
        refine Ends.go (X0.baloadBytes hx (j := (3 : Int32)) (v := (.int u3_)) (by rw [e0]; exact Ar28.1) (State.isArrayOf_alike hZ.alike Ar28.2.1) Ar28.2.2 hin28 (H28.at hin28 rfl) (g := (mkF m 26 #[.val (.ref bf_), .val (.ref pf_), .val (.int (4 : Int32)), .val (.int f_), .val (.int m_)] [(.int (3 : Int32)), (.ref bf_)])) rfl rfl (hb hby d3_26)) ?_
        refine Ends.go (fun _ k => XS.aloadN X0.here hx rfl (hb hby d3_27) rfl rfl k) ?_
        show Ends p e below s s₁ (mkF m 28 #[.val (.ref bf_), .val (.ref pf_), .val (.int (4 : Int32)), .val (.int f_), .val (.int m_)] [(.ref pf_), (.int u3_)]) _ _ _
        refine Ends.go (fun _ k => XS.iconst X0.here hx rfl (hb hby d3_28) k) ?_
        obtain ⟨cl29, Ar29, q29, S29, M29, H29, G29⟩ := id Vp
        have hin29 := inb_of (j := (1 : Int32)) S29 ⟨by decide, by decide⟩
        refine Ends.go (X0.baloadBytes hx (j := (1 : Int32)) (v := (.int a1_)) (by rw [e0]; exact Ar29.1) (State.isArrayOf_alike hZ.alike Ar29.2.1) Ar29.2.2 hin29 (H29.at hin29 rfl) (g := (mkF m 29 #[.val (.ref bf_), .val (.ref pf_), .val (.int (4 : Int32)), .val (.int f_), .val (.int m_)] [(.int (1 : Int32)), (.ref pf_), (.int u3_)])) rfl rfl (hb hby d3_29)) ?_
        by_cases hc30_30 : u3_ = a1_
        · refine Ends.go (fun _ k => XS.icmpNo X0.here hx rfl (hb hby d3_30) rfl (teq hc30_30).2 k) ?_
          refine Ends.go (fun _ k => XS.aloadN X0.here hx rfl (hb hby d3_33) rfl rfl k) ?_
          show Ends p e below s s₁ (mkF m 34 #[.val (.ref bf_), .val (.ref pf_), .val (.int (4 : Int32)), .val (.int f_), .val (.int m_)] [(.ref bf_)]) _ _ _
          refine Ends.go (fun _ k => XS.iloadN X0.here hx rfl (hb hby d3_34) rfl k) ?_
          obtain ⟨cl31, Ar31, q31, S31, M31, H31, G31⟩ := id Vb
          have hin31 := inb_of (j := (4 : Int32)) S31 ⟨by decide, by decide⟩
          refine Ends.go (X0.baloadBytes hx (j := (4 : Int32)) (v := (.int u4_)) (by rw [e0]; exact Ar31.1) (State.isArrayOf_alike hZ.alike Ar31.2.1) Ar31.2.2 hin31 (H31.at hin31 rfl) (g := (mkF m 35 #[.val (.ref bf_), .val (.ref pf_), .val (.int (4 : Int32)), .val (.int f_), .val (.int m_)] [(.int (4 : Int32)), (.ref bf_)])) rfl rfl (hb hby d3_35)) ?_
          refine Ends.go (fun _ k => XS.aloadN X0.here hx rfl (hb hby d3_36) rfl rfl k) ?_
          refine Ends.go (fun _ k => XS.iconst X0.here hx rfl (hb hby d3_37) k) ?_
          show Ends p e below s s₁ (mkF m 38 #[.val (.ref bf_), .val (.ref pf_), .val (.int (4 : Int32)), .val (.int f_), .val (.int m_)] [(.int (2 : Int32)), (.ref pf_), (.int u4_)]) _ _ _
          obtain ⟨cl32, Ar32, q32, S32, M32, H32, G32⟩ := id Vp
          have hin32 := inb_of (j := (2 : Int32)) S32 ⟨by decide, by decide⟩
          refine Ends.go (X0.baloadBytes hx (j := (2 : Int32)) (v := (.int a2_)) (by rw [e0]; exact Ar32.1) (State.isArrayOf_alike hZ.alike Ar32.2.1) Ar32.2.2 hin32 (H32.at hin32 rfl) (g := (mkF m 38 #[.val (.ref bf_), .val (.ref pf_), .val (.int (4 : Int32)), .val (.int f_), .val (.int m_)] [(.int (2 : Int32)), (.ref pf_), (.int u4_)])) rfl rfl (hb hby d3_38)) ?_
          by_cases hc39_33 : u4_ = a2_
          · refine Ends.go (fun _ k => XS.icmpNo X0.here hx rfl (hb hby d3_39) rfl (teq hc39_33).2 k) ?_
            refine Ends.go (fun _ k => XS.iconst X0.here hx rfl (hb hby d3_42) k) ?_
            refine Ends.go (fun _ k => XS.goto X0.here hx rfl (pc0 := 43) (pc' := 47) rfl (hb hby d3_43) (by decide) (by decide) k) ?_
            show Ends p e below s s₁ (mkF m 47 #[.val (.ref bf_), .val (.ref pf_), .val (.int (4 : Int32)), .val (.int f_), .val (.int m_)] [(.int (1 : Int32))]) _ _ _
            refine Ends.retZ X0 hx Bd.notSynchronized (t := .boolean) Bd.returns (by simp) (hb hby d3_47) (by decide) (by decide) ?_
            exact ⟨1, rfl, N0, e0, Or.inl ⟨rfl, hc2_23, hc8_24, hc19_27, hc30_30, hc39_33⟩⟩
          · refine Ends.go (fun _ k => XS.icmpYes X0.here hx rfl (pc0 := 39) (pc' := 46) rfl (hb hby d3_39) rfl (feq hc39_33).2 (by decide) (by decide) k) ?_
            refine Ends.go (fun _ k => XS.iconst X0.here hx rfl (hb hby d3_46) k) ?_
            refine Ends.retZ X0 hx Bd.notSynchronized (t := .boolean) Bd.returns (by simp) (hb hby d3_47) (by decide) (by decide) ?_
            exact ⟨0, rfl, N0, e0, Or.inr ⟨rfl, fun z => hc39_33 z.2.2.2.2⟩⟩
        · refine Ends.go (fun _ k => XS.icmpYes X0.here hx rfl (pc0 := 30) (pc' := 46) rfl (hb hby d3_30) rfl (feq hc30_30).2 (by decide) (by decide) k) ?_
          refine Ends.go (fun _ k => XS.iconst X0.here hx rfl (hb hby d3_46) k) ?_
          show Ends p e below s s₁ (mkF m 47 #[.val (.ref bf_), .val (.ref pf_), .val (.int (4 : Int32)), .val (.int f_), .val (.int m_)] [(.int (0 : Int32))]) _ _ _
          refine Ends.retZ X0 hx Bd.notSynchronized (t := .boolean) Bd.returns (by simp) (hb hby d3_47) (by decide) (by decide) ?_
          exact ⟨0, rfl, N0, e0, Or.inr ⟨rfl, fun z => hc30_30 z.2.2.2.1⟩⟩
      · refine Ends.go (fun _ k => XS.icmpYes X0.here hx rfl (pc0 := 19) (pc' := 46) rfl (hb hby d3_19) rfl (feq hc19_27).2 (by decide) (by decide) k) ?_
        refine Ends.go (fun _ k => XS.iconst X0.here hx rfl (hb hby d3_46) k) ?_
        refine Ends.retZ X0 hx Bd.notSynchronized (t := .boolean) Bd.returns (by simp) (hb hby d3_47) (by decide) (by decide) ?_
        exact ⟨0, rfl, N0, e0, Or.inr ⟨rfl, fun z => hc19_27 z.2.2.1⟩⟩
    · refine Ends.go (fun _ k => XS.icmpYes X0.here hx rfl (pc0 := 8) (pc' := 46) rfl (hb hby d3_8) rfl (flt hc8_24).2.1 (by decide) (by decide) k) ?_
      refine Ends.go (fun _ k => XS.iconst X0.here hx rfl (hb hby d3_46) k) ?_
      show Ends p e below s s₁ (mkF m 47 #[.val (.ref bf_), .val (.ref pf_), .val (.int (4 : Int32)), .val (.int f_), .val (.int m_)] [(.int (0 : Int32))]) _ _ _
      refine Ends.retZ X0 hx Bd.notSynchronized (t := .boolean) Bd.returns (by simp) (hb hby d3_47) (by decide) (by decide) ?_
      exact ⟨0, rfl, N0, e0, Or.inr ⟨rfl, fun z => hc8_24 z.2.1⟩⟩
set_option maxRecDepth 65536 in
set_option maxHeartbeats 40000000 in
theorem rmH_5 (l : Launch) (Z : State) (a0 : Array Value) (hw : ∀ d ∈ tables_1, d.before a0 Z = true) (ws : List Jvm.Cond) (n0 : Nat) (h0 : Heap) (O0 : Old Z n0 h0)  (bf_ pf_ : Addr) (kb_ kp_ : ClassId) (f_ m_ : Int32) (a0_ a1_ a2_ u0_ u1_ u2_ u3_ u4_ u5_ u6_ u7_ : Int32) (Vb : Arv Z h0 bf_ kb_ .byte (8 : Int32) [(.int u0_), (.int u1_), (.int u2_), (.int u3_), (.int u4_), (.int u5_), (.int u6_), (.int u7_)] (.int (0 : Int32))) (Vp : Arv Z h0 pf_ kp_ .byte (3 : Int32) [(.int a0_), (.int a1_), (.int a2_)] (.int (0 : Int32))) :
    Meets1 l (⟨"com/example/sindano/sindano/boyermoore/ReadingExactPinLaw", "hit", "([B[BIII)Z"⟩ : MethodName) method_3_code 5 (some .boolean) ws ({ frames := 0, cells := 0, slots := 0, locals := 0 } : Room) #[(.ref bf_), (.ref pf_), (.int (5 : Int32)), (.int f_), (.int m_)] Z h0 (fun v h L => ∃ r : Int32, v = some (.int r) ∧ Fr n0 L ∧ h = h0 ∧ ((r = 1 ∧ own_hc a0_ a1_ a2_ u3_ u4_ u5_ f_ m_ 5) ∨ (r = 0 ∧ ¬ own_hc a0_ a1_ a2_ u3_ u4_ u5_ f_ m_ 5))) := by
  refine MetFree.of_bodySF (plainFor_of_name pn3) hisR ?_
  intro p e s m args below meth c s₁ Bd hml0 hP hK
  obtain ⟨rfl, hZ, hh⟩ := hP
  have hx := Bd.exec
  have hby := Bd.bytes
  have hml : c.maxLocals = 5 := hml0
  have hown : s.vm.findClass "com/example/sindano/sindano/boyermoore/ReadingExactPinLaw" = some m.cls := findClass_of_methodNamed Bd.named
  have hnm := (name_of_methodNamed Bd.named Bd.method).1
  have X0 : Stand p l e ({ frames := 0, cells := 0, slots := 0, locals := 0 } : Room) s m #[(.ref bf_), (.ref pf_), (.int (5 : Int32)), (.int f_), (.int m_)] below meth c s₁ [] 0 0 := Stand.of_body Bd
  have e0 : s₁.heap = h0 := by rw [← hh, Bd.state]; rfl
  have N0 := Fr.nil n0
  have Z0 := own_old_le O0
  show Ends p e below s s₁ (entryFrame m #[(.ref bf_), (.ref pf_), (.int (5 : Int32)), (.int f_), (.int m_)] 5) ({ frames := 0, cells := 0, slots := 0, locals := 0 } : Room).cells ({ frames := 0, cells := 0, slots := 0, locals := 0 } : Room).slots (fun v h L => ∃ r : Int32, v = some (.int r) ∧ Fr n0 L ∧ h = h0 ∧ ((r = 1 ∧ own_hc a0_ a1_ a2_ u3_ u4_ u5_ f_ m_ 5) ∨ (r = 0 ∧ ¬ own_hc a0_ a1_ a2_ u3_ u4_ u5_ f_ m_ 5)))
  refine Ends.go (fun _ k => castTop (ef3_rriii m bf_ pf_ (5 : Int32) f_ m_) k) ?_
  have K0 := Keep.refl h0 []
  refine Ends.go (fun _ k => XS.iloadN X0.here hx rfl (hb hby d3_0) rfl k) ?_
  refine Ends.go (fun _ k => XS.iloadN X0.here hx rfl (hb hby d3_1) rfl k) ?_
  by_cases hc2_34 : (5 : Int32) < f_
  · refine Ends.go (fun _ k => XS.icmpYes X0.here hx rfl (pc0 := 2) (pc' := 46) rfl (hb hby d3_2) rfl (tlt hc2_34).1 (by decide) (by decide) k) ?_
    show Ends p e below s s₁ (mkF m 46 #[.val (.ref bf_), .val (.ref pf_), .val (.int (5 : Int32)), .val (.int f_), .val (.int m_)] []) _ _ _
    refine Ends.go (fun _ k => XS.iconst X0.here hx rfl (hb hby d3_46) k) ?_
    refine Ends.retZ X0 hx Bd.notSynchronized (t := .boolean) Bd.returns (by simp) (hb hby d3_47) (by decide) (by decide) ?_
    exact ⟨0, rfl, N0, e0, Or.inr ⟨rfl, fun z => z.1 hc2_34⟩⟩
  · refine Ends.go (fun _ k => XS.icmpNo X0.here hx rfl (hb hby d3_2) rfl (flt hc2_34).1 k) ?_
    refine Ends.go (fun _ k => XS.iloadN X0.here hx rfl (hb hby d3_5) rfl k) ?_
    refine Ends.go (fun _ k => XS.iload X0.here hx rfl (hb hby d3_6) rfl k) ?_
    show Ends p e below s s₁ (mkF m 8 #[.val (.ref bf_), .val (.ref pf_), .val (.int (5 : Int32)), .val (.int f_), .val (.int m_)] [(.int m_), (.int (5 : Int32))]) _ _ _
    by_cases hc8_35 : (5 : Int32) < m_
    · refine Ends.go (fun _ k => XS.icmpNo X0.here hx rfl (hb hby d3_8) rfl (tlt hc8_35).2.1 k) ?_
      refine Ends.go (fun _ k => XS.aloadN X0.here hx rfl (hb hby d3_11) rfl rfl k) ?_
      refine Ends.go (fun _ k => XS.iloadN X0.here hx rfl (hb hby d3_12) rfl k) ?_
      refine Ends.go (fun _ k => XS.iconst X0.here hx rfl (hb hby d3_13) k) ?_
      show Ends p e below s s₁ (mkF m 14 #[.val (.ref bf_), .val (.ref pf_), .val (.int (5 : Int32)), .val (.int f_), .val (.int m_)] [(.int (2 : Int32)), (.int (5 : Int32)), (.ref bf_)]) _ _ _
      refine Ends.go (fun _ k => XS.isub X0.here hx rfl (hb hby d3_14) rfl k) ?_
      obtain ⟨cl36, Ar36, q36, S36, M36, H36, G36⟩ := id Vb
      have hin36 := inb_of (j := (3 : Int32)) S36 ⟨by decide, by decide⟩
      refine Ends.go (X0.baloadBytes hx (j := (3 : Int32)) (v := (.int u3_)) (by rw [e0]; exact Ar36.1) (State.isArrayOf_alike hZ.alike Ar36.2.1) Ar36.2.2 hin36 (H36.at hin36 rfl) (g := (mkF m 15 #[.val (.ref bf_), .val (.ref pf_), .val (.int (5 : Int32)), .val (.int f_), .val (.int m_)] [(.int (3 : Int32)), (.ref bf_)])) rfl rfl (hb hby d3_15)) ?_
      refine Ends.go (fun _ k => XS.aloadN X0.here hx rfl (hb hby d3_16) rfl rfl k) ?_
      refine Ends.go (fun _ k => XS.iconst X0.here hx rfl (hb hby d3_17) k) ?_
      show Ends p e below s s₁ (mkF m 18 #[.val (.ref bf_), .val (.ref pf_), .val (.int (5 : Int32)), .val (.int f_), .val (.int m_)] [(.int (0 : Int32)), (.ref pf_), (.int u3_)]) _ _ _
      obtain ⟨cl37, Ar37, q37, S37, M37, H37, G37⟩ := id Vp
      have hin37 := inb_of (j := (0 : Int32)) S37 ⟨by decide, by decide⟩
      refine Ends.go (X0.baloadBytes hx (j := (0 : Int32)) (v := (.int a0_)) (by rw [e0]; exact Ar37.1) (State.isArrayOf_alike hZ.alike Ar37.2.1) Ar37.2.2 hin37 (H37.at hin37 rfl) (g := (mkF m 18 #[.val (.ref bf_), .val (.ref pf_), .val (.int (5 : Int32)), .val (.int f_), .val (.int m_)] [(.int (0 : Int32)), (.ref pf_), (.int u3_)])) rfl rfl (hb hby d3_18)) ?_
      by_cases hc19_38 : u3_ = a0_
      · refine Ends.go (fun _ k => XS.icmpNo X0.here hx rfl (hb hby d3_19) rfl (teq hc19_38).2 k) ?_
        refine Ends.go (fun _ k => XS.aloadN X0.here hx rfl (hb hby d3_22) rfl rfl k) ?_
        refine Ends.go (fun _ k => XS.iloadN X0.here hx rfl (hb hby d3_23) rfl k) ?_
        show Ends p e below s s₁ (mkF m 24 #[.val (.ref bf_), .val (.ref pf_), .val (.int (5 : Int32)), .val (.int f_), .val (.int m_)] [(.int (5 : Int32)), (.ref bf_)]) _ _ _
        refine Ends.go (fun _ k => XS.iconst X0.here hx rfl (hb hby d3_24) k) ?_
        refine Ends.go (fun _ k => XS.isub X0.here hx rfl (hb hby d3_25) rfl k) ?_
        obtain ⟨cl39, Ar39, q39, S39, M39, H39, G39⟩ := id Vb
        have hin39 := inb_of (j := (4 : Int32)) S39 ⟨by decide, by decide⟩
        refine Ends.go (X0.baloadBytes hx (j := (4 : Int32)) (v := (.int u4_)) (by rw [e0]; exact Ar39.1) (State.isArrayOf_alike hZ.alike Ar39.2.1) Ar39.2.2 hin39 (H39.at hin39 rfl) (g := (mkF m 26 #[.val (.ref bf_), .val (.ref pf_), .val (.int (5 : Int32)), .val (.int f_), .val (.int m_)] [(.int (4 : Int32)), (.ref bf_)])) rfl rfl (hb hby d3_26)) ?_
        refine Ends.go (fun _ k => XS.aloadN X0.here hx rfl (hb hby d3_27) rfl rfl k) ?_
        show Ends p e below s s₁ (mkF m 28 #[.val (.ref bf_), .val (.ref pf_), .val (.int (5 : Int32)), .val (.int f_), .val (.int m_)] [(.ref pf_), (.int u4_)]) _ _ _
        refine Ends.go (fun _ k => XS.iconst X0.here hx rfl (hb hby d3_28) k) ?_
        obtain ⟨cl40, Ar40, q40, S40, M40, H40, G40⟩ := id Vp
        have hin40 := inb_of (j := (1 : Int32)) S40 ⟨by decide, by decide⟩
        refine Ends.go (X0.baloadBytes hx (j := (1 : Int32)) (v := (.int a1_)) (by rw [e0]; exact Ar40.1) (State.isArrayOf_alike hZ.alike Ar40.2.1) Ar40.2.2 hin40 (H40.at hin40 rfl) (g := (mkF m 29 #[.val (.ref bf_), .val (.ref pf_), .val (.int (5 : Int32)), .val (.int f_), .val (.int m_)] [(.int (1 : Int32)), (.ref pf_), (.int u4_)])) rfl rfl (hb hby d3_29)) ?_
        by_cases hc30_41 : u4_ = a1_
        · refine Ends.go (fun _ k => XS.icmpNo X0.here hx rfl (hb hby d3_30) rfl (teq hc30_41).2 k) ?_
          refine Ends.go (fun _ k => XS.aloadN X0.here hx rfl (hb hby d3_33) rfl rfl k) ?_
          show Ends p e below s s₁ (mkF m 34 #[.val (.ref bf_), .val (.ref pf_), .val (.int (5 : Int32)), .val (.int f_), .val (.int m_)] [(.ref bf_)]) _ _ _
          refine Ends.go (fun _ k => XS.iloadN X0.here hx rfl (hb hby d3_34) rfl k) ?_
          obtain ⟨cl42, Ar42, q42, S42, M42, H42, G42⟩ := id Vb
          have hin42 := inb_of (j := (5 : Int32)) S42 ⟨by decide, by decide⟩
          refine Ends.go (X0.baloadBytes hx (j := (5 : Int32)) (v := (.int u5_)) (by rw [e0]; exact Ar42.1) (State.isArrayOf_alike hZ.alike Ar42.2.1) Ar42.2.2 hin42 (H42.at hin42 rfl) (g := (mkF m 35 #[.val (.ref bf_), .val (.ref pf_), .val (.int (5 : Int32)), .val (.int f_), .val (.int m_)] [(.int (5 : Int32)), (.ref bf_)])) rfl rfl (hb hby d3_35)) ?_
          refine Ends.go (fun _ k => XS.aloadN X0.here hx rfl (hb hby d3_36) rfl rfl k) ?_
          refine Ends.go (fun _ k => XS.iconst X0.here hx rfl (hb hby d3_37) k) ?_
          show Ends p e below s s₁ (mkF m 38 #[.val (.ref bf_), .val (.ref pf_), .val (.int (5 : Int32)), .val (.int f_), .val (.int m_)] [(.int (2 : Int32)), (.ref pf_), (.int u5_)]) _ _ _
          obtain ⟨cl43, Ar43, q43, S43, M43, H43, G43⟩ := id Vp
          have hin43 := inb_of (j := (2 : Int32)) S43 ⟨by decide, by decide⟩
          refine Ends.go (X0.baloadBytes hx (j := (2 : Int32)) (v := (.int a2_)) (by rw [e0]; exact Ar43.1) (State.isArrayOf_alike hZ.alike Ar43.2.1) Ar43.2.2 hin43 (H43.at hin43 rfl) (g := (mkF m 38 #[.val (.ref bf_), .val (.ref pf_), .val (.int (5 : Int32)), .val (.int f_), .val (.int m_)] [(.int (2 : Int32)), (.ref pf_), (.int u5_)])) rfl rfl (hb hby d3_38)) ?_
          by_cases hc39_44 : u5_ = a2_
          · refine Ends.go (fun _ k => XS.icmpNo X0.here hx rfl (hb hby d3_39) rfl (teq hc39_44).2 k) ?_
            refine Ends.go (fun _ k => XS.iconst X0.here hx rfl (hb hby d3_42) k) ?_
            refine Ends.go (fun _ k => XS.goto X0.here hx rfl (pc0 := 43) (pc' := 47) rfl (hb hby d3_43) (by decide) (by decide) k) ?_
            show Ends p e below s s₁ (mkF m 47 #[.val (.ref bf_), .val (.ref pf_), .val (.int (5 : Int32)), .val (.int f_), .val (.int m_)] [(.int (1 : Int32))]) _ _ _
            refine Ends.retZ X0 hx Bd.notSynchronized (t := .boolean) Bd.returns (by simp) (hb hby d3_47) (by decide) (by decide) ?_
            exact ⟨1, rfl, N0, e0, Or.inl ⟨rfl, hc2_34, hc8_35, hc19_38, hc30_41, hc39_44⟩⟩
          · refine Ends.go (fun _ k => XS.icmpYes X0.here hx rfl (pc0 := 39) (pc' := 46) rfl (hb hby d3_39) rfl (feq hc39_44).2 (by decide) (by decide) k) ?_
            refine Ends.go (fun _ k => XS.iconst X0.here hx rfl (hb hby d3_46) k) ?_
            refine Ends.retZ X0 hx Bd.notSynchronized (t := .boolean) Bd.returns (by simp) (hb hby d3_47) (by decide) (by decide) ?_
            exact ⟨0, rfl, N0, e0, Or.inr ⟨rfl, fun z => hc39_44 z.2.2.2.2⟩⟩
        · refine Ends.go (fun _ k => XS.icmpYes X0.here hx rfl (pc0 := 30) (pc' := 46) rfl (hb hby d3_30) rfl (feq hc30_41).2 (by decide) (by decide) k) ?_
          refine Ends.go (fun _ k => XS.iconst X0.here hx rfl (hb hby d3_46) k) ?_
          show Ends p e below s s₁ (mkF m 47 #[.val (.ref bf_), .val (.ref pf_), .val (.int (5 : Int32)), .val (.int f_), .val (.int m_)] [(.int (0 : Int32))]) _ _ _
          refine Ends.retZ X0 hx Bd.notSynchronized (t := .boolean) Bd.returns (by simp) (hb hby d3_47) (by decide) (by decide) ?_
          exact ⟨0, rfl, N0, e0, Or.inr ⟨rfl, fun z => hc30_41 z.2.2.2.1⟩⟩
      · refine Ends.go (fun _ k => XS.icmpYes X0.here hx rfl (pc0 := 19) (pc' := 46) rfl (hb hby d3_19) rfl (feq hc19_38).2 (by decide) (by decide) k) ?_
        refine Ends.go (fun _ k => XS.iconst X0.here hx rfl (hb hby d3_46) k) ?_
        refine Ends.retZ X0 hx Bd.notSynchronized (t := .boolean) Bd.returns (by simp) (hb hby d3_47) (by decide) (by decide) ?_
        exact ⟨0, rfl, N0, e0, Or.inr ⟨rfl, fun z => hc19_38 z.2.2.1⟩⟩
    · refine Ends.go (fun _ k => XS.icmpYes X0.here hx rfl (pc0 := 8) (pc' := 46) rfl (hb hby d3_8) rfl (flt hc8_35).2.1 (by decide) (by decide) k) ?_
      refine Ends.go (fun _ k => XS.iconst X0.here hx rfl (hb hby d3_46) k) ?_
      show Ends p e below s s₁ (mkF m 47 #[.val (.ref bf_), .val (.ref pf_), .val (.int (5 : Int32)), .val (.int f_), .val (.int m_)] [(.int (0 : Int32))]) _ _ _
      refine Ends.retZ X0 hx Bd.notSynchronized (t := .boolean) Bd.returns (by simp) (hb hby d3_47) (by decide) (by decide) ?_
      exact ⟨0, rfl, N0, e0, Or.inr ⟨rfl, fun z => hc8_35 z.2.1⟩⟩
set_option maxRecDepth 65536 in
set_option maxHeartbeats 40000000 in
theorem rmH_6 (l : Launch) (Z : State) (a0 : Array Value) (hw : ∀ d ∈ tables_1, d.before a0 Z = true) (ws : List Jvm.Cond) (n0 : Nat) (h0 : Heap) (O0 : Old Z n0 h0)  (bf_ pf_ : Addr) (kb_ kp_ : ClassId) (f_ m_ : Int32) (a0_ a1_ a2_ u0_ u1_ u2_ u3_ u4_ u5_ u6_ u7_ : Int32) (Vb : Arv Z h0 bf_ kb_ .byte (8 : Int32) [(.int u0_), (.int u1_), (.int u2_), (.int u3_), (.int u4_), (.int u5_), (.int u6_), (.int u7_)] (.int (0 : Int32))) (Vp : Arv Z h0 pf_ kp_ .byte (3 : Int32) [(.int a0_), (.int a1_), (.int a2_)] (.int (0 : Int32))) :
    Meets1 l (⟨"com/example/sindano/sindano/boyermoore/ReadingExactPinLaw", "hit", "([B[BIII)Z"⟩ : MethodName) method_3_code 5 (some .boolean) ws ({ frames := 0, cells := 0, slots := 0, locals := 0 } : Room) #[(.ref bf_), (.ref pf_), (.int (6 : Int32)), (.int f_), (.int m_)] Z h0 (fun v h L => ∃ r : Int32, v = some (.int r) ∧ Fr n0 L ∧ h = h0 ∧ ((r = 1 ∧ own_hc a0_ a1_ a2_ u4_ u5_ u6_ f_ m_ 6) ∨ (r = 0 ∧ ¬ own_hc a0_ a1_ a2_ u4_ u5_ u6_ f_ m_ 6))) := by
  refine MetFree.of_bodySF (plainFor_of_name pn3) hisR ?_
  intro p e s m args below meth c s₁ Bd hml0 hP hK
  obtain ⟨rfl, hZ, hh⟩ := hP
  have hx := Bd.exec
  have hby := Bd.bytes
  have hml : c.maxLocals = 5 := hml0
  have hown : s.vm.findClass "com/example/sindano/sindano/boyermoore/ReadingExactPinLaw" = some m.cls := findClass_of_methodNamed Bd.named
  have hnm := (name_of_methodNamed Bd.named Bd.method).1
  have X0 : Stand p l e ({ frames := 0, cells := 0, slots := 0, locals := 0 } : Room) s m #[(.ref bf_), (.ref pf_), (.int (6 : Int32)), (.int f_), (.int m_)] below meth c s₁ [] 0 0 := Stand.of_body Bd
  have e0 : s₁.heap = h0 := by rw [← hh, Bd.state]; rfl
  have N0 := Fr.nil n0
  have Z0 := own_old_le O0
  show Ends p e below s s₁ (entryFrame m #[(.ref bf_), (.ref pf_), (.int (6 : Int32)), (.int f_), (.int m_)] 5) ({ frames := 0, cells := 0, slots := 0, locals := 0 } : Room).cells ({ frames := 0, cells := 0, slots := 0, locals := 0 } : Room).slots (fun v h L => ∃ r : Int32, v = some (.int r) ∧ Fr n0 L ∧ h = h0 ∧ ((r = 1 ∧ own_hc a0_ a1_ a2_ u4_ u5_ u6_ f_ m_ 6) ∨ (r = 0 ∧ ¬ own_hc a0_ a1_ a2_ u4_ u5_ u6_ f_ m_ 6)))
  refine Ends.go (fun _ k => castTop (ef3_rriii m bf_ pf_ (6 : Int32) f_ m_) k) ?_
  have K0 := Keep.refl h0 []
  refine Ends.go (fun _ k => XS.iloadN X0.here hx rfl (hb hby d3_0) rfl k) ?_
  refine Ends.go (fun _ k => XS.iloadN X0.here hx rfl (hb hby d3_1) rfl k) ?_
  by_cases hc2_45 : (6 : Int32) < f_
  · refine Ends.go (fun _ k => XS.icmpYes X0.here hx rfl (pc0 := 2) (pc' := 46) rfl (hb hby d3_2) rfl (tlt hc2_45).1 (by decide) (by decide) k) ?_
    show Ends p e below s s₁ (mkF m 46 #[.val (.ref bf_), .val (.ref pf_), .val (.int (6 : Int32)), .val (.int f_), .val (.int m_)] []) _ _ _
    refine Ends.go (fun _ k => XS.iconst X0.here hx rfl (hb hby d3_46) k) ?_
    refine Ends.retZ X0 hx Bd.notSynchronized (t := .boolean) Bd.returns (by simp) (hb hby d3_47) (by decide) (by decide) ?_
    exact ⟨0, rfl, N0, e0, Or.inr ⟨rfl, fun z => z.1 hc2_45⟩⟩
  · refine Ends.go (fun _ k => XS.icmpNo X0.here hx rfl (hb hby d3_2) rfl (flt hc2_45).1 k) ?_
    refine Ends.go (fun _ k => XS.iloadN X0.here hx rfl (hb hby d3_5) rfl k) ?_
    refine Ends.go (fun _ k => XS.iload X0.here hx rfl (hb hby d3_6) rfl k) ?_
    show Ends p e below s s₁ (mkF m 8 #[.val (.ref bf_), .val (.ref pf_), .val (.int (6 : Int32)), .val (.int f_), .val (.int m_)] [(.int m_), (.int (6 : Int32))]) _ _ _
    by_cases hc8_46 : (6 : Int32) < m_
    · refine Ends.go (fun _ k => XS.icmpNo X0.here hx rfl (hb hby d3_8) rfl (tlt hc8_46).2.1 k) ?_
      refine Ends.go (fun _ k => XS.aloadN X0.here hx rfl (hb hby d3_11) rfl rfl k) ?_
      refine Ends.go (fun _ k => XS.iloadN X0.here hx rfl (hb hby d3_12) rfl k) ?_
      refine Ends.go (fun _ k => XS.iconst X0.here hx rfl (hb hby d3_13) k) ?_
      show Ends p e below s s₁ (mkF m 14 #[.val (.ref bf_), .val (.ref pf_), .val (.int (6 : Int32)), .val (.int f_), .val (.int m_)] [(.int (2 : Int32)), (.int (6 : Int32)), (.ref bf_)]) _ _ _
      refine Ends.go (fun _ k => XS.isub X0.here hx rfl (hb hby d3_14) rfl k) ?_
      obtain ⟨cl47, Ar47, q47, S47, M47, H47, G47⟩ := id Vb
      have hin47 := inb_of (j := (4 : Int32)) S47 ⟨by decide, by decide⟩
      refine Ends.go (X0.baloadBytes hx (j := (4 : Int32)) (v := (.int u4_)) (by rw [e0]; exact Ar47.1) (State.isArrayOf_alike hZ.alike Ar47.2.1) Ar47.2.2 hin47 (H47.at hin47 rfl) (g := (mkF m 15 #[.val (.ref bf_), .val (.ref pf_), .val (.int (6 : Int32)), .val (.int f_), .val (.int m_)] [(.int (4 : Int32)), (.ref bf_)])) rfl rfl (hb hby d3_15)) ?_
      refine Ends.go (fun _ k => XS.aloadN X0.here hx rfl (hb hby d3_16) rfl rfl k) ?_
      refine Ends.go (fun _ k => XS.iconst X0.here hx rfl (hb hby d3_17) k) ?_
      show Ends p e below s s₁ (mkF m 18 #[.val (.ref bf_), .val (.ref pf_), .val (.int (6 : Int32)), .val (.int f_), .val (.int m_)] [(.int (0 : Int32)), (.ref pf_), (.int u4_)]) _ _ _
      obtain ⟨cl48, Ar48, q48, S48, M48, H48, G48⟩ := id Vp
      have hin48 := inb_of (j := (0 : Int32)) S48 ⟨by decide, by decide⟩
      refine Ends.go (X0.baloadBytes hx (j := (0 : Int32)) (v := (.int a0_)) (by rw [e0]; exact Ar48.1) (State.isArrayOf_alike hZ.alike Ar48.2.1) Ar48.2.2 hin48 (H48.at hin48 rfl) (g := (mkF m 18 #[.val (.ref bf_), .val (.ref pf_), .val (.int (6 : Int32)), .val (.int f_), .val (.int m_)] [(.int (0 : Int32)), (.ref pf_), (.int u4_)])) rfl rfl (hb hby d3_18)) ?_
      by_cases hc19_49 : u4_ = a0_
      · refine Ends.go (fun _ k => XS.icmpNo X0.here hx rfl (hb hby d3_19) rfl (teq hc19_49).2 k) ?_
        refine Ends.go (fun _ k => XS.aloadN X0.here hx rfl (hb hby d3_22) rfl rfl k) ?_
        refine Ends.go (fun _ k => XS.iloadN X0.here hx rfl (hb hby d3_23) rfl k) ?_
        show Ends p e below s s₁ (mkF m 24 #[.val (.ref bf_), .val (.ref pf_), .val (.int (6 : Int32)), .val (.int f_), .val (.int m_)] [(.int (6 : Int32)), (.ref bf_)]) _ _ _
        refine Ends.go (fun _ k => XS.iconst X0.here hx rfl (hb hby d3_24) k) ?_
        refine Ends.go (fun _ k => XS.isub X0.here hx rfl (hb hby d3_25) rfl k) ?_
        obtain ⟨cl50, Ar50, q50, S50, M50, H50, G50⟩ := id Vb
        have hin50 := inb_of (j := (5 : Int32)) S50 ⟨by decide, by decide⟩
        refine Ends.go (X0.baloadBytes hx (j := (5 : Int32)) (v := (.int u5_)) (by rw [e0]; exact Ar50.1) (State.isArrayOf_alike hZ.alike Ar50.2.1) Ar50.2.2 hin50 (H50.at hin50 rfl) (g := (mkF m 26 #[.val (.ref bf_), .val (.ref pf_), .val (.int (6 : Int32)), .val (.int f_), .val (.int m_)] [(.int (5 : Int32)), (.ref bf_)])) rfl rfl (hb hby d3_26)) ?_
        refine Ends.go (fun _ k => XS.aloadN X0.here hx rfl (hb hby d3_27) rfl rfl k) ?_
        show Ends p e below s s₁ (mkF m 28 #[.val (.ref bf_), .val (.ref pf_), .val (.int (6 : Int32)), .val (.int f_), .val (.int m_)] [(.ref pf_), (.int u5_)]) _ _ _
        refine Ends.go (fun _ k => XS.iconst X0.here hx rfl (hb hby d3_28) k) ?_
        obtain ⟨cl51, Ar51, q51, S51, M51, H51, G51⟩ := id Vp
        have hin51 := inb_of (j := (1 : Int32)) S51 ⟨by decide, by decide⟩
        refine Ends.go (X0.baloadBytes hx (j := (1 : Int32)) (v := (.int a1_)) (by rw [e0]; exact Ar51.1) (State.isArrayOf_alike hZ.alike Ar51.2.1) Ar51.2.2 hin51 (H51.at hin51 rfl) (g := (mkF m 29 #[.val (.ref bf_), .val (.ref pf_), .val (.int (6 : Int32)), .val (.int f_), .val (.int m_)] [(.int (1 : Int32)), (.ref pf_), (.int u5_)])) rfl rfl (hb hby d3_29)) ?_
        by_cases hc30_52 : u5_ = a1_
        · refine Ends.go (fun _ k => XS.icmpNo X0.here hx rfl (hb hby d3_30) rfl (teq hc30_52).2 k) ?_
          refine Ends.go (fun _ k => XS.aloadN X0.here hx rfl (hb hby d3_33) rfl rfl k) ?_
          show Ends p e below s s₁ (mkF m 34 #[.val (.ref bf_), .val (.ref pf_), .val (.int (6 : Int32)), .val (.int f_), .val (.int m_)] [(.ref bf_)]) _ _ _
          refine Ends.go (fun _ k => XS.iloadN X0.here hx rfl (hb hby d3_34) rfl k) ?_
          obtain ⟨cl53, Ar53, q53, S53, M53, H53, G53⟩ := id Vb
          have hin53 := inb_of (j := (6 : Int32)) S53 ⟨by decide, by decide⟩
          refine Ends.go (X0.baloadBytes hx (j := (6 : Int32)) (v := (.int u6_)) (by rw [e0]; exact Ar53.1) (State.isArrayOf_alike hZ.alike Ar53.2.1) Ar53.2.2 hin53 (H53.at hin53 rfl) (g := (mkF m 35 #[.val (.ref bf_), .val (.ref pf_), .val (.int (6 : Int32)), .val (.int f_), .val (.int m_)] [(.int (6 : Int32)), (.ref bf_)])) rfl rfl (hb hby d3_35)) ?_
          refine Ends.go (fun _ k => XS.aloadN X0.here hx rfl (hb hby d3_36) rfl rfl k) ?_
          refine Ends.go (fun _ k => XS.iconst X0.here hx rfl (hb hby d3_37) k) ?_
          show Ends p e below s s₁ (mkF m 38 #[.val (.ref bf_), .val (.ref pf_), .val (.int (6 : Int32)), .val (.int f_), .val (.int m_)] [(.int (2 : Int32)), (.ref pf_), (.int u6_)]) _ _ _
          obtain ⟨cl54, Ar54, q54, S54, M54, H54, G54⟩ := id Vp
          have hin54 := inb_of (j := (2 : Int32)) S54 ⟨by decide, by decide⟩
          refine Ends.go (X0.baloadBytes hx (j := (2 : Int32)) (v := (.int a2_)) (by rw [e0]; exact Ar54.1) (State.isArrayOf_alike hZ.alike Ar54.2.1) Ar54.2.2 hin54 (H54.at hin54 rfl) (g := (mkF m 38 #[.val (.ref bf_), .val (.ref pf_), .val (.int (6 : Int32)), .val (.int f_), .val (.int m_)] [(.int (2 : Int32)), (.ref pf_), (.int u6_)])) rfl rfl (hb hby d3_38)) ?_
          by_cases hc39_55 : u6_ = a2_
          · refine Ends.go (fun _ k => XS.icmpNo X0.here hx rfl (hb hby d3_39) rfl (teq hc39_55).2 k) ?_
            refine Ends.go (fun _ k => XS.iconst X0.here hx rfl (hb hby d3_42) k) ?_
            refine Ends.go (fun _ k => XS.goto X0.here hx rfl (pc0 := 43) (pc' := 47) rfl (hb hby d3_43) (by decide) (by decide) k) ?_
            show Ends p e below s s₁ (mkF m 47 #[.val (.ref bf_), .val (.ref pf_), .val (.int (6 : Int32)), .val (.int f_), .val (.int m_)] [(.int (1 : Int32))]) _ _ _
            refine Ends.retZ X0 hx Bd.notSynchronized (t := .boolean) Bd.returns (by simp) (hb hby d3_47) (by decide) (by decide) ?_
            exact ⟨1, rfl, N0, e0, Or.inl ⟨rfl, hc2_45, hc8_46, hc19_49, hc30_52, hc39_55⟩⟩
          · refine Ends.go (fun _ k => XS.icmpYes X0.here hx rfl (pc0 := 39) (pc' := 46) rfl (hb hby d3_39) rfl (feq hc39_55).2 (by decide) (by decide) k) ?_
            refine Ends.go (fun _ k => XS.iconst X0.here hx rfl (hb hby d3_46) k) ?_
            refine Ends.retZ X0 hx Bd.notSynchronized (t := .boolean) Bd.returns (by simp) (hb hby d3_47) (by decide) (by decide) ?_
            exact ⟨0, rfl, N0, e0, Or.inr ⟨rfl, fun z => hc39_55 z.2.2.2.2⟩⟩
        · refine Ends.go (fun _ k => XS.icmpYes X0.here hx rfl (pc0 := 30) (pc' := 46) rfl (hb hby d3_30) rfl (feq hc30_52).2 (by decide) (by decide) k) ?_
          refine Ends.go (fun _ k => XS.iconst X0.here hx rfl (hb hby d3_46) k) ?_
          show Ends p e below s s₁ (mkF m 47 #[.val (.ref bf_), .val (.ref pf_), .val (.int (6 : Int32)), .val (.int f_), .val (.int m_)] [(.int (0 : Int32))]) _ _ _
          refine Ends.retZ X0 hx Bd.notSynchronized (t := .boolean) Bd.returns (by simp) (hb hby d3_47) (by decide) (by decide) ?_
          exact ⟨0, rfl, N0, e0, Or.inr ⟨rfl, fun z => hc30_52 z.2.2.2.1⟩⟩
      · refine Ends.go (fun _ k => XS.icmpYes X0.here hx rfl (pc0 := 19) (pc' := 46) rfl (hb hby d3_19) rfl (feq hc19_49).2 (by decide) (by decide) k) ?_
        refine Ends.go (fun _ k => XS.iconst X0.here hx rfl (hb hby d3_46) k) ?_
        refine Ends.retZ X0 hx Bd.notSynchronized (t := .boolean) Bd.returns (by simp) (hb hby d3_47) (by decide) (by decide) ?_
        exact ⟨0, rfl, N0, e0, Or.inr ⟨rfl, fun z => hc19_49 z.2.2.1⟩⟩
    · refine Ends.go (fun _ k => XS.icmpYes X0.here hx rfl (pc0 := 8) (pc' := 46) rfl (hb hby d3_8) rfl (flt hc8_46).2.1 (by decide) (by decide) k) ?_
      refine Ends.go (fun _ k => XS.iconst X0.here hx rfl (hb hby d3_46) k) ?_
      show Ends p e below s s₁ (mkF m 47 #[.val (.ref bf_), .val (.ref pf_), .val (.int (6 : Int32)), .val (.int f_), .val (.int m_)] [(.int (0 : Int32))]) _ _ _
      refine Ends.retZ X0 hx Bd.notSynchronized (t := .boolean) Bd.returns (by simp) (hb hby d3_47) (by decide) (by decide) ?_
      exact ⟨0, rfl, N0, e0, Or.inr ⟨rfl, fun z => hc8_46 z.2.1⟩⟩
set_option maxRecDepth 65536 in
set_option maxHeartbeats 40000000 in
theorem rmH_7 (l : Launch) (Z : State) (a0 : Array Value) (hw : ∀ d ∈ tables_1, d.before a0 Z = true) (ws : List Jvm.Cond) (n0 : Nat) (h0 : Heap) (O0 : Old Z n0 h0)  (bf_ pf_ : Addr) (kb_ kp_ : ClassId) (f_ m_ : Int32) (a0_ a1_ a2_ u0_ u1_ u2_ u3_ u4_ u5_ u6_ u7_ : Int32) (Vb : Arv Z h0 bf_ kb_ .byte (8 : Int32) [(.int u0_), (.int u1_), (.int u2_), (.int u3_), (.int u4_), (.int u5_), (.int u6_), (.int u7_)] (.int (0 : Int32))) (Vp : Arv Z h0 pf_ kp_ .byte (3 : Int32) [(.int a0_), (.int a1_), (.int a2_)] (.int (0 : Int32))) :
    Meets1 l (⟨"com/example/sindano/sindano/boyermoore/ReadingExactPinLaw", "hit", "([B[BIII)Z"⟩ : MethodName) method_3_code 5 (some .boolean) ws ({ frames := 0, cells := 0, slots := 0, locals := 0 } : Room) #[(.ref bf_), (.ref pf_), (.int (7 : Int32)), (.int f_), (.int m_)] Z h0 (fun v h L => ∃ r : Int32, v = some (.int r) ∧ Fr n0 L ∧ h = h0 ∧ ((r = 1 ∧ own_hc a0_ a1_ a2_ u5_ u6_ u7_ f_ m_ 7) ∨ (r = 0 ∧ ¬ own_hc a0_ a1_ a2_ u5_ u6_ u7_ f_ m_ 7))) := by
  refine MetFree.of_bodySF (plainFor_of_name pn3) hisR ?_
  intro p e s m args below meth c s₁ Bd hml0 hP hK
  obtain ⟨rfl, hZ, hh⟩ := hP
  have hx := Bd.exec
  have hby := Bd.bytes
  have hml : c.maxLocals = 5 := hml0
  have hown : s.vm.findClass "com/example/sindano/sindano/boyermoore/ReadingExactPinLaw" = some m.cls := findClass_of_methodNamed Bd.named
  have hnm := (name_of_methodNamed Bd.named Bd.method).1
  have X0 : Stand p l e ({ frames := 0, cells := 0, slots := 0, locals := 0 } : Room) s m #[(.ref bf_), (.ref pf_), (.int (7 : Int32)), (.int f_), (.int m_)] below meth c s₁ [] 0 0 := Stand.of_body Bd
  have e0 : s₁.heap = h0 := by rw [← hh, Bd.state]; rfl
  have N0 := Fr.nil n0
  have Z0 := own_old_le O0
  show Ends p e below s s₁ (entryFrame m #[(.ref bf_), (.ref pf_), (.int (7 : Int32)), (.int f_), (.int m_)] 5) ({ frames := 0, cells := 0, slots := 0, locals := 0 } : Room).cells ({ frames := 0, cells := 0, slots := 0, locals := 0 } : Room).slots (fun v h L => ∃ r : Int32, v = some (.int r) ∧ Fr n0 L ∧ h = h0 ∧ ((r = 1 ∧ own_hc a0_ a1_ a2_ u5_ u6_ u7_ f_ m_ 7) ∨ (r = 0 ∧ ¬ own_hc a0_ a1_ a2_ u5_ u6_ u7_ f_ m_ 7)))
  refine Ends.go (fun _ k => castTop (ef3_rriii m bf_ pf_ (7 : Int32) f_ m_) k) ?_
  have K0 := Keep.refl h0 []
  refine Ends.go (fun _ k => XS.iloadN X0.here hx rfl (hb hby d3_0) rfl k) ?_
  refine Ends.go (fun _ k => XS.iloadN X0.here hx rfl (hb hby d3_1) rfl k) ?_
  by_cases hc2_56 : (7 : Int32) < f_
  · refine Ends.go (fun _ k => XS.icmpYes X0.here hx rfl (pc0 := 2) (pc' := 46) rfl (hb hby d3_2) rfl (tlt hc2_56).1 (by decide) (by decide) k) ?_
    show Ends p e below s s₁ (mkF m 46 #[.val (.ref bf_), .val (.ref pf_), .val (.int (7 : Int32)), .val (.int f_), .val (.int m_)] []) _ _ _
    refine Ends.go (fun _ k => XS.iconst X0.here hx rfl (hb hby d3_46) k) ?_
    refine Ends.retZ X0 hx Bd.notSynchronized (t := .boolean) Bd.returns (by simp) (hb hby d3_47) (by decide) (by decide) ?_
    exact ⟨0, rfl, N0, e0, Or.inr ⟨rfl, fun z => z.1 hc2_56⟩⟩
  · refine Ends.go (fun _ k => XS.icmpNo X0.here hx rfl (hb hby d3_2) rfl (flt hc2_56).1 k) ?_
    refine Ends.go (fun _ k => XS.iloadN X0.here hx rfl (hb hby d3_5) rfl k) ?_
    refine Ends.go (fun _ k => XS.iload X0.here hx rfl (hb hby d3_6) rfl k) ?_
    show Ends p e below s s₁ (mkF m 8 #[.val (.ref bf_), .val (.ref pf_), .val (.int (7 : Int32)), .val (.int f_), .val (.int m_)] [(.int m_), (.int (7 : Int32))]) _ _ _
    by_cases hc8_57 : (7 : Int32) < m_
    · refine Ends.go (fun _ k => XS.icmpNo X0.here hx rfl (hb hby d3_8) rfl (tlt hc8_57).2.1 k) ?_
      refine Ends.go (fun _ k => XS.aloadN X0.here hx rfl (hb hby d3_11) rfl rfl k) ?_
      refine Ends.go (fun _ k => XS.iloadN X0.here hx rfl (hb hby d3_12) rfl k) ?_
      refine Ends.go (fun _ k => XS.iconst X0.here hx rfl (hb hby d3_13) k) ?_
      show Ends p e below s s₁ (mkF m 14 #[.val (.ref bf_), .val (.ref pf_), .val (.int (7 : Int32)), .val (.int f_), .val (.int m_)] [(.int (2 : Int32)), (.int (7 : Int32)), (.ref bf_)]) _ _ _
      refine Ends.go (fun _ k => XS.isub X0.here hx rfl (hb hby d3_14) rfl k) ?_
      obtain ⟨cl58, Ar58, q58, S58, M58, H58, G58⟩ := id Vb
      have hin58 := inb_of (j := (5 : Int32)) S58 ⟨by decide, by decide⟩
      refine Ends.go (X0.baloadBytes hx (j := (5 : Int32)) (v := (.int u5_)) (by rw [e0]; exact Ar58.1) (State.isArrayOf_alike hZ.alike Ar58.2.1) Ar58.2.2 hin58 (H58.at hin58 rfl) (g := (mkF m 15 #[.val (.ref bf_), .val (.ref pf_), .val (.int (7 : Int32)), .val (.int f_), .val (.int m_)] [(.int (5 : Int32)), (.ref bf_)])) rfl rfl (hb hby d3_15)) ?_
      refine Ends.go (fun _ k => XS.aloadN X0.here hx rfl (hb hby d3_16) rfl rfl k) ?_
      refine Ends.go (fun _ k => XS.iconst X0.here hx rfl (hb hby d3_17) k) ?_
      show Ends p e below s s₁ (mkF m 18 #[.val (.ref bf_), .val (.ref pf_), .val (.int (7 : Int32)), .val (.int f_), .val (.int m_)] [(.int (0 : Int32)), (.ref pf_), (.int u5_)]) _ _ _
      obtain ⟨cl59, Ar59, q59, S59, M59, H59, G59⟩ := id Vp
      have hin59 := inb_of (j := (0 : Int32)) S59 ⟨by decide, by decide⟩
      refine Ends.go (X0.baloadBytes hx (j := (0 : Int32)) (v := (.int a0_)) (by rw [e0]; exact Ar59.1) (State.isArrayOf_alike hZ.alike Ar59.2.1) Ar59.2.2 hin59 (H59.at hin59 rfl) (g := (mkF m 18 #[.val (.ref bf_), .val (.ref pf_), .val (.int (7 : Int32)), .val (.int f_), .val (.int m_)] [(.int (0 : Int32)), (.ref pf_), (.int u5_)])) rfl rfl (hb hby d3_18)) ?_
      by_cases hc19_60 : u5_ = a0_
      · refine Ends.go (fun _ k => XS.icmpNo X0.here hx rfl (hb hby d3_19) rfl (teq hc19_60).2 k) ?_
        refine Ends.go (fun _ k => XS.aloadN X0.here hx rfl (hb hby d3_22) rfl rfl k) ?_
        refine Ends.go (fun _ k => XS.iloadN X0.here hx rfl (hb hby d3_23) rfl k) ?_
        show Ends p e below s s₁ (mkF m 24 #[.val (.ref bf_), .val (.ref pf_), .val (.int (7 : Int32)), .val (.int f_), .val (.int m_)] [(.int (7 : Int32)), (.ref bf_)]) _ _ _
        refine Ends.go (fun _ k => XS.iconst X0.here hx rfl (hb hby d3_24) k) ?_
        refine Ends.go (fun _ k => XS.isub X0.here hx rfl (hb hby d3_25) rfl k) ?_
        obtain ⟨cl61, Ar61, q61, S61, M61, H61, G61⟩ := id Vb
        have hin61 := inb_of (j := (6 : Int32)) S61 ⟨by decide, by decide⟩
        refine Ends.go (X0.baloadBytes hx (j := (6 : Int32)) (v := (.int u6_)) (by rw [e0]; exact Ar61.1) (State.isArrayOf_alike hZ.alike Ar61.2.1) Ar61.2.2 hin61 (H61.at hin61 rfl) (g := (mkF m 26 #[.val (.ref bf_), .val (.ref pf_), .val (.int (7 : Int32)), .val (.int f_), .val (.int m_)] [(.int (6 : Int32)), (.ref bf_)])) rfl rfl (hb hby d3_26)) ?_
        refine Ends.go (fun _ k => XS.aloadN X0.here hx rfl (hb hby d3_27) rfl rfl k) ?_
        show Ends p e below s s₁ (mkF m 28 #[.val (.ref bf_), .val (.ref pf_), .val (.int (7 : Int32)), .val (.int f_), .val (.int m_)] [(.ref pf_), (.int u6_)]) _ _ _
        refine Ends.go (fun _ k => XS.iconst X0.here hx rfl (hb hby d3_28) k) ?_
        obtain ⟨cl62, Ar62, q62, S62, M62, H62, G62⟩ := id Vp
        have hin62 := inb_of (j := (1 : Int32)) S62 ⟨by decide, by decide⟩
        refine Ends.go (X0.baloadBytes hx (j := (1 : Int32)) (v := (.int a1_)) (by rw [e0]; exact Ar62.1) (State.isArrayOf_alike hZ.alike Ar62.2.1) Ar62.2.2 hin62 (H62.at hin62 rfl) (g := (mkF m 29 #[.val (.ref bf_), .val (.ref pf_), .val (.int (7 : Int32)), .val (.int f_), .val (.int m_)] [(.int (1 : Int32)), (.ref pf_), (.int u6_)])) rfl rfl (hb hby d3_29)) ?_
        by_cases hc30_63 : u6_ = a1_
        · refine Ends.go (fun _ k => XS.icmpNo X0.here hx rfl (hb hby d3_30) rfl (teq hc30_63).2 k) ?_
          refine Ends.go (fun _ k => XS.aloadN X0.here hx rfl (hb hby d3_33) rfl rfl k) ?_
          show Ends p e below s s₁ (mkF m 34 #[.val (.ref bf_), .val (.ref pf_), .val (.int (7 : Int32)), .val (.int f_), .val (.int m_)] [(.ref bf_)]) _ _ _
          refine Ends.go (fun _ k => XS.iloadN X0.here hx rfl (hb hby d3_34) rfl k) ?_
          obtain ⟨cl64, Ar64, q64, S64, M64, H64, G64⟩ := id Vb
          have hin64 := inb_of (j := (7 : Int32)) S64 ⟨by decide, by decide⟩
          refine Ends.go (X0.baloadBytes hx (j := (7 : Int32)) (v := (.int u7_)) (by rw [e0]; exact Ar64.1) (State.isArrayOf_alike hZ.alike Ar64.2.1) Ar64.2.2 hin64 (H64.at hin64 rfl) (g := (mkF m 35 #[.val (.ref bf_), .val (.ref pf_), .val (.int (7 : Int32)), .val (.int f_), .val (.int m_)] [(.int (7 : Int32)), (.ref bf_)])) rfl rfl (hb hby d3_35)) ?_
          refine Ends.go (fun _ k => XS.aloadN X0.here hx rfl (hb hby d3_36) rfl rfl k) ?_
          refine Ends.go (fun _ k => XS.iconst X0.here hx rfl (hb hby d3_37) k) ?_
          show Ends p e below s s₁ (mkF m 38 #[.val (.ref bf_), .val (.ref pf_), .val (.int (7 : Int32)), .val (.int f_), .val (.int m_)] [(.int (2 : Int32)), (.ref pf_), (.int u7_)]) _ _ _
          obtain ⟨cl65, Ar65, q65, S65, M65, H65, G65⟩ := id Vp
          have hin65 := inb_of (j := (2 : Int32)) S65 ⟨by decide, by decide⟩
          refine Ends.go (X0.baloadBytes hx (j := (2 : Int32)) (v := (.int a2_)) (by rw [e0]; exact Ar65.1) (State.isArrayOf_alike hZ.alike Ar65.2.1) Ar65.2.2 hin65 (H65.at hin65 rfl) (g := (mkF m 38 #[.val (.ref bf_), .val (.ref pf_), .val (.int (7 : Int32)), .val (.int f_), .val (.int m_)] [(.int (2 : Int32)), (.ref pf_), (.int u7_)])) rfl rfl (hb hby d3_38)) ?_
          by_cases hc39_66 : u7_ = a2_
          · refine Ends.go (fun _ k => XS.icmpNo X0.here hx rfl (hb hby d3_39) rfl (teq hc39_66).2 k) ?_
            refine Ends.go (fun _ k => XS.iconst X0.here hx rfl (hb hby d3_42) k) ?_
            refine Ends.go (fun _ k => XS.goto X0.here hx rfl (pc0 := 43) (pc' := 47) rfl (hb hby d3_43) (by decide) (by decide) k) ?_
            show Ends p e below s s₁ (mkF m 47 #[.val (.ref bf_), .val (.ref pf_), .val (.int (7 : Int32)), .val (.int f_), .val (.int m_)] [(.int (1 : Int32))]) _ _ _
            refine Ends.retZ X0 hx Bd.notSynchronized (t := .boolean) Bd.returns (by simp) (hb hby d3_47) (by decide) (by decide) ?_
            exact ⟨1, rfl, N0, e0, Or.inl ⟨rfl, hc2_56, hc8_57, hc19_60, hc30_63, hc39_66⟩⟩
          · refine Ends.go (fun _ k => XS.icmpYes X0.here hx rfl (pc0 := 39) (pc' := 46) rfl (hb hby d3_39) rfl (feq hc39_66).2 (by decide) (by decide) k) ?_
            refine Ends.go (fun _ k => XS.iconst X0.here hx rfl (hb hby d3_46) k) ?_
            refine Ends.retZ X0 hx Bd.notSynchronized (t := .boolean) Bd.returns (by simp) (hb hby d3_47) (by decide) (by decide) ?_
            exact ⟨0, rfl, N0, e0, Or.inr ⟨rfl, fun z => hc39_66 z.2.2.2.2⟩⟩
        · refine Ends.go (fun _ k => XS.icmpYes X0.here hx rfl (pc0 := 30) (pc' := 46) rfl (hb hby d3_30) rfl (feq hc30_63).2 (by decide) (by decide) k) ?_
          refine Ends.go (fun _ k => XS.iconst X0.here hx rfl (hb hby d3_46) k) ?_
          show Ends p e below s s₁ (mkF m 47 #[.val (.ref bf_), .val (.ref pf_), .val (.int (7 : Int32)), .val (.int f_), .val (.int m_)] [(.int (0 : Int32))]) _ _ _
          refine Ends.retZ X0 hx Bd.notSynchronized (t := .boolean) Bd.returns (by simp) (hb hby d3_47) (by decide) (by decide) ?_
          exact ⟨0, rfl, N0, e0, Or.inr ⟨rfl, fun z => hc30_63 z.2.2.2.1⟩⟩
      · refine Ends.go (fun _ k => XS.icmpYes X0.here hx rfl (pc0 := 19) (pc' := 46) rfl (hb hby d3_19) rfl (feq hc19_60).2 (by decide) (by decide) k) ?_
        refine Ends.go (fun _ k => XS.iconst X0.here hx rfl (hb hby d3_46) k) ?_
        refine Ends.retZ X0 hx Bd.notSynchronized (t := .boolean) Bd.returns (by simp) (hb hby d3_47) (by decide) (by decide) ?_
        exact ⟨0, rfl, N0, e0, Or.inr ⟨rfl, fun z => hc19_60 z.2.2.1⟩⟩
    · refine Ends.go (fun _ k => XS.icmpYes X0.here hx rfl (pc0 := 8) (pc' := 46) rfl (hb hby d3_8) rfl (flt hc8_57).2.1 (by decide) (by decide) k) ?_
      refine Ends.go (fun _ k => XS.iconst X0.here hx rfl (hb hby d3_46) k) ?_
      show Ends p e below s s₁ (mkF m 47 #[.val (.ref bf_), .val (.ref pf_), .val (.int (7 : Int32)), .val (.int f_), .val (.int m_)] [(.int (0 : Int32))]) _ _ _
      refine Ends.retZ X0 hx Bd.notSynchronized (t := .boolean) Bd.returns (by simp) (hb hby d3_47) (by decide) (by decide) ?_
      exact ⟨0, rfl, N0, e0, Or.inr ⟨rfl, fun z => hc8_57 z.2.1⟩⟩
theorem d2_0 : decode method_4_code 0 = .ok (.aload_n 0, 1) := by decide +kernel
theorem d2_1 : decode method_4_code 1 = .ok (.aload_n 1, 1) := by decide +kernel
theorem d2_2 : decode method_4_code 2 = .ok (.iconst 2, 1) := by decide +kernel
theorem d2_3 : decode method_4_code 3 = .ok (.iload_n 2, 1) := by decide +kernel
theorem d2_4 : decode method_4_code 4 = .ok (.iload_n 3, 1) := by decide +kernel
theorem d2_5 : decode method_4_code 5 = .ok (.invokestatic 7, 3) := by decide +kernel
theorem d2_8 : decode method_4_code 8 = .ok (.ifCond .eq 5, 3) := by decide +kernel
theorem d2_11 : decode method_4_code 11 = .ok (.iconst 3, 1) := by decide +kernel
theorem d2_12 : decode method_4_code 12 = .ok (.ireturn, 1) := by decide +kernel
theorem d2_13 : decode method_4_code 13 = .ok (.aload_n 0, 1) := by decide +kernel
theorem d2_14 : decode method_4_code 14 = .ok (.aload_n 1, 1) := by decide +kernel
theorem d2_15 : decode method_4_code 15 = .ok (.iconst 3, 1) := by decide +kernel
theorem d2_16 : decode method_4_code 16 = .ok (.iload_n 2, 1) := by decide +kernel
theorem d2_17 : decode method_4_code 17 = .ok (.iload_n 3, 1) := by decide +kernel
theorem d2_18 : decode method_4_code 18 = .ok (.invokestatic 7, 3) := by decide +kernel
theorem d2_21 : decode method_4_code 21 = .ok (.ifCond .eq 5, 3) := by decide +kernel
theorem d2_24 : decode method_4_code 24 = .ok (.iconst 4, 1) := by decide +kernel
theorem d2_25 : decode method_4_code 25 = .ok (.ireturn, 1) := by decide +kernel
theorem d2_26 : decode method_4_code 26 = .ok (.aload_n 0, 1) := by decide +kernel
theorem d2_27 : decode method_4_code 27 = .ok (.aload_n 1, 1) := by decide +kernel
theorem d2_28 : decode method_4_code 28 = .ok (.iconst 4, 1) := by decide +kernel
theorem d2_29 : decode method_4_code 29 = .ok (.iload_n 2, 1) := by decide +kernel
theorem d2_30 : decode method_4_code 30 = .ok (.iload_n 3, 1) := by decide +kernel
theorem d2_31 : decode method_4_code 31 = .ok (.invokestatic 7, 3) := by decide +kernel
theorem d2_34 : decode method_4_code 34 = .ok (.ifCond .eq 5, 3) := by decide +kernel
theorem d2_37 : decode method_4_code 37 = .ok (.iconst 5, 1) := by decide +kernel
theorem d2_38 : decode method_4_code 38 = .ok (.ireturn, 1) := by decide +kernel
theorem d2_39 : decode method_4_code 39 = .ok (.aload_n 0, 1) := by decide +kernel
theorem d2_40 : decode method_4_code 40 = .ok (.aload_n 1, 1) := by decide +kernel
theorem d2_41 : decode method_4_code 41 = .ok (.iconst 5, 1) := by decide +kernel
theorem d2_42 : decode method_4_code 42 = .ok (.iload_n 2, 1) := by decide +kernel
theorem d2_43 : decode method_4_code 43 = .ok (.iload_n 3, 1) := by decide +kernel
theorem d2_44 : decode method_4_code 44 = .ok (.invokestatic 7, 3) := by decide +kernel
theorem d2_47 : decode method_4_code 47 = .ok (.ifCond .eq 6, 3) := by decide +kernel
theorem d2_50 : decode method_4_code 50 = .ok (.bipush 6, 2) := by decide +kernel
theorem d2_52 : decode method_4_code 52 = .ok (.ireturn, 1) := by decide +kernel
theorem d2_53 : decode method_4_code 53 = .ok (.aload_n 0, 1) := by decide +kernel
theorem d2_54 : decode method_4_code 54 = .ok (.aload_n 1, 1) := by decide +kernel
theorem d2_55 : decode method_4_code 55 = .ok (.bipush 6, 2) := by decide +kernel
theorem d2_57 : decode method_4_code 57 = .ok (.iload_n 2, 1) := by decide +kernel
theorem d2_58 : decode method_4_code 58 = .ok (.iload_n 3, 1) := by decide +kernel
theorem d2_59 : decode method_4_code 59 = .ok (.invokestatic 7, 3) := by decide +kernel
theorem d2_62 : decode method_4_code 62 = .ok (.ifCond .eq 6, 3) := by decide +kernel
theorem d2_65 : decode method_4_code 65 = .ok (.bipush 7, 2) := by decide +kernel
theorem d2_67 : decode method_4_code 67 = .ok (.ireturn, 1) := by decide +kernel
theorem d2_68 : decode method_4_code 68 = .ok (.aload_n 0, 1) := by decide +kernel
theorem d2_69 : decode method_4_code 69 = .ok (.aload_n 1, 1) := by decide +kernel
theorem d2_70 : decode method_4_code 70 = .ok (.bipush 7, 2) := by decide +kernel
theorem d2_72 : decode method_4_code 72 = .ok (.iload_n 2, 1) := by decide +kernel
theorem d2_73 : decode method_4_code 73 = .ok (.iload_n 3, 1) := by decide +kernel
theorem d2_74 : decode method_4_code 74 = .ok (.invokestatic 7, 3) := by decide +kernel
theorem d2_77 : decode method_4_code 77 = .ok (.ifCond .eq 6, 3) := by decide +kernel
theorem d2_80 : decode method_4_code 80 = .ok (.bipush 8, 2) := by decide +kernel
theorem d2_82 : decode method_4_code 82 = .ok (.ireturn, 1) := by decide +kernel
theorem d2_83 : decode method_4_code 83 = .ok (.iconst (-1), 1) := by decide +kernel
theorem d2_84 : decode method_4_code 84 = .ok (.ireturn, 1) := by decide +kernel
theorem pn2 : plainName "com/example/sindano/sindano/boyermoore/ReadingExactPinLaw" = true := by first | (simp [plainName, overriddenIn]; done) | decide +kernel
theorem pdx_0 : parseMethodDescriptor "([B[BIII)Z" = some ⟨[(.array .byte), (.array .byte), .int, .int, .int], some .boolean⟩ := by decide +kernel
theorem ef2_rrii (m : MethodId) (x0 : Addr) (x1 : Addr) (x2 : Int32) (x3 : Int32) : entryFrame m #[(.ref x0), (.ref x1), (.int x2), (.int x3)] 4 = mkF m 0 #[.val (.ref x0), .val (.ref x1), .val (.int x2), .val (.int x3)] [] := by first | (simp [entryFrame, mkF, argsToLocals, Value.category]; done) | rfl
set_option maxRecDepth 65536 in
set_option maxHeartbeats 40000000 in
theorem rmE (l : Launch) (Z : State) (a0 : Array Value) (hw : ∀ d ∈ tables_1, d.before a0 Z = true) (ws : List Jvm.Cond) (n0 : Nat) (h0 : Heap) (O0 : Old Z n0 h0)  (bf_ pf_ : Addr) (kb_ kp_ : ClassId) (f_ m_ : Int32) (a0_ a1_ a2_ u0_ u1_ u2_ u3_ u4_ u5_ u6_ u7_ : Int32) (Vb : Arv Z h0 bf_ kb_ .byte (8 : Int32) [(.int u0_), (.int u1_), (.int u2_), (.int u3_), (.int u4_), (.int u5_), (.int u6_), (.int u7_)] (.int (0 : Int32))) (Vp : Arv Z h0 pf_ kp_ .byte (3 : Int32) [(.int a0_), (.int a1_), (.int a2_)] (.int (0 : Int32))) :
    Meets1 l (⟨"com/example/sindano/sindano/boyermoore/ReadingExactPinLaw", "firstEnd", "([B[BII)I"⟩ : MethodName) method_4_code 4 (some .int) ws ({ frames := 1, cells := 0, slots := 0, locals := 16 } : Room) #[(.ref bf_), (.ref pf_), (.int f_), (.int m_)] Z h0 (fun v h L => ∃ r : Int32, v = some (.int r) ∧ Fr n0 L ∧ h = h0 ∧ r = own_first a0_ a1_ a2_ u0_ u1_ u2_ u3_ u4_ u5_ u6_ u7_ f_ m_) := by
  refine MetFree.of_bodySF (plainFor_of_name pn2) hisR ?_
  intro p e s m args below meth c s₁ Bd hml0 hP hK
  obtain ⟨rfl, hZ, hh⟩ := hP
  have hx := Bd.exec
  have hby := Bd.bytes
  have hml : c.maxLocals = 4 := hml0
  have hown : s.vm.findClass "com/example/sindano/sindano/boyermoore/ReadingExactPinLaw" = some m.cls := findClass_of_methodNamed Bd.named
  have hnm := (name_of_methodNamed Bd.named Bd.method).1
  have X0 : Stand p l e ({ frames := 1, cells := 0, slots := 0, locals := 16 } : Room) s m #[(.ref bf_), (.ref pf_), (.int f_), (.int m_)] below meth c s₁ [] 0 0 := Stand.of_body Bd
  have e0 : s₁.heap = h0 := by rw [← hh, Bd.state]; rfl
  have N0 := Fr.nil n0
  have Z0 := own_old_le O0
  show Ends p e below s s₁ (entryFrame m #[(.ref bf_), (.ref pf_), (.int f_), (.int m_)] 4) ({ frames := 1, cells := 0, slots := 0, locals := 16 } : Room).cells ({ frames := 1, cells := 0, slots := 0, locals := 16 } : Room).slots (fun v h L => ∃ r : Int32, v = some (.int r) ∧ Fr n0 L ∧ h = h0 ∧ r = own_first a0_ a1_ a2_ u0_ u1_ u2_ u3_ u4_ u5_ u6_ u7_ f_ m_)
  refine Ends.go (fun _ k => castTop (ef2_rrii m bf_ pf_ f_ m_) k) ?_
  have K0 := Keep.refl h0 []
  refine Ends.go (fun _ k => XS.aloadN X0.here hx rfl (hb hby d2_0) rfl rfl k) ?_
  refine Ends.go (fun _ k => XS.aloadN X0.here hx rfl (hb hby d2_1) rfl rfl k) ?_
  refine Ends.go (fun _ k => XS.iconst X0.here hx rfl (hb hby d2_2) k) ?_
  show Ends p e below s s₁ (mkF m 3 #[.val (.ref bf_), .val (.ref pf_), .val (.int f_), .val (.int m_)] [(.int (2 : Int32)), (.ref pf_), (.ref bf_)]) _ _ _
  refine Ends.go (fun _ k => XS.iloadN X0.here hx rfl (hb hby d2_3) rfl k) ?_
  refine Ends.go (fun _ k => XS.iloadN X0.here hx rfl (hb hby d2_4) rfl k) ?_
  obtain ⟨_, _, ⟨T67, L67, k67, n67⟩, -, X67, ⟨Lc67, hQ67, l67, y67, z67⟩, st67⟩ := Jvm.LawKit.callS X0 hx (y := (⟨"com/example/sindano/sindano/boyermoore/ReadingExactPinLaw", "hit", "([B[BIII)Z"⟩ : MethodName)) hown (mvT hZ (ow hw 9 rfl)) (mvT hZ (ow hw 10 rfl)) (mvT hZ (ow hw 3 rfl)) (mvT hZ (ow hw 11 rfl)) (by decide) (own_backOf (W := 0) (rmH_2 l Z a0 hw [] n0 h0 O0 bf_ pf_ kb_ kp_ f_ m_ a0_ a1_ a2_ u0_ u1_ u2_ u3_ u4_ u5_ u6_ u7_ Vb Vp) hZ (ow hw 11 rfl) (ow hw 3 rfl) (by decide) (by decide)) (g := (mkF m 5 #[.val (.ref bf_), .val (.ref pf_), .val (.int f_), .val (.int m_)] [(.int m_), (.int f_), (.int (2 : Int32)), (.ref pf_), (.ref bf_)])) rfl (by rw [hml]; rfl) (argsL := [(.ref bf_), (.ref pf_), (.int (2 : Int32)), (.int f_), (.int m_)]) (rest := []) (lenOf pdx_0 rfl) rfl (by show 2 * 0 + _ ≤ _; exact Nat.le_of_eq rfl) (hb hby d2_5) (fun _ _ => ⟨rfl, e0, (by decide : 0 + 0 ≤ _), (by decide : 0 + 0 ≤ _)⟩)
  dsimp only [Pt.U, Pt.locs, Pt.cells, Pt.slots] at X67 l67 y67 z67 st67 hQ67
  subst l67 y67 z67
  obtain ⟨r67, rfl, N67q, e67q, hr67⟩ := hQ67
  have N67 := Fr.app N0 N67q
  refine Ends.go st67 ?_
  rcases hr67 with ⟨rfl, hP67⟩ | ⟨rfl, hP67⟩
  · show Ends p e below s T67 (mkF m 8 #[.val (.ref bf_), .val (.ref pf_), .val (.int f_), .val (.int m_)] [(.int (1 : Int32))]) _ _ _
    refine Ends.go (fun _ k => XS.ifNo X67.here hx rfl (hb hby d2_8) rfl ((if0 _ _).trans (feq (by decide : ¬ ((1 : Int32) = (0 : Int32)))).1) k) ?_
    refine Ends.go (fun _ k => XS.iconst X67.here hx rfl (hb hby d2_11) k) ?_
    refine Ends.ret X67 hx Bd.notSynchronized (t := .int) Bd.returns rfl (Or.inl ⟨rfl, by simp, _, rfl⟩) (hb hby d2_12) (by decide) (by decide) ?_
    exact ⟨(3 : Int32), rfl, N67, e67q, by
      unfold own_first
      rw [if_pos hP67]⟩
  · show Ends p e below s T67 (mkF m 8 #[.val (.ref bf_), .val (.ref pf_), .val (.int f_), .val (.int m_)] [(.int (0 : Int32))]) _ _ _
    refine Ends.go (fun _ k => XS.ifYes X67.here hx rfl (pc0 := 8) (pc' := 13) rfl (hb hby d2_8) rfl ((if0 _ _).trans (teq (by decide : (0 : Int32) = (0 : Int32))).1) (by decide) (by decide) k) ?_
    show Ends p e below s T67 (mkF m 13 #[.val (.ref bf_), .val (.ref pf_), .val (.int f_), .val (.int m_)] []) _ _ _
    refine Ends.go (fun _ k => XS.aloadN X67.here hx rfl (hb hby d2_13) rfl rfl k) ?_
    refine Ends.go (fun _ k => XS.aloadN X67.here hx rfl (hb hby d2_14) rfl rfl k) ?_
    refine Ends.go (fun _ k => XS.iconst X67.here hx rfl (hb hby d2_15) k) ?_
    refine Ends.go (fun _ k => XS.iloadN X67.here hx rfl (hb hby d2_16) rfl k) ?_
    show Ends p e below s T67 (mkF m 17 #[.val (.ref bf_), .val (.ref pf_), .val (.int f_), .val (.int m_)] [(.int f_), (.int (3 : Int32)), (.ref pf_), (.ref bf_)]) _ _ _
    refine Ends.go (fun _ k => XS.iloadN X67.here hx rfl (hb hby d2_17) rfl k) ?_
    obtain ⟨_, _, ⟨T68, L68, k68, n68⟩, -, X68, ⟨Lc68, hQ68, l68, y68, z68⟩, st68⟩ := Jvm.LawKit.callS X67 hx (y := (⟨"com/example/sindano/sindano/boyermoore/ReadingExactPinLaw", "hit", "([B[BIII)Z"⟩ : MethodName)) hown (mvT hZ (ow hw 9 rfl)) (mvT hZ (ow hw 10 rfl)) (mvT hZ (ow hw 3 rfl)) (mvT hZ (ow hw 11 rfl)) (by decide) (own_backOf (W := 0) (rmH_3 l Z a0 hw [] n0 h0 O0 bf_ pf_ kb_ kp_ f_ m_ a0_ a1_ a2_ u0_ u1_ u2_ u3_ u4_ u5_ u6_ u7_ Vb Vp) hZ (ow hw 11 rfl) (ow hw 3 rfl) (by decide) (by decide)) (g := (mkF m 18 #[.val (.ref bf_), .val (.ref pf_), .val (.int f_), .val (.int m_)] [(.int m_), (.int f_), (.int (3 : Int32)), (.ref pf_), (.ref bf_)])) rfl (by rw [hml]; rfl) (argsL := [(.ref bf_), (.ref pf_), (.int (3 : Int32)), (.int f_), (.int m_)]) (rest := []) (lenOf pdx_0 rfl) rfl (by show 2 * 0 + _ ≤ _; exact Nat.le_of_eq rfl) (hb hby d2_18) (fun _ _ => ⟨rfl, e67q, (by decide : 0 + 0 ≤ _), (by decide : 0 + 0 ≤ _)⟩)
    dsimp only [Pt.U, Pt.locs, Pt.cells, Pt.slots] at X68 l68 y68 z68 st68 hQ68
    subst l68 y68 z68
    obtain ⟨r68, rfl, N68q, e68q, hr68⟩ := hQ68
    have N68 := Fr.app N67 N68q
    refine Ends.go st68 ?_
    rcases hr68 with ⟨rfl, hP68⟩ | ⟨rfl, hP68⟩
    · show Ends p e below s T68 (mkF m 21 #[.val (.ref bf_), .val (.ref pf_), .val (.int f_), .val (.int m_)] [(.int (1 : Int32))]) _ _ _
      refine Ends.go (fun _ k => XS.ifNo X68.here hx rfl (hb hby d2_21) rfl ((if0 _ _).trans (feq (by decide : ¬ ((1 : Int32) = (0 : Int32)))).1) k) ?_
      show Ends p e below s T68 (mkF m 24 #[.val (.ref bf_), .val (.ref pf_), .val (.int f_), .val (.int m_)] []) _ _ _
      refine Ends.go (fun _ k => XS.iconst X68.here hx rfl (hb hby d2_24) k) ?_
      refine Ends.ret X68 hx Bd.notSynchronized (t := .int) Bd.returns rfl (Or.inl ⟨rfl, by simp, _, rfl⟩) (hb hby d2_25) (by decide) (by decide) ?_
      exact ⟨(4 : Int32), rfl, N68, e68q, by
        unfold own_first
        rw [if_neg hP67, if_pos hP68]⟩
    · show Ends p e below s T68 (mkF m 21 #[.val (.ref bf_), .val (.ref pf_), .val (.int f_), .val (.int m_)] [(.int (0 : Int32))]) _ _ _
      refine Ends.go (fun _ k => XS.ifYes X68.here hx rfl (pc0 := 21) (pc' := 26) rfl (hb hby d2_21) rfl ((if0 _ _).trans (teq (by decide : (0 : Int32) = (0 : Int32))).1) (by decide) (by decide) k) ?_
      refine Ends.go (fun _ k => XS.aloadN X68.here hx rfl (hb hby d2_26) rfl rfl k) ?_
      show Ends p e below s T68 (mkF m 27 #[.val (.ref bf_), .val (.ref pf_), .val (.int f_), .val (.int m_)] [(.ref bf_)]) _ _ _
      refine Ends.go (fun _ k => XS.aloadN X68.here hx rfl (hb hby d2_27) rfl rfl k) ?_
      refine Ends.go (fun _ k => XS.iconst X68.here hx rfl (hb hby d2_28) k) ?_
      refine Ends.go (fun _ k => XS.iloadN X68.here hx rfl (hb hby d2_29) rfl k) ?_
      refine Ends.go (fun _ k => XS.iloadN X68.here hx rfl (hb hby d2_30) rfl k) ?_
      show Ends p e below s T68 (mkF m 31 #[.val (.ref bf_), .val (.ref pf_), .val (.int f_), .val (.int m_)] [(.int m_), (.int f_), (.int (4 : Int32)), (.ref pf_), (.ref bf_)]) _ _ _
      obtain ⟨_, _, ⟨T69, L69, k69, n69⟩, -, X69, ⟨Lc69, hQ69, l69, y69, z69⟩, st69⟩ := Jvm.LawKit.callS X68 hx (y := (⟨"com/example/sindano/sindano/boyermoore/ReadingExactPinLaw", "hit", "([B[BIII)Z"⟩ : MethodName)) hown (mvT hZ (ow hw 9 rfl)) (mvT hZ (ow hw 10 rfl)) (mvT hZ (ow hw 3 rfl)) (mvT hZ (ow hw 11 rfl)) (by decide) (own_backOf (W := 0) (rmH_4 l Z a0 hw [] n0 h0 O0 bf_ pf_ kb_ kp_ f_ m_ a0_ a1_ a2_ u0_ u1_ u2_ u3_ u4_ u5_ u6_ u7_ Vb Vp) hZ (ow hw 11 rfl) (ow hw 3 rfl) (by decide) (by decide)) (g := (mkF m 31 #[.val (.ref bf_), .val (.ref pf_), .val (.int f_), .val (.int m_)] [(.int m_), (.int f_), (.int (4 : Int32)), (.ref pf_), (.ref bf_)])) rfl (by rw [hml]; rfl) (argsL := [(.ref bf_), (.ref pf_), (.int (4 : Int32)), (.int f_), (.int m_)]) (rest := []) (lenOf pdx_0 rfl) rfl (by show 2 * 0 + _ ≤ _; exact Nat.le_of_eq rfl) (hb hby d2_31) (fun _ _ => ⟨rfl, e68q, (by decide : 0 + 0 ≤ _), (by decide : 0 + 0 ≤ _)⟩)
      dsimp only [Pt.U, Pt.locs, Pt.cells, Pt.slots] at X69 l69 y69 z69 st69 hQ69
      subst l69 y69 z69
      obtain ⟨r69, rfl, N69q, e69q, hr69⟩ := hQ69
      have N69 := Fr.app N68 N69q
      refine Ends.go st69 ?_
      rcases hr69 with ⟨rfl, hP69⟩ | ⟨rfl, hP69⟩
      · show Ends p e below s T69 (mkF m 34 #[.val (.ref bf_), .val (.ref pf_), .val (.int f_), .val (.int m_)] [(.int (1 : Int32))]) _ _ _
        refine Ends.go (fun _ k => XS.ifNo X69.here hx rfl (hb hby d2_34) rfl ((if0 _ _).trans (feq (by decide : ¬ ((1 : Int32) = (0 : Int32)))).1) k) ?_
        refine Ends.go (fun _ k => XS.iconst X69.here hx rfl (hb hby d2_37) k) ?_
        show Ends p e below s T69 (mkF m 38 #[.val (.ref bf_), .val (.ref pf_), .val (.int f_), .val (.int m_)] [(.int (5 : Int32))]) _ _ _
        refine Ends.ret X69 hx Bd.notSynchronized (t := .int) Bd.returns rfl (Or.inl ⟨rfl, by simp, _, rfl⟩) (hb hby d2_38) (by decide) (by decide) ?_
        exact ⟨(5 : Int32), rfl, N69, e69q, by
          unfold own_first
          rw [if_neg hP67, if_neg hP68, if_pos hP69]⟩
      · show Ends p e below s T69 (mkF m 34 #[.val (.ref bf_), .val (.ref pf_), .val (.int f_), .val (.int m_)] [(.int (0 : Int32))]) _ _ _
        refine Ends.go (fun _ k => XS.ifYes X69.here hx rfl (pc0 := 34) (pc' := 39) rfl (hb hby d2_34) rfl ((if0 _ _).trans (teq (by decide : (0 : Int32) = (0 : Int32))).1) (by decide) (by decide) k) ?_
        refine Ends.go (fun _ k => XS.aloadN X69.here hx rfl (hb hby d2_39) rfl rfl k) ?_
        refine Ends.go (fun _ k => XS.aloadN X69.here hx rfl (hb hby d2_40) rfl rfl k) ?_
        show Ends p e below s T69 (mkF m 41 #[.val (.ref bf_), .val (.ref pf_), .val (.int f_), .val (.int m_)] [(.ref pf_), (.ref bf_)]) _ _ _
        refine Ends.go (fun _ k => XS.iconst X69.here hx rfl (hb hby d2_41) k) ?_
        refine Ends.go (fun _ k => XS.iloadN X69.here hx rfl (hb hby d2_42) rfl k) ?_
        refine Ends.go (fun _ k => XS.iloadN X69.here hx rfl (hb hby d2_43) rfl k) ?_
        obtain ⟨_, _, ⟨T70, L70, k70, n70⟩, -, X70, ⟨Lc70, hQ70, l70, y70, z70⟩, st70⟩ := Jvm.LawKit.callS X69 hx (y := (⟨"com/example/sindano/sindano/boyermoore/ReadingExactPinLaw", "hit", "([B[BIII)Z"⟩ : MethodName)) hown (mvT hZ (ow hw 9 rfl)) (mvT hZ (ow hw 10 rfl)) (mvT hZ (ow hw 3 rfl)) (mvT hZ (ow hw 11 rfl)) (by decide) (own_backOf (W := 0) (rmH_5 l Z a0 hw [] n0 h0 O0 bf_ pf_ kb_ kp_ f_ m_ a0_ a1_ a2_ u0_ u1_ u2_ u3_ u4_ u5_ u6_ u7_ Vb Vp) hZ (ow hw 11 rfl) (ow hw 3 rfl) (by decide) (by decide)) (g := (mkF m 44 #[.val (.ref bf_), .val (.ref pf_), .val (.int f_), .val (.int m_)] [(.int m_), (.int f_), (.int (5 : Int32)), (.ref pf_), (.ref bf_)])) rfl (by rw [hml]; rfl) (argsL := [(.ref bf_), (.ref pf_), (.int (5 : Int32)), (.int f_), (.int m_)]) (rest := []) (lenOf pdx_0 rfl) rfl (by show 2 * 0 + _ ≤ _; exact Nat.le_of_eq rfl) (hb hby d2_44) (fun _ _ => ⟨rfl, e69q, (by decide : 0 + 0 ≤ _), (by decide : 0 + 0 ≤ _)⟩)
        dsimp only [Pt.U, Pt.locs, Pt.cells, Pt.slots] at X70 l70 y70 z70 st70 hQ70
        subst l70 y70 z70
        obtain ⟨r70, rfl, N70q, e70q, hr70⟩ := hQ70
        have N70 := Fr.app N69 N70q
        refine Ends.go st70 ?_
        show Ends p e below s T70 (mkF m 47 #[.val (.ref bf_), .val (.ref pf_), .val (.int f_), .val (.int m_)] [(.int r70)]) _ _ _
        rcases hr70 with ⟨rfl, hP70⟩ | ⟨rfl, hP70⟩
        · show Ends p e below s T70 (mkF m 47 #[.val (.ref bf_), .val (.ref pf_), .val (.int f_), .val (.int m_)] [(.int (1 : Int32))]) _ _ _
          refine Ends.go (fun _ k => XS.ifNo X70.here hx rfl (hb hby d2_47) rfl ((if0 _ _).trans (feq (by decide : ¬ ((1 : Int32) = (0 : Int32)))).1) k) ?_
          refine Ends.go (fun _ k => XS.bipush X70.here hx rfl (hb hby d2_50) k) ?_
          refine Ends.ret X70 hx Bd.notSynchronized (t := .int) Bd.returns rfl (Or.inl ⟨rfl, by simp, _, rfl⟩) (hb hby d2_52) (by decide) (by decide) ?_
          exact ⟨(6 : Int32), rfl, N70, e70q, by
            unfold own_first
            rw [if_neg hP67, if_neg hP68, if_neg hP69, if_pos hP70]⟩
        · show Ends p e below s T70 (mkF m 47 #[.val (.ref bf_), .val (.ref pf_), .val (.int f_), .val (.int m_)] [(.int (0 : Int32))]) _ _ _
          refine Ends.go (fun _ k => XS.ifYes X70.here hx rfl (pc0 := 47) (pc' := 53) rfl (hb hby d2_47) rfl ((if0 _ _).trans (teq (by decide : (0 : Int32) = (0 : Int32))).1) (by decide) (by decide) k) ?_
          refine Ends.go (fun _ k => XS.aloadN X70.here hx rfl (hb hby d2_53) rfl rfl k) ?_
          refine Ends.go (fun _ k => XS.aloadN X70.here hx rfl (hb hby d2_54) rfl rfl k) ?_
          refine Ends.go (fun _ k => XS.bipush X70.here hx rfl (hb hby d2_55) k) ?_
          show Ends p e below s T70 (mkF m 57 #[.val (.ref bf_), .val (.ref pf_), .val (.int f_), .val (.int m_)] [(.int (6 : Int32)), (.ref pf_), (.ref bf_)]) _ _ _
          refine Ends.go (fun _ k => XS.iloadN X70.here hx rfl (hb hby d2_57) rfl k) ?_
          refine Ends.go (fun _ k => XS.iloadN X70.here hx rfl (hb hby d2_58) rfl k) ?_
          obtain ⟨_, _, ⟨T71, L71, k71, n71⟩, -, X71, ⟨Lc71, hQ71, l71, y71, z71⟩, st71⟩ := Jvm.LawKit.callS X70 hx (y := (⟨"com/example/sindano/sindano/boyermoore/ReadingExactPinLaw", "hit", "([B[BIII)Z"⟩ : MethodName)) hown (mvT hZ (ow hw 9 rfl)) (mvT hZ (ow hw 10 rfl)) (mvT hZ (ow hw 3 rfl)) (mvT hZ (ow hw 11 rfl)) (by decide) (own_backOf (W := 0) (rmH_6 l Z a0 hw [] n0 h0 O0 bf_ pf_ kb_ kp_ f_ m_ a0_ a1_ a2_ u0_ u1_ u2_ u3_ u4_ u5_ u6_ u7_ Vb Vp) hZ (ow hw 11 rfl) (ow hw 3 rfl) (by decide) (by decide)) (g := (mkF m 59 #[.val (.ref bf_), .val (.ref pf_), .val (.int f_), .val (.int m_)] [(.int m_), (.int f_), (.int (6 : Int32)), (.ref pf_), (.ref bf_)])) rfl (by rw [hml]; rfl) (argsL := [(.ref bf_), (.ref pf_), (.int (6 : Int32)), (.int f_), (.int m_)]) (rest := []) (lenOf pdx_0 rfl) rfl (by show 2 * 0 + _ ≤ _; exact Nat.le_of_eq rfl) (hb hby d2_59) (fun _ _ => ⟨rfl, e70q, (by decide : 0 + 0 ≤ _), (by decide : 0 + 0 ≤ _)⟩)
          dsimp only [Pt.U, Pt.locs, Pt.cells, Pt.slots] at X71 l71 y71 z71 st71 hQ71
          subst l71 y71 z71
          obtain ⟨r71, rfl, N71q, e71q, hr71⟩ := hQ71
          have N71 := Fr.app N70 N71q
          refine Ends.go st71 ?_
          rcases hr71 with ⟨rfl, hP71⟩ | ⟨rfl, hP71⟩
          · show Ends p e below s T71 (mkF m 62 #[.val (.ref bf_), .val (.ref pf_), .val (.int f_), .val (.int m_)] [(.int (1 : Int32))]) _ _ _
            refine Ends.go (fun _ k => XS.ifNo X71.here hx rfl (hb hby d2_62) rfl ((if0 _ _).trans (feq (by decide : ¬ ((1 : Int32) = (0 : Int32)))).1) k) ?_
            refine Ends.go (fun _ k => XS.bipush X71.here hx rfl (hb hby d2_65) k) ?_
            refine Ends.ret X71 hx Bd.notSynchronized (t := .int) Bd.returns rfl (Or.inl ⟨rfl, by simp, _, rfl⟩) (hb hby d2_67) (by decide) (by decide) ?_
            exact ⟨(7 : Int32), rfl, N71, e71q, by
              unfold own_first
              rw [if_neg hP67, if_neg hP68, if_neg hP69, if_neg hP70, if_pos hP71]⟩
          · show Ends p e below s T71 (mkF m 62 #[.val (.ref bf_), .val (.ref pf_), .val (.int f_), .val (.int m_)] [(.int (0 : Int32))]) _ _ _
            refine Ends.go (fun _ k => XS.ifYes X71.here hx rfl (pc0 := 62) (pc' := 68) rfl (hb hby d2_62) rfl ((if0 _ _).trans (teq (by decide : (0 : Int32) = (0 : Int32))).1) (by decide) (by decide) k) ?_
            show Ends p e below s T71 (mkF m 68 #[.val (.ref bf_), .val (.ref pf_), .val (.int f_), .val (.int m_)] []) _ _ _
            refine Ends.go (fun _ k => XS.aloadN X71.here hx rfl (hb hby d2_68) rfl rfl k) ?_
            refine Ends.go (fun _ k => XS.aloadN X71.here hx rfl (hb hby d2_69) rfl rfl k) ?_
            refine Ends.go (fun _ k => XS.bipush X71.here hx rfl (hb hby d2_70) k) ?_
            refine Ends.go (fun _ k => XS.iloadN X71.here hx rfl (hb hby d2_72) rfl k) ?_
            show Ends p e below s T71 (mkF m 73 #[.val (.ref bf_), .val (.ref pf_), .val (.int f_), .val (.int m_)] [(.int f_), (.int (7 : Int32)), (.ref pf_), (.ref bf_)]) _ _ _
            refine Ends.go (fun _ k => XS.iloadN X71.here hx rfl (hb hby d2_73) rfl k) ?_
            obtain ⟨_, _, ⟨T72, L72, k72, n72⟩, -, X72, ⟨Lc72, hQ72, l72, y72, z72⟩, st72⟩ := Jvm.LawKit.callS X71 hx (y := (⟨"com/example/sindano/sindano/boyermoore/ReadingExactPinLaw", "hit", "([B[BIII)Z"⟩ : MethodName)) hown (mvT hZ (ow hw 9 rfl)) (mvT hZ (ow hw 10 rfl)) (mvT hZ (ow hw 3 rfl)) (mvT hZ (ow hw 11 rfl)) (by decide) (own_backOf (W := 0) (rmH_7 l Z a0 hw [] n0 h0 O0 bf_ pf_ kb_ kp_ f_ m_ a0_ a1_ a2_ u0_ u1_ u2_ u3_ u4_ u5_ u6_ u7_ Vb Vp) hZ (ow hw 11 rfl) (ow hw 3 rfl) (by decide) (by decide)) (g := (mkF m 74 #[.val (.ref bf_), .val (.ref pf_), .val (.int f_), .val (.int m_)] [(.int m_), (.int f_), (.int (7 : Int32)), (.ref pf_), (.ref bf_)])) rfl (by rw [hml]; rfl) (argsL := [(.ref bf_), (.ref pf_), (.int (7 : Int32)), (.int f_), (.int m_)]) (rest := []) (lenOf pdx_0 rfl) rfl (by show 2 * 0 + _ ≤ _; exact Nat.le_of_eq rfl) (hb hby d2_74) (fun _ _ => ⟨rfl, e71q, (by decide : 0 + 0 ≤ _), (by decide : 0 + 0 ≤ _)⟩)
            dsimp only [Pt.U, Pt.locs, Pt.cells, Pt.slots] at X72 l72 y72 z72 st72 hQ72
            subst l72 y72 z72
            obtain ⟨r72, rfl, N72q, e72q, hr72⟩ := hQ72
            have N72 := Fr.app N71 N72q
            refine Ends.go st72 ?_
            rcases hr72 with ⟨rfl, hP72⟩ | ⟨rfl, hP72⟩
            · show Ends p e below s T72 (mkF m 77 #[.val (.ref bf_), .val (.ref pf_), .val (.int f_), .val (.int m_)] [(.int (1 : Int32))]) _ _ _
              refine Ends.go (fun _ k => XS.ifNo X72.here hx rfl (hb hby d2_77) rfl ((if0 _ _).trans (feq (by decide : ¬ ((1 : Int32) = (0 : Int32)))).1) k) ?_
              show Ends p e below s T72 (mkF m 80 #[.val (.ref bf_), .val (.ref pf_), .val (.int f_), .val (.int m_)] []) _ _ _
              refine Ends.go (fun _ k => XS.bipush X72.here hx rfl (hb hby d2_80) k) ?_
              refine Ends.ret X72 hx Bd.notSynchronized (t := .int) Bd.returns rfl (Or.inl ⟨rfl, by simp, _, rfl⟩) (hb hby d2_82) (by decide) (by decide) ?_
              exact ⟨(8 : Int32), rfl, N72, e72q, by
                unfold own_first
                rw [if_neg hP67, if_neg hP68, if_neg hP69, if_neg hP70, if_neg hP71, if_pos hP72]⟩
            · show Ends p e below s T72 (mkF m 77 #[.val (.ref bf_), .val (.ref pf_), .val (.int f_), .val (.int m_)] [(.int (0 : Int32))]) _ _ _
              refine Ends.go (fun _ k => XS.ifYes X72.here hx rfl (pc0 := 77) (pc' := 83) rfl (hb hby d2_77) rfl ((if0 _ _).trans (teq (by decide : (0 : Int32) = (0 : Int32))).1) (by decide) (by decide) k) ?_
              refine Ends.go (fun _ k => XS.iconst X72.here hx rfl (hb hby d2_83) k) ?_
              show Ends p e below s T72 (mkF m 84 #[.val (.ref bf_), .val (.ref pf_), .val (.int f_), .val (.int m_)] [(.int (-1 : Int32))]) _ _ _
              refine Ends.ret X72 hx Bd.notSynchronized (t := .int) Bd.returns rfl (Or.inl ⟨rfl, by simp, _, rfl⟩) (hb hby d2_84) (by decide) (by decide) ?_
              exact ⟨(-1 : Int32), rfl, N72, e72q, by
                unfold own_first
                rw [if_neg hP67, if_neg hP68, if_neg hP69, if_neg hP70, if_neg hP71, if_neg hP72]⟩
theorem d6_0 : decode jdk_65_method_101_code 0 = .ok (.iconst 0, 1) := by decide +kernel
theorem d6_1 : decode jdk_65_method_101_code 1 = .ok (.istore_n 3, 1) := by decide +kernel
theorem d6_2 : decode jdk_65_method_101_code 2 = .ok (.aload_n 0, 1) := by decide +kernel
theorem d6_3 : decode jdk_65_method_101_code 3 = .ok (.arraylength, 1) := by decide +kernel
theorem d6_4 : decode jdk_65_method_101_code 4 = .ok (.istore 4, 2) := by decide +kernel
theorem d6_6 : decode jdk_65_method_101_code 6 = .ok (.iload_n 3, 1) := by decide +kernel
theorem d6_7 : decode jdk_65_method_101_code 7 = .ok (.iload 4, 2) := by decide +kernel
theorem d6_9 : decode jdk_65_method_101_code 9 = .ok (.if_icmp .ge 13, 3) := by decide +kernel
theorem d6_12 : decode jdk_65_method_101_code 12 = .ok (.aload_n 0, 1) := by decide +kernel
theorem d6_13 : decode jdk_65_method_101_code 13 = .ok (.iload_n 3, 1) := by decide +kernel
theorem d6_14 : decode jdk_65_method_101_code 14 = .ok (.lload_n 1, 1) := by decide +kernel
theorem d6_15 : decode jdk_65_method_101_code 15 = .ok (.lastore, 1) := by decide +kernel
theorem d6_16 : decode jdk_65_method_101_code 16 = .ok (.iinc 3 1, 3) := by decide +kernel
theorem d6_19 : decode jdk_65_method_101_code 19 = .ok (.goto (-13), 3) := by decide +kernel
theorem d6_22 : decode jdk_65_method_101_code 22 = .ok (.return_, 1) := by decide +kernel
theorem pn6 : plainName "java/util/Arrays" = true := by first | (simp [plainName, overriddenIn]; done) | decide +kernel
theorem ef6_rj (m : MethodId) (x0 : Addr) (x1 : Int64) : entryFrame m #[(.ref x0), (.long x1)] 5 = mkF m 0 #[.val (.ref x0), .val (.long x1), .second, .unset, .unset] [] := by first | (simp [entryFrame, mkF, argsToLocals, Value.category]; done) | rfl
set_option maxRecDepth 65536 in
set_option maxHeartbeats 40000000 in
theorem rmF (l : Launch) (Z : State) (a0 : Array Value) (hw : ∀ d ∈ tables_1, d.before a0 Z = true) (ws : List Jvm.Cond) (n0 : Nat) (h0 : Heap) (O0 : Old Z n0 h0)  (b0_ : Addr) (g_ : Nat → Int64) (g_b0_ : n0 ≤ b0_) (M0 : Lng Z h0 b0_ g_) :
    Meets1 l (⟨"java/util/Arrays", "fill", "([JJ)V"⟩ : MethodName) jdk_65_method_101_code 5 none ws ({ frames := 0, cells := 0, slots := 0, locals := 0 } : Room) #[(.ref b0_), (.long (-1 : Int64))] Z h0 (fun v h L => ∃ g : Nat → Int64, v = none ∧ Fr n0 L ∧ Keep h0 h [b0_] ∧ Lng Z h b0_ g ∧ ∀ i, i < 256 → g i = -1) := by
  refine MetFree.of_bodySF (plainFor_of_name pn6) hisR ?_
  intro p e s m args below meth c s₁ Bd hml0 hP hK
  obtain ⟨rfl, hZ, hh⟩ := hP
  have hx := Bd.exec
  have hby := Bd.bytes
  have hml : c.maxLocals = 5 := hml0
  have hown : s.vm.findClass "java/util/Arrays" = some m.cls := findClass_of_methodNamed Bd.named
  have hnm := (name_of_methodNamed Bd.named Bd.method).1
  have X0 : Stand p l e ({ frames := 0, cells := 0, slots := 0, locals := 0 } : Room) s m #[(.ref b0_), (.long (-1 : Int64))] below meth c s₁ [] 0 0 := Stand.of_body Bd
  have e0 : s₁.heap = h0 := by rw [← hh, Bd.state]; rfl
  have N0 := Fr.nil n0
  have Z0 := own_old_le O0
  show Ends p e below s s₁ (entryFrame m #[(.ref b0_), (.long (-1 : Int64))] 5) ({ frames := 0, cells := 0, slots := 0, locals := 0 } : Room).cells ({ frames := 0, cells := 0, slots := 0, locals := 0 } : Room).slots (fun v h L => ∃ g : Nat → Int64, v = none ∧ Fr n0 L ∧ Keep h0 h [b0_] ∧ Lng Z h b0_ g ∧ ∀ i, i < 256 → g i = -1)
  refine Ends.go (fun _ k => castTop (ef6_rj m b0_ (-1 : Int64)) k) ?_
  have K0 := Keep.refl h0 [b0_]
  have J6 : ∀ (k_ : Nat) (i_ : Int32) (T6 : State) (h6 : Heap) (lcs : List Loc) (f6 : Nat → Int64) (X6 : Stand p l e ({ frames := 0, cells := 0, slots := 0, locals := 0 } : Room) s m #[(.ref b0_), (.long (-1 : Int64))] below meth c T6 lcs 0 0) (eT6 : T6.heap = h6) (O6 : Old Z n0 h6) (N6 : Fr n0 lcs) (K6 : Keep h0 h6 [b0_]) (M6 : Lng Z h6 b0_ f6) (hk : i_.toInt + (k_ : Int) = 256) (hi : 0 ≤ i_.toInt) (hg : ∀ x, x < i_.toNatClampNeg → f6 x = -1), Ends p e below s T6 (mkF m 6 #[.val (.ref b0_), .val (.long (-1 : Int64)), .second, .val (.int i_), .val (.int (256 : Int32))] []) ({ frames := 0, cells := 0, slots := 0, locals := 0 } : Room).cells ({ frames := 0, cells := 0, slots := 0, locals := 0 } : Room).slots (fun v h L => ∃ g : Nat → Int64, v = none ∧ Fr n0 L ∧ Keep h0 h [b0_] ∧ Lng Z h b0_ g ∧ ∀ i, i < 256 → g i = -1) := by
    intro k_
    induction k_ with
    | zero =>
      intro i_ T6 h6 lcs f6 X6 eT6 O6 N6 K6 M6 hk hi hg
      show Ends p e below s T6 (mkF m 6 #[.val (.ref b0_), .val (.long (-1 : Int64)), .second, .val (.int i_), .val (.int (256 : Int32))] []) _ _ _
      refine Ends.go (fun _ k => XS.iloadN X6.here hx rfl (hb hby d6_6) rfl k) ?_
      refine Ends.go (fun _ k => XS.iload X6.here hx rfl (hb hby d6_7) rfl k) ?_
      show Ends p e below s T6 (mkF m 9 #[.val (.ref b0_), .val (.long (-1 : Int64)), .second, .val (.int i_), .val (.int (256 : Int32))] [(.int (256 : Int32)), (.int i_)]) _ _ _
      refine Ends.go (fun _ k => XS.icmpYes X6.here hx rfl (pc0 := 9) (pc' := 22) rfl (hb hby d6_9) rfl (flt (own_ige hk : ¬ (i_ < (256 : Int32)))).2.1 (by decide) (by decide) k) ?_
      refine Ends.retV X6 hx Bd.notSynchronized Bd.returns (hb hby d6_22) (by decide) (by decide) ?_
      rw [eT6]
      exact ⟨f6, rfl, N6, K6, M6, own_fillend hk hg⟩
    | succ k_ ih =>
      intro i_ T6 h6 lcs f6 X6 eT6 O6 N6 K6 M6 hk hi hg
      show Ends p e below s T6 (mkF m 6 #[.val (.ref b0_), .val (.long (-1 : Int64)), .second, .val (.int i_), .val (.int (256 : Int32))] []) _ _ _
      refine Ends.go (fun _ k => XS.iloadN X6.here hx rfl (hb hby d6_6) rfl k) ?_
      refine Ends.go (fun _ k => XS.iload X6.here hx rfl (hb hby d6_7) rfl k) ?_
      show Ends p e below s T6 (mkF m 9 #[.val (.ref b0_), .val (.long (-1 : Int64)), .second, .val (.int i_), .val (.int (256 : Int32))] [(.int (256 : Int32)), (.int i_)]) _ _ _
      refine Ends.go (fun _ k => XS.icmpNo X6.here hx rfl (hb hby d6_9) rfl (tlt (own_ilt hk : i_ < (256 : Int32))).2.1 k) ?_
      refine Ends.go (fun _ k => XS.aloadN X6.here hx rfl (hb hby d6_12) rfl rfl k) ?_
      refine Ends.go (fun _ k => XS.iloadN X6.here hx rfl (hb hby d6_13) rfl k) ?_
      refine Ends.go (fun _ k => XS.lloadN X6.here hx rfl (hb hby d6_14) rfl k) ?_
      show Ends p e below s T6 (mkF m 15 #[.val (.ref b0_), .val (.long (-1 : Int64)), .second, .val (.int i_), .val (.int (256 : Int32))] [(.long (-1 : Int64)), (.int i_), (.ref b0_)]) _ _ _
      obtain ⟨cl73, Ar73, S73, H73⟩ := id M6
      have hin73 := inb_of (j := i_) S73 ⟨own_i0 hk hi, own_ilt hk⟩
      obtain ⟨T73, h73, X73, e73, W73, st73⟩ := stJ X6 hx hZ eT6 Ar73 (j := i_) hin73 (g := (mkF m 15 #[.val (.ref b0_), .val (.long (-1 : Int64)), .second, .val (.int i_), .val (.int (256 : Int32))] [(.long (-1 : Int64)), (.int i_), (.ref b0_)])) rfl rfl (hb hby d6_15)
      refine Ends.go st73 ?_
      obtain ⟨f73, hf73⟩ : ∃ f : Nat → Int64, f = (fun i => if i = (i_).toNatClampNeg then (-1 : Int64) else f6 i) := ⟨_, rfl⟩
      have M73 : Lng Z h73 b0_ f73 := by rw [hf73]; exact Lng.set Ar73 S73 H73 W73
      have K73 := K6.wr W73 (Or.inl (List.mem_of_getElem? (i := 0) rfl))
      have O73 := O6.wr W73 g_b0_
      have N73 := Fr.snoc X73 N6 g_b0_
      refine Ends.go (fun _ k => XS.iinc X73.here hx rfl (hb hby d6_16) rfl (l' := #[.val (.ref b0_), .val (.long (-1 : Int64)), .second, .val (.int (i_ + (1 : Int32))), .val (.int (256 : Int32))]) rfl k) ?_
      refine Ends.go (fun _ k => XS.goto X73.here hx rfl (pc0 := 19) (pc' := 6) rfl (hb hby d6_19) (by decide) (by decide) k) ?_
      have hi1 := own_inc hk hi
      exact ih _ _ _ _ f73 X73 e73 O73 N73 K73 M73 (by omega) (by omega) (by rw [hf73]; exact own_fillstep hi1 hi hg)
  show Ends p e below s s₁ (mkF m 0 #[.val (.ref b0_), .val (.long (-1 : Int64)), .second, .unset, .unset] []) _ _ _
  refine Ends.go (fun _ k => XS.iconst X0.here hx rfl (hb hby d6_0) k) ?_
  refine Ends.go (fun _ k => XS.istoreN X0.here hx rfl (hb hby d6_1) rfl (l' := #[.val (.ref b0_), .val (.long (-1 : Int64)), .second, .val (.int (0 : Int32)), .unset]) rfl k) ?_
  refine Ends.go (fun _ k => XS.aloadN X0.here hx rfl (hb hby d6_2) rfl rfl k) ?_
  obtain ⟨cl74, Ar74, S74, H74⟩ := id M0
  refine Ends.go (X0.arraylength hx (by rw [e0]; exact Ar74.1) (State.isArrayOf_alike hZ.alike Ar74.2.1) (g := (mkF m 3 #[.val (.ref b0_), .val (.long (-1 : Int64)), .second, .val (.int (0 : Int32)), .unset] [(.ref b0_)])) rfl rfl (hb hby d6_3)) ?_
  rw [len_of S74 (by decide : ¬ (256 : Int32) < 0)]
  show Ends p e below s s₁ (mkF m 4 #[.val (.ref b0_), .val (.long (-1 : Int64)), .second, .val (.int (0 : Int32)), .unset] [(.int (256 : Int32))]) _ _ _
  refine Ends.go (fun _ k => XS.istore X0.here hx rfl (hb hby d6_4) rfl (l' := #[.val (.ref b0_), .val (.long (-1 : Int64)), .second, .val (.int (0 : Int32)), .val (.int (256 : Int32))]) rfl k) ?_
  exact J6 256 _ _ _ _ _ X0 e0 O0 N0 K0 M0 (by decide) (by decide) (fun x hx => absurd hx (Nat.not_lt_zero x))
theorem d4_0 : decode prog_46_method_1_code 0 = .ok (.aload_n 0, 1) := by decide +kernel
theorem d4_1 : decode prog_46_method_1_code 1 = .ok (.invokespecial 3, 3) := by decide +kernel
theorem d4_4 : decode prog_46_method_1_code 4 = .ok (.aload_n 0, 1) := by decide +kernel
theorem d4_5 : decode prog_46_method_1_code 5 = .ok (.sipush 256, 3) := by decide +kernel
theorem d4_8 : decode prog_46_method_1_code 8 = .ok (.newarray .long, 2) := by decide +kernel
theorem d4_10 : decode prog_46_method_1_code 10 = .ok (.putfield 9, 3) := by decide +kernel
theorem d4_13 : decode prog_46_method_1_code 13 = .ok (.aload_n 0, 1) := by decide +kernel
theorem d4_14 : decode prog_46_method_1_code 14 = .ok (.getfield 9, 3) := by decide +kernel
theorem d4_17 : decode prog_46_method_1_code 17 = .ok (.ldc2_w 15, 3) := by decide +kernel
theorem d4_20 : decode prog_46_method_1_code 20 = .ok (.invokestatic 17, 3) := by decide +kernel
theorem d4_23 : decode prog_46_method_1_code 23 = .ok (.iconst 0, 1) := by decide +kernel
theorem d4_24 : decode prog_46_method_1_code 24 = .ok (.istore_n 2, 1) := by decide +kernel
theorem d4_25 : decode prog_46_method_1_code 25 = .ok (.iload_n 2, 1) := by decide +kernel
theorem d4_26 : decode prog_46_method_1_code 26 = .ok (.aload_n 1, 1) := by decide +kernel
theorem d4_27 : decode prog_46_method_1_code 27 = .ok (.arraylength, 1) := by decide +kernel
theorem d4_28 : decode prog_46_method_1_code 28 = .ok (.if_icmp .ge 31, 3) := by decide +kernel
theorem d4_31 : decode prog_46_method_1_code 31 = .ok (.aload_n 0, 1) := by decide +kernel
theorem d4_32 : decode prog_46_method_1_code 32 = .ok (.getfield 9, 3) := by decide +kernel
theorem d4_35 : decode prog_46_method_1_code 35 = .ok (.aload_n 1, 1) := by decide +kernel
theorem d4_36 : decode prog_46_method_1_code 36 = .ok (.iload_n 2, 1) := by decide +kernel
theorem d4_37 : decode prog_46_method_1_code 37 = .ok (.baload, 1) := by decide +kernel
theorem d4_38 : decode prog_46_method_1_code 38 = .ok (.sipush 255, 3) := by decide +kernel
theorem d4_41 : decode prog_46_method_1_code 41 = .ok (.iand, 1) := by decide +kernel
theorem d4_42 : decode prog_46_method_1_code 42 = .ok (.dup2, 1) := by decide +kernel
theorem d4_43 : decode prog_46_method_1_code 43 = .ok (.laload, 1) := by decide +kernel
theorem d4_44 : decode prog_46_method_1_code 44 = .ok (.lconst 1, 1) := by decide +kernel
theorem d4_45 : decode prog_46_method_1_code 45 = .ok (.iload_n 2, 1) := by decide +kernel
theorem d4_46 : decode prog_46_method_1_code 46 = .ok (.lshl, 1) := by decide +kernel
theorem d4_47 : decode prog_46_method_1_code 47 = .ok (.ldc2_w 15, 3) := by decide +kernel
theorem d4_50 : decode prog_46_method_1_code 50 = .ok (.lxor, 1) := by decide +kernel
theorem d4_51 : decode prog_46_method_1_code 51 = .ok (.land, 1) := by decide +kernel
theorem d4_52 : decode prog_46_method_1_code 52 = .ok (.lastore, 1) := by decide +kernel
theorem d4_53 : decode prog_46_method_1_code 53 = .ok (.iinc 2 1, 3) := by decide +kernel
theorem d4_56 : decode prog_46_method_1_code 56 = .ok (.goto (-31), 3) := by decide +kernel
theorem d4_59 : decode prog_46_method_1_code 59 = .ok (.aload_n 0, 1) := by decide +kernel
theorem d4_60 : decode prog_46_method_1_code 60 = .ok (.lconst 1, 1) := by decide +kernel
theorem d4_61 : decode prog_46_method_1_code 61 = .ok (.aload_n 1, 1) := by decide +kernel
theorem d4_62 : decode prog_46_method_1_code 62 = .ok (.arraylength, 1) := by decide +kernel
theorem d4_63 : decode prog_46_method_1_code 63 = .ok (.iconst 1, 1) := by decide +kernel
theorem d4_64 : decode prog_46_method_1_code 64 = .ok (.isub, 1) := by decide +kernel
theorem d4_65 : decode prog_46_method_1_code 65 = .ok (.lshl, 1) := by decide +kernel
theorem d4_66 : decode prog_46_method_1_code 66 = .ok (.putfield 23, 3) := by decide +kernel
theorem d4_69 : decode prog_46_method_1_code 69 = .ok (.aload_n 0, 1) := by decide +kernel
theorem d4_70 : decode prog_46_method_1_code 70 = .ok (.aload_n 1, 1) := by decide +kernel
theorem d4_71 : decode prog_46_method_1_code 71 = .ok (.arraylength, 1) := by decide +kernel
theorem d4_72 : decode prog_46_method_1_code 72 = .ok (.iconst 1, 1) := by decide +kernel
theorem d4_73 : decode prog_46_method_1_code 73 = .ok (.isub, 1) := by decide +kernel
theorem d4_74 : decode prog_46_method_1_code 74 = .ok (.putfield 27, 3) := by decide +kernel
theorem d4_77 : decode prog_46_method_1_code 77 = .ok (.return_, 1) := by decide +kernel
theorem pn4 : plainName "com/example/sindano/sindano/boyermoore/ShiftOr" = true := by first | (simp [plainName, overriddenIn]; done) | decide +kernel
theorem pdx_1 : parseMethodDescriptor "([JJ)V" = some ⟨[(.array .long), .long], none⟩ := by decide +kernel
theorem ef4_rr (m : MethodId) (x0 : Addr) (x1 : Addr) : entryFrame m #[(.ref x0), (.ref x1)] 3 = mkF m 0 #[.val (.ref x0), .val (.ref x1), .unset] [] := by first | (simp [entryFrame, mkF, argsToLocals, Value.category]; done) | rfl
set_option maxRecDepth 65536 in
set_option maxHeartbeats 40000000 in
theorem rmI (l : Launch) (Z : State) (a0 : Array Value) (hw : ∀ d ∈ tables_1, d.before a0 Z = true) (ws : List Jvm.Cond) (n0 : Nat) (h0 : Heap) (O0 : Old Z n0 h0)  (o0 x0_ : Addr) (kx_ : ClassId) (a0_ a1_ a2_ : Int32) (g_o0 : n0 ≤ o0) (hxo : x0_ ≠ o0) (E0 : Exa Z h0 o0 "com/example/sindano/sindano/boyermoore/ShiftOr") (Fm : Fld Z h0 o0 "com/example/sindano/sindano/boyermoore/ShiftOr" "missing" "[J" .null) (Fw : Fld Z h0 o0 "com/example/sindano/sindano/boyermoore/ShiftOr" "whole" "J" (.long (0 : Int64))) (Fk : Fld Z h0 o0 "com/example/sindano/sindano/boyermoore/ShiftOr" "back" "I" (.int (0 : Int32))) (Vx : Arv Z h0 x0_ kx_ .byte (3 : Int32) [(.int a0_), (.int a1_), (.int a2_)] (.int (0 : Int32))) (ha0_ : own_isb a0_) (ha1_ : own_isb a1_) (ha2_ : own_isb a2_) :
    Meets1 l (⟨"com/example/sindano/sindano/boyermoore/ShiftOr", "<init>", "([B)V"⟩ : MethodName) prog_46_method_1_code 3 none ws ({ frames := 1, cells := 1, slots := 256, locals := 16 } : Room) #[(.ref o0), (.ref x0_)] Z h0 (fun v h L => ∃ (x : Addr) (f : Nat → Int64), v = none ∧ Fr n0 L ∧ Keep h0 h [o0] ∧ h0.size ≤ x ∧ Fld Z h o0 "com/example/sindano/sindano/boyermoore/ShiftOr" "missing" "[J" (.ref x) ∧ Fld Z h o0 "com/example/sindano/sindano/boyermoore/ShiftOr" "whole" "J" (.long (4 : Int64)) ∧ Fld Z h o0 "com/example/sindano/sindano/boyermoore/ShiftOr" "back" "I" (.int (2 : Int32)) ∧ Lng Z h x f ∧ own_mis f a0_ a1_ a2_) := by
  refine MetFree.of_bodySF (plainFor_of_name pn4) hisR ?_
  intro p e s m args below meth c s₁ Bd hml0 hP hK
  obtain ⟨rfl, hZ, hh⟩ := hP
  have hx := Bd.exec
  have hby := Bd.bytes
  have hml : c.maxLocals = 3 := hml0
  have hown : s.vm.findClass "com/example/sindano/sindano/boyermoore/ShiftOr" = some m.cls := findClass_of_methodNamed Bd.named
  have hnm := (name_of_methodNamed Bd.named Bd.method).1
  have X0 : Stand p l e ({ frames := 1, cells := 1, slots := 256, locals := 16 } : Room) s m #[(.ref o0), (.ref x0_)] below meth c s₁ [] 0 0 := Stand.of_body Bd
  have e0 : s₁.heap = h0 := by rw [← hh, Bd.state]; rfl
  have N0 := Fr.nil n0
  have Z0 := own_old_le O0
  show Ends p e below s s₁ (entryFrame m #[(.ref o0), (.ref x0_)] 3) ({ frames := 1, cells := 1, slots := 256, locals := 16 } : Room).cells ({ frames := 1, cells := 1, slots := 256, locals := 16 } : Room).slots (fun v h L => ∃ (x : Addr) (f : Nat → Int64), v = none ∧ Fr n0 L ∧ Keep h0 h [o0] ∧ h0.size ≤ x ∧ Fld Z h o0 "com/example/sindano/sindano/boyermoore/ShiftOr" "missing" "[J" (.ref x) ∧ Fld Z h o0 "com/example/sindano/sindano/boyermoore/ShiftOr" "whole" "J" (.long (4 : Int64)) ∧ Fld Z h o0 "com/example/sindano/sindano/boyermoore/ShiftOr" "back" "I" (.int (2 : Int32)) ∧ Lng Z h x f ∧ own_mis f a0_ a1_ a2_)
  refine Ends.go (fun _ k => castTop (ef4_rr m o0 x0_) k) ?_
  have K0 := Keep.refl h0 [o0]
  refine Ends.go (fun _ k => XS.aloadN X0.here hx rfl (hb hby d4_0) rfl rfl k) ?_
  obtain ⟨T75, X75, e75, st75⟩ := initO X0 hx hZ hown (ow hw 19 rfl) (ow hw 20 rfl) (ow hw 21 rfl) e0 (g := (mkF m 1 #[.val (.ref o0), .val (.ref x0_), .unset] [(.ref o0)])) rfl (by rw [hml]; rfl) rfl (hb hby d4_1) (by decide) (W := 0) (by show 2 * 0 + _ ≤ _; exact Nat.le_of_eq rfl) (by decide)
  refine Ends.go st75 ?_
  refine Ends.go (fun _ k => XS.aloadN X75.here hx rfl (hb hby d4_4) rfl rfl k) ?_
  show Ends p e below s T75 (mkF m 5 #[.val (.ref o0), .val (.ref x0_), .unset] [(.ref o0)]) _ _ _
  refine Ends.go (fun _ k => XS.sipush X75.here hx rfl (hb hby d4_5) k) ?_
  obtain ⟨T76, h76, k76, X76, e76, E76, A76, st76⟩ := newP X75 hx hZ (ow hw 22 rfl) e75 (g := (mkF m 8 #[.val (.ref o0), .val (.ref x0_), .unset] [(.int (256 : Int32)), (.ref o0)])) rfl (hb hby d4_8) rfl (by decide) (cap := 256) (by decide) (by decide) (by decide) (by decide)
  obtain ⟨b76, g76⟩ : ∃ z, z = h0.size := ⟨_, rfl⟩
  rw [← g76] at A76 st76
  refine Ends.go st76 ?_
  have g_b76 : n0 ≤ b76 := Nat.le_trans (own_old_le O0) (Nat.le_of_eq g76.symm)
  have sz_b76 : h0.size ≤ b76 := Nat.le_trans K0.1 (Nat.le_of_eq g76.symm)
  have K76 := K0.ext E76
  have O76 := O0.ext E76
  have M_b76 : Lng Z h76 b76 (fun _ => (0 : Int64)) := Lng.new A76
  obtain ⟨T77, h77, X77, e77, W77, st77⟩ := putF X76 hx hZ hown (host := "") (Or.inl (ow hw 23 rfl)) Via.refl e76 (Fm.ext E76) (E0.ext E76) (Or.inr ⟨(ow hw 24 rfl), rfl, hnm⟩) (ow hw 14 rfl) (ty := (.array .long)) (by decide) rfl rfl (g := (mkF m 10 #[.val (.ref o0), .val (.ref x0_), .unset] [(.ref b76), (.ref o0)])) rfl rfl (hb hby d4_10)
  refine Ends.go st77 ?_
  have Fw77 := (Fm.ext E76).same W77
  have K77 := K76.wr W77 (Or.inl (List.mem_of_getElem? (i := 0) rfl))
  have O77 := O76.wr W77 g_o0
  have N77 := Fr.snoc X77 N0 g_o0
  refine Ends.go (fun _ k => XS.aloadN X77.here hx rfl (hb hby d4_13) rfl rfl k) ?_
  show Ends p e below s T77 (mkF m 14 #[.val (.ref o0), .val (.ref x0_), .unset] [(.ref o0)]) _ _ _
  obtain ⟨T78, X78, e78, st78⟩ := getF X77 hx hZ hown (host := "") (Or.inl (ow hw 23 rfl)) Via.refl e77 Fw77 (g := (mkF m 14 #[.val (.ref o0), .val (.ref x0_), .unset] [(.ref o0)])) rfl rfl (hb hby d4_14)
  refine Ends.go st78 ?_
  refine Ends.go (X78.ldc2Long hx hown (mvT hZ (ow hw 25 rfl)) (g := (mkF m 17 #[.val (.ref o0), .val (.ref x0_), .unset] [(.ref b76)])) rfl (hb hby d4_17)) ?_
  have ne_o0_b76 : o0 ≠ b76 := Nat.ne_of_lt (Nat.lt_of_lt_of_le E0.lt (Nat.le_of_eq g76.symm))
  obtain ⟨_, _, ⟨T79, L79, k79, n79⟩, -, X79, ⟨Lc79, hQ79, l79, y79, z79⟩, st79⟩ := Jvm.LawKit.callS X78 hx (y := (⟨"java/util/Arrays", "fill", "([JJ)V"⟩ : MethodName)) hown (mvT hZ (ow hw 26 rfl)) (mvT hZ (ow hw 27 rfl)) (mvT hZ (ow hw 28 rfl)) (mvT hZ (ow hw 29 rfl)) (by decide) (own_backOf (W := 0) (rmF l Z a0 hw [] n0 h77 O77 b76 (fun _ => (0 : Int64)) g_b76 (M_b76.other W77 (Ne.symm ne_o0_b76))) hZ (ow hw 29 rfl) (ow hw 28 rfl) (by decide) (by decide)) (g := (mkF m 20 #[.val (.ref o0), .val (.ref x0_), .unset] [(.long (-1 : Int64)), (.ref b76)])) rfl (by rw [hml]; rfl) (argsL := [(.ref b76), (.long (-1 : Int64))]) (rest := []) (lenOf pdx_1 rfl) rfl (by show 2 * 0 + _ ≤ _; exact Nat.le_of_eq rfl) (hb hby d4_20) (fun _ _ => ⟨rfl, e78, (by decide : 1 + 0 ≤ _), (by decide : 256 + 0 ≤ _)⟩)
  dsimp only [Pt.U, Pt.locs, Pt.cells, Pt.slots] at X79 l79 y79 z79 st79 hQ79
  subst l79 y79 z79
  obtain ⟨g79, rfl, N79q, K79c, M79, hg79⟩ := hQ79
  have N79 := Fr.app N77 N79q
  refine Ends.go st79 ?_
  obtain ⟨h79, e79⟩ : ∃ z, T79.heap = z := ⟨_, rfl⟩
  rw [e79] at K79c M79
  have K79 := K77.trans K79c (allS (Or.inr sz_b76) all0)
  have O79 := O77.keep K79c (allS g_b76 all0)
  refine Ends.go (fun _ k => XS.iconst X79.here hx rfl (hb hby d4_23) k) ?_
  show Ends p e below s T79 (mkF m 24 #[.val (.ref o0), .val (.ref x0_), .unset] [(.int (0 : Int32))]) _ _ _
  refine Ends.go (fun _ k => XS.istoreN X79.here hx rfl (hb hby d4_24) rfl (l' := #[.val (.ref o0), .val (.ref x0_), .val (.int (0 : Int32))]) rfl k) ?_
  refine Ends.go (fun _ k => XS.iloadN X79.here hx rfl (hb hby d4_25) rfl k) ?_
  refine Ends.go (fun _ k => XS.aloadN X79.here hx rfl (hb hby d4_26) rfl rfl k) ?_
  have ne_x0__b76 : x0_ ≠ b76 := Nat.ne_of_lt (Nat.lt_of_lt_of_le Vx.lt (Nat.le_of_eq g76.symm))
  obtain ⟨cl80, Ar80, q80, S80, M80, H80, G80⟩ := id (((Vx.ext E76).other W77 hxo).keep K79c (ninS ne_x0__b76 nin0))
  refine Ends.go (X79.arraylength hx (by rw [e79]; exact Ar80.1) (State.isArrayOf_alike hZ.alike Ar80.2.1) (g := (mkF m 27 #[.val (.ref o0), .val (.ref x0_), .val (.int (0 : Int32))] [(.ref x0_), (.int (0 : Int32))])) rfl rfl (hb hby d4_27)) ?_
  rw [len_of S80 M80]
  show Ends p e below s T79 (mkF m 28 #[.val (.ref o0), .val (.ref x0_), .val (.int (0 : Int32))] [(.int (3 : Int32)), (.int (0 : Int32))]) _ _ _
  refine Ends.go (fun _ k => XS.icmpNo X79.here hx rfl (hb hby d4_28) rfl (tlt (by decide : (0 : Int32) < (3 : Int32))).2.1 k) ?_
  refine Ends.go (fun _ k => XS.aloadN X79.here hx rfl (hb hby d4_31) rfl rfl k) ?_
  obtain ⟨T81, X81, e81, st81⟩ := getF X79 hx hZ hown (host := "") (Or.inl (ow hw 23 rfl)) Via.refl e79 (Fw77.keep K79c (ninS ne_o0_b76 nin0)) (g := (mkF m 32 #[.val (.ref o0), .val (.ref x0_), .val (.int (0 : Int32))] [(.ref o0)])) rfl rfl (hb hby d4_32)
  refine Ends.go st81 ?_
  refine Ends.go (fun _ k => XS.aloadN X81.here hx rfl (hb hby d4_35) rfl rfl k) ?_
  show Ends p e below s T81 (mkF m 36 #[.val (.ref o0), .val (.ref x0_), .val (.int (0 : Int32))] [(.ref x0_), (.ref b76)]) _ _ _
  refine Ends.go (fun _ k => XS.iloadN X81.here hx rfl (hb hby d4_36) rfl k) ?_
  obtain ⟨cl82, Ar82, q82, S82, M82, H82, G82⟩ := id (((Vx.ext E76).other W77 hxo).keep K79c (ninS ne_x0__b76 nin0))
  have hin82 := inb_of (j := (0 : Int32)) S82 ⟨by decide, by decide⟩
  refine Ends.go (X81.baloadBytes hx (j := (0 : Int32)) (v := (.int a0_)) (by rw [e81]; exact Ar82.1) (State.isArrayOf_alike hZ.alike Ar82.2.1) Ar82.2.2 hin82 (H82.at hin82 rfl) (g := (mkF m 37 #[.val (.ref o0), .val (.ref x0_), .val (.int (0 : Int32))] [(.int (0 : Int32)), (.ref x0_), (.ref b76)])) rfl rfl (hb hby d4_37)) ?_
  refine Ends.go (fun _ k => XS.sipush X81.here hx rfl (hb hby d4_38) k) ?_
  refine Ends.go (fun _ k => XS.iand X81.here hx rfl (hb hby d4_41) rfl k) ?_
  show Ends p e below s T81 (mkF m 42 #[.val (.ref o0), .val (.ref x0_), .val (.int (0 : Int32))] [(.int (a0_ &&& (255 : Int32))), (.ref b76)]) _ _ _
  refine Ends.go (fun _ k => XT.dup2 X81.here hx rfl (hb hby d4_42) rfl rfl rfl k) ?_
  obtain ⟨cl83, Ar83, S83, H83⟩ := id M79
  have hin83 := inb_of (j := (a0_ &&& (255 : Int32))) S83 (own_in255 a0_)
  refine Ends.go (X81.laload hx (j := (a0_ &&& (255 : Int32))) (v := (.long (g79 ((a0_ &&& (255 : Int32)).toNatClampNeg)))) (by rw [e81]; exact Ar83.1) (State.isArrayOf_alike hZ.alike Ar83.2.1) Ar83.2.2 hin83 (H83 _ (Nat.lt_of_not_le fun y => hin83 (Or.inr y))) (g := (mkF m 43 #[.val (.ref o0), .val (.ref x0_), .val (.int (0 : Int32))] [(.int (a0_ &&& (255 : Int32))), (.ref b76), (.int (a0_ &&& (255 : Int32))), (.ref b76)])) rfl rfl (hb hby d4_43)) ?_
  refine Ends.go (fun _ k => XS.lconst X81.here hx rfl (hb hby d4_44) k) ?_
  refine Ends.go (fun _ k => XS.iloadN X81.here hx rfl (hb hby d4_45) rfl k) ?_
  show Ends p e below s T81 (mkF m 46 #[.val (.ref o0), .val (.ref x0_), .val (.int (0 : Int32))] [(.int (0 : Int32)), (.long (1 : Int64)), (.long (g79 ((a0_ &&& (255 : Int32)).toNatClampNeg))), (.int (a0_ &&& (255 : Int32))), (.ref b76)]) _ _ _
  refine Ends.go (fun _ k => XS.lshl X81.here hx rfl (hb hby d4_46) rfl k) ?_
  refine Ends.go (X81.ldc2Long hx hown (mvT hZ (ow hw 25 rfl)) (g := (mkF m 47 #[.val (.ref o0), .val (.ref x0_), .val (.int (0 : Int32))] [(.long (1 : Int64)), (.long (g79 ((a0_ &&& (255 : Int32)).toNatClampNeg))), (.int (a0_ &&& (255 : Int32))), (.ref b76)])) rfl (hb hby d4_47)) ?_
  refine Ends.go (fun _ k => XS.lxor X81.here hx rfl (hb hby d4_50) rfl k) ?_
  refine Ends.go (fun _ k => XS.land X81.here hx rfl (hb hby d4_51) rfl k) ?_
  show Ends p e below s T81 (mkF m 52 #[.val (.ref o0), .val (.ref x0_), .val (.int (0 : Int32))] [(.long ((g79 ((a0_ &&& (255 : Int32)).toNatClampNeg)) &&& (-2 : Int64))), (.int (a0_ &&& (255 : Int32))), (.ref b76)]) _ _ _
  obtain ⟨cl84, Ar84, S84, H84⟩ := id M79
  have hin84 := inb_of (j := (a0_ &&& (255 : Int32))) S84 (own_in255 a0_)
  obtain ⟨T84, h84, X84, e84, W84, st84⟩ := stJ X81 hx hZ e81 Ar84 (j := (a0_ &&& (255 : Int32))) hin84 (g := (mkF m 52 #[.val (.ref o0), .val (.ref x0_), .val (.int (0 : Int32))] [(.long ((g79 ((a0_ &&& (255 : Int32)).toNatClampNeg)) &&& (-2 : Int64))), (.int (a0_ &&& (255 : Int32))), (.ref b76)])) rfl rfl (hb hby d4_52)
  refine Ends.go st84 ?_
  obtain ⟨f84, hf84⟩ : ∃ f : Nat → Int64, f = (fun i => if i = ((a0_ &&& (255 : Int32))).toNatClampNeg then ((g79 ((a0_ &&& (255 : Int32)).toNatClampNeg)) &&& (-2 : Int64)) else g79 i) := ⟨_, rfl⟩
  have M84 : Lng Z h84 b76 f84 := by rw [hf84]; exact Lng.set Ar84 S84 H84 W84
  have K84 := K79.wr W84 (Or.inr sz_b76)
  have O84 := O79.wr W84 g_b76
  have N84 := Fr.snoc X84 N79 g_b76
  refine Ends.go (fun _ k => XS.iinc X84.here hx rfl (hb hby d4_53) rfl (l' := #[.val (.ref o0), .val (.ref x0_), .val (.int (1 : Int32))]) rfl k) ?_
  refine Ends.go (fun _ k => XS.goto X84.here hx rfl (pc0 := 56) (pc' := 25) rfl (hb hby d4_56) (by decide) (by decide) k) ?_
  refine Ends.go (fun _ k => XS.iloadN X84.here hx rfl (hb hby d4_25) rfl k) ?_
  show Ends p e below s T84 (mkF m 26 #[.val (.ref o0), .val (.ref x0_), .val (.int (1 : Int32))] [(.int (1 : Int32))]) _ _ _
  refine Ends.go (fun _ k => XS.aloadN X84.here hx rfl (hb hby d4_26) rfl rfl k) ?_
  obtain ⟨cl85, Ar85, q85, S85, M85, H85, G85⟩ := id ((((Vx.ext E76).other W77 hxo).keep K79c (ninS ne_x0__b76 nin0)).other W84 ne_x0__b76)
  refine Ends.go (X84.arraylength hx (by rw [e84]; exact Ar85.1) (State.isArrayOf_alike hZ.alike Ar85.2.1) (g := (mkF m 27 #[.val (.ref o0), .val (.ref x0_), .val (.int (1 : Int32))] [(.ref x0_), (.int (1 : Int32))])) rfl rfl (hb hby d4_27)) ?_
  rw [len_of S85 M85]
  refine Ends.go (fun _ k => XS.icmpNo X84.here hx rfl (hb hby d4_28) rfl (tlt (by decide : (1 : Int32) < (3 : Int32))).2.1 k) ?_
  refine Ends.go (fun _ k => XS.aloadN X84.here hx rfl (hb hby d4_31) rfl rfl k) ?_
  show Ends p e below s T84 (mkF m 32 #[.val (.ref o0), .val (.ref x0_), .val (.int (1 : Int32))] [(.ref o0)]) _ _ _
  obtain ⟨T86, X86, e86, st86⟩ := getF X84 hx hZ hown (host := "") (Or.inl (ow hw 23 rfl)) Via.refl e84 ((Fw77.keep K79c (ninS ne_o0_b76 nin0)).other W84 (Or.inl ne_o0_b76)) (g := (mkF m 32 #[.val (.ref o0), .val (.ref x0_), .val (.int (1 : Int32))] [(.ref o0)])) rfl rfl (hb hby d4_32)
  refine Ends.go st86 ?_
  refine Ends.go (fun _ k => XS.aloadN X86.here hx rfl (hb hby d4_35) rfl rfl k) ?_
  refine Ends.go (fun _ k => XS.iloadN X86.here hx rfl (hb hby d4_36) rfl k) ?_
  obtain ⟨cl87, Ar87, q87, S87, M87, H87, G87⟩ := id ((((Vx.ext E76).other W77 hxo).keep K79c (ninS ne_x0__b76 nin0)).other W84 ne_x0__b76)
  have hin87 := inb_of (j := (1 : Int32)) S87 ⟨by decide, by decide⟩
  refine Ends.go (X86.baloadBytes hx (j := (1 : Int32)) (v := (.int a1_)) (by rw [e86]; exact Ar87.1) (State.isArrayOf_alike hZ.alike Ar87.2.1) Ar87.2.2 hin87 (H87.at hin87 rfl) (g := (mkF m 37 #[.val (.ref o0), .val (.ref x0_), .val (.int (1 : Int32))] [(.int (1 : Int32)), (.ref x0_), (.ref b76)])) rfl rfl (hb hby d4_37)) ?_
  show Ends p e below s T86 (mkF m 38 #[.val (.ref o0), .val (.ref x0_), .val (.int (1 : Int32))] [(.int a1_), (.ref b76)]) _ _ _
  refine Ends.go (fun _ k => XS.sipush X86.here hx rfl (hb hby d4_38) k) ?_
  refine Ends.go (fun _ k => XS.iand X86.here hx rfl (hb hby d4_41) rfl k) ?_
  refine Ends.go (fun _ k => XT.dup2 X86.here hx rfl (hb hby d4_42) rfl rfl rfl k) ?_
  obtain ⟨cl88, Ar88, S88, H88⟩ := id M84
  have hin88 := inb_of (j := (a1_ &&& (255 : Int32))) S88 (own_in255 a1_)
  refine Ends.go (X86.laload hx (j := (a1_ &&& (255 : Int32))) (v := (.long (f84 ((a1_ &&& (255 : Int32)).toNatClampNeg)))) (by rw [e86]; exact Ar88.1) (State.isArrayOf_alike hZ.alike Ar88.2.1) Ar88.2.2 hin88 (H88 _ (Nat.lt_of_not_le fun y => hin88 (Or.inr y))) (g := (mkF m 43 #[.val (.ref o0), .val (.ref x0_), .val (.int (1 : Int32))] [(.int (a1_ &&& (255 : Int32))), (.ref b76), (.int (a1_ &&& (255 : Int32))), (.ref b76)])) rfl rfl (hb hby d4_43)) ?_
  show Ends p e below s T86 (mkF m 44 #[.val (.ref o0), .val (.ref x0_), .val (.int (1 : Int32))] [(.long (f84 ((a1_ &&& (255 : Int32)).toNatClampNeg))), (.int (a1_ &&& (255 : Int32))), (.ref b76)]) _ _ _
  refine Ends.go (fun _ k => XS.lconst X86.here hx rfl (hb hby d4_44) k) ?_
  refine Ends.go (fun _ k => XS.iloadN X86.here hx rfl (hb hby d4_45) rfl k) ?_
  refine Ends.go (fun _ k => XS.lshl X86.here hx rfl (hb hby d4_46) rfl k) ?_
  refine Ends.go (X86.ldc2Long hx hown (mvT hZ (ow hw 25 rfl)) (g := (mkF m 47 #[.val (.ref o0), .val (.ref x0_), .val (.int (1 : Int32))] [(.long (2 : Int64)), (.long (f84 ((a1_ &&& (255 : Int32)).toNatClampNeg))), (.int (a1_ &&& (255 : Int32))), (.ref b76)])) rfl (hb hby d4_47)) ?_
  show Ends p e below s T86 (mkF m 50 #[.val (.ref o0), .val (.ref x0_), .val (.int (1 : Int32))] [(.long (-1 : Int64)), (.long (2 : Int64)), (.long (f84 ((a1_ &&& (255 : Int32)).toNatClampNeg))), (.int (a1_ &&& (255 : Int32))), (.ref b76)]) _ _ _
  refine Ends.go (fun _ k => XS.lxor X86.here hx rfl (hb hby d4_50) rfl k) ?_
  refine Ends.go (fun _ k => XS.land X86.here hx rfl (hb hby d4_51) rfl k) ?_
  obtain ⟨cl89, Ar89, S89, H89⟩ := id M84
  have hin89 := inb_of (j := (a1_ &&& (255 : Int32))) S89 (own_in255 a1_)
  obtain ⟨T89, h89, X89, e89, W89, st89⟩ := stJ X86 hx hZ e86 Ar89 (j := (a1_ &&& (255 : Int32))) hin89 (g := (mkF m 52 #[.val (.ref o0), .val (.ref x0_), .val (.int (1 : Int32))] [(.long ((f84 ((a1_ &&& (255 : Int32)).toNatClampNeg)) &&& (-3 : Int64))), (.int (a1_ &&& (255 : Int32))), (.ref b76)])) rfl rfl (hb hby d4_52)
  refine Ends.go st89 ?_
  obtain ⟨f89, hf89⟩ : ∃ f : Nat → Int64, f = (fun i => if i = ((a1_ &&& (255 : Int32))).toNatClampNeg then ((f84 ((a1_ &&& (255 : Int32)).toNatClampNeg)) &&& (-3 : Int64)) else f84 i) := ⟨_, rfl⟩
  have M89 : Lng Z h89 b76 f89 := by rw [hf89]; exact Lng.set Ar89 S89 H89 W89
  have K89 := K84.wr W89 (Or.inr sz_b76)
  have O89 := O84.wr W89 g_b76
  have N89 := Fr.snoc X89 N84 g_b76
  refine Ends.go (fun _ k => XS.iinc X89.here hx rfl (hb hby d4_53) rfl (l' := #[.val (.ref o0), .val (.ref x0_), .val (.int (2 : Int32))]) rfl k) ?_
  show Ends p e below s T89 (mkF m 56 #[.val (.ref o0), .val (.ref x0_), .val (.int (2 : Int32))] []) _ _ _
  refine Ends.go (fun _ k => XS.goto X89.here hx rfl (pc0 := 56) (pc' := 25) rfl (hb hby d4_56) (by decide) (by decide) k) ?_
  refine Ends.go (fun _ k => XS.iloadN X89.here hx rfl (hb hby d4_25) rfl k) ?_
  refine Ends.go (fun _ k => XS.aloadN X89.here hx rfl (hb hby d4_26) rfl rfl k) ?_
  obtain ⟨cl90, Ar90, q90, S90, M90, H90, G90⟩ := id (((((Vx.ext E76).other W77 hxo).keep K79c (ninS ne_x0__b76 nin0)).other W84 ne_x0__b76).other W89 ne_x0__b76)
  refine Ends.go (X89.arraylength hx (by rw [e89]; exact Ar90.1) (State.isArrayOf_alike hZ.alike Ar90.2.1) (g := (mkF m 27 #[.val (.ref o0), .val (.ref x0_), .val (.int (2 : Int32))] [(.ref x0_), (.int (2 : Int32))])) rfl rfl (hb hby d4_27)) ?_
  rw [len_of S90 M90]
  show Ends p e below s T89 (mkF m 28 #[.val (.ref o0), .val (.ref x0_), .val (.int (2 : Int32))] [(.int (3 : Int32)), (.int (2 : Int32))]) _ _ _
  refine Ends.go (fun _ k => XS.icmpNo X89.here hx rfl (hb hby d4_28) rfl (tlt (by decide : (2 : Int32) < (3 : Int32))).2.1 k) ?_
  refine Ends.go (fun _ k => XS.aloadN X89.here hx rfl (hb hby d4_31) rfl rfl k) ?_
  obtain ⟨T91, X91, e91, st91⟩ := getF X89 hx hZ hown (host := "") (Or.inl (ow hw 23 rfl)) Via.refl e89 (((Fw77.keep K79c (ninS ne_o0_b76 nin0)).other W84 (Or.inl ne_o0_b76)).other W89 (Or.inl ne_o0_b76)) (g := (mkF m 32 #[.val (.ref o0), .val (.ref x0_), .val (.int (2 : Int32))] [(.ref o0)])) rfl rfl (hb hby d4_32)
  refine Ends.go st91 ?_
  refine Ends.go (fun _ k => XS.aloadN X91.here hx rfl (hb hby d4_35) rfl rfl k) ?_
  show Ends p e below s T91 (mkF m 36 #[.val (.ref o0), .val (.ref x0_), .val (.int (2 : Int32))] [(.ref x0_), (.ref b76)]) _ _ _
  refine Ends.go (fun _ k => XS.iloadN X91.here hx rfl (hb hby d4_36) rfl k) ?_
  obtain ⟨cl92, Ar92, q92, S92, M92, H92, G92⟩ := id (((((Vx.ext E76).other W77 hxo).keep K79c (ninS ne_x0__b76 nin0)).other W84 ne_x0__b76).other W89 ne_x0__b76)
  have hin92 := inb_of (j := (2 : Int32)) S92 ⟨by decide, by decide⟩
  refine Ends.go (X91.baloadBytes hx (j := (2 : Int32)) (v := (.int a2_)) (by rw [e91]; exact Ar92.1) (State.isArrayOf_alike hZ.alike Ar92.2.1) Ar92.2.2 hin92 (H92.at hin92 rfl) (g := (mkF m 37 #[.val (.ref o0), .val (.ref x0_), .val (.int (2 : Int32))] [(.int (2 : Int32)), (.ref x0_), (.ref b76)])) rfl rfl (hb hby d4_37)) ?_
  refine Ends.go (fun _ k => XS.sipush X91.here hx rfl (hb hby d4_38) k) ?_
  refine Ends.go (fun _ k => XS.iand X91.here hx rfl (hb hby d4_41) rfl k) ?_
  show Ends p e below s T91 (mkF m 42 #[.val (.ref o0), .val (.ref x0_), .val (.int (2 : Int32))] [(.int (a2_ &&& (255 : Int32))), (.ref b76)]) _ _ _
  refine Ends.go (fun _ k => XT.dup2 X91.here hx rfl (hb hby d4_42) rfl rfl rfl k) ?_
  obtain ⟨cl93, Ar93, S93, H93⟩ := id M89
  have hin93 := inb_of (j := (a2_ &&& (255 : Int32))) S93 (own_in255 a2_)
  refine Ends.go (X91.laload hx (j := (a2_ &&& (255 : Int32))) (v := (.long (f89 ((a2_ &&& (255 : Int32)).toNatClampNeg)))) (by rw [e91]; exact Ar93.1) (State.isArrayOf_alike hZ.alike Ar93.2.1) Ar93.2.2 hin93 (H93 _ (Nat.lt_of_not_le fun y => hin93 (Or.inr y))) (g := (mkF m 43 #[.val (.ref o0), .val (.ref x0_), .val (.int (2 : Int32))] [(.int (a2_ &&& (255 : Int32))), (.ref b76), (.int (a2_ &&& (255 : Int32))), (.ref b76)])) rfl rfl (hb hby d4_43)) ?_
  refine Ends.go (fun _ k => XS.lconst X91.here hx rfl (hb hby d4_44) k) ?_
  refine Ends.go (fun _ k => XS.iloadN X91.here hx rfl (hb hby d4_45) rfl k) ?_
  show Ends p e below s T91 (mkF m 46 #[.val (.ref o0), .val (.ref x0_), .val (.int (2 : Int32))] [(.int (2 : Int32)), (.long (1 : Int64)), (.long (f89 ((a2_ &&& (255 : Int32)).toNatClampNeg))), (.int (a2_ &&& (255 : Int32))), (.ref b76)]) _ _ _
  refine Ends.go (fun _ k => XS.lshl X91.here hx rfl (hb hby d4_46) rfl k) ?_
  refine Ends.go (X91.ldc2Long hx hown (mvT hZ (ow hw 25 rfl)) (g := (mkF m 47 #[.val (.ref o0), .val (.ref x0_), .val (.int (2 : Int32))] [(.long (4 : Int64)), (.long (f89 ((a2_ &&& (255 : Int32)).toNatClampNeg))), (.int (a2_ &&& (255 : Int32))), (.ref b76)])) rfl (hb hby d4_47)) ?_
  refine Ends.go (fun _ k => XS.lxor X91.here hx rfl (hb hby d4_50) rfl k) ?_
  refine Ends.go (fun _ k => XS.land X91.here hx rfl (hb hby d4_51) rfl k) ?_
  show Ends p e below s T91 (mkF m 52 #[.val (.ref o0), .val (.ref x0_), .val (.int (2 : Int32))] [(.long ((f89 ((a2_ &&& (255 : Int32)).toNatClampNeg)) &&& (-5 : Int64))), (.int (a2_ &&& (255 : Int32))), (.ref b76)]) _ _ _
  obtain ⟨cl94, Ar94, S94, H94⟩ := id M89
  have hin94 := inb_of (j := (a2_ &&& (255 : Int32))) S94 (own_in255 a2_)
  obtain ⟨T94, h94, X94, e94, W94, st94⟩ := stJ X91 hx hZ e91 Ar94 (j := (a2_ &&& (255 : Int32))) hin94 (g := (mkF m 52 #[.val (.ref o0), .val (.ref x0_), .val (.int (2 : Int32))] [(.long ((f89 ((a2_ &&& (255 : Int32)).toNatClampNeg)) &&& (-5 : Int64))), (.int (a2_ &&& (255 : Int32))), (.ref b76)])) rfl rfl (hb hby d4_52)
  refine Ends.go st94 ?_
  obtain ⟨f94, hf94⟩ : ∃ f : Nat → Int64, f = (fun i => if i = ((a2_ &&& (255 : Int32))).toNatClampNeg then ((f89 ((a2_ &&& (255 : Int32)).toNatClampNeg)) &&& (-5 : Int64)) else f89 i) := ⟨_, rfl⟩
  have M94 : Lng Z h94 b76 f94 := by rw [hf94]; exact Lng.set Ar94 S94 H94 W94
  have K94 := K89.wr W94 (Or.inr sz_b76)
  have O94 := O89.wr W94 g_b76
  have N94 := Fr.snoc X94 N89 g_b76
  refine Ends.go (fun _ k => XS.iinc X94.here hx rfl (hb hby d4_53) rfl (l' := #[.val (.ref o0), .val (.ref x0_), .val (.int (3 : Int32))]) rfl k) ?_
  refine Ends.go (fun _ k => XS.goto X94.here hx rfl (pc0 := 56) (pc' := 25) rfl (hb hby d4_56) (by decide) (by decide) k) ?_
  refine Ends.go (fun _ k => XS.iloadN X94.here hx rfl (hb hby d4_25) rfl k) ?_
  show Ends p e below s T94 (mkF m 26 #[.val (.ref o0), .val (.ref x0_), .val (.int (3 : Int32))] [(.int (3 : Int32))]) _ _ _
  refine Ends.go (fun _ k => XS.aloadN X94.here hx rfl (hb hby d4_26) rfl rfl k) ?_
  obtain ⟨cl95, Ar95, q95, S95, M95, H95, G95⟩ := id ((((((Vx.ext E76).other W77 hxo).keep K79c (ninS ne_x0__b76 nin0)).other W84 ne_x0__b76).other W89 ne_x0__b76).other W94 ne_x0__b76)
  refine Ends.go (X94.arraylength hx (by rw [e94]; exact Ar95.1) (State.isArrayOf_alike hZ.alike Ar95.2.1) (g := (mkF m 27 #[.val (.ref o0), .val (.ref x0_), .val (.int (3 : Int32))] [(.ref x0_), (.int (3 : Int32))])) rfl rfl (hb hby d4_27)) ?_
  rw [len_of S95 M95]
  refine Ends.go (fun _ k => XS.icmpYes X94.here hx rfl (pc0 := 28) (pc' := 59) rfl (hb hby d4_28) rfl (flt (by decide : ¬ ((3 : Int32) < (3 : Int32)))).2.1 (by decide) (by decide) k) ?_
  refine Ends.go (fun _ k => XS.aloadN X94.here hx rfl (hb hby d4_59) rfl rfl k) ?_
  show Ends p e below s T94 (mkF m 60 #[.val (.ref o0), .val (.ref x0_), .val (.int (3 : Int32))] [(.ref o0)]) _ _ _
  refine Ends.go (fun _ k => XS.lconst X94.here hx rfl (hb hby d4_60) k) ?_
  refine Ends.go (fun _ k => XS.aloadN X94.here hx rfl (hb hby d4_61) rfl rfl k) ?_
  obtain ⟨cl96, Ar96, q96, S96, M96, H96, G96⟩ := id ((((((Vx.ext E76).other W77 hxo).keep K79c (ninS ne_x0__b76 nin0)).other W84 ne_x0__b76).other W89 ne_x0__b76).other W94 ne_x0__b76)
  refine Ends.go (X94.arraylength hx (by rw [e94]; exact Ar96.1) (State.isArrayOf_alike hZ.alike Ar96.2.1) (g := (mkF m 62 #[.val (.ref o0), .val (.ref x0_), .val (.int (3 : Int32))] [(.ref x0_), (.long (1 : Int64)), (.ref o0)])) rfl rfl (hb hby d4_62)) ?_
  rw [len_of S96 M96]
  refine Ends.go (fun _ k => XS.iconst X94.here hx rfl (hb hby d4_63) k) ?_
  show Ends p e below s T94 (mkF m 64 #[.val (.ref o0), .val (.ref x0_), .val (.int (3 : Int32))] [(.int (1 : Int32)), (.int (3 : Int32)), (.long (1 : Int64)), (.ref o0)]) _ _ _
  refine Ends.go (fun _ k => XS.isub X94.here hx rfl (hb hby d4_64) rfl k) ?_
  refine Ends.go (fun _ k => XS.lshl X94.here hx rfl (hb hby d4_65) rfl k) ?_
  obtain ⟨T97, h97, X97, e97, W97, st97⟩ := putF X94 hx hZ hown (host := "") (Or.inl (ow hw 30 rfl)) Via.refl e94 ((((((Fw.ext E76).other W77 (Or.inr (slot_ne (Or.inr (ow hw 31 rfl)) (Or.inr (ow hw 24 rfl)) (by decide) (t := .long) (t' := (.array .long)) (by decide) (by decide)))).keep K79c (ninS ne_o0_b76 nin0)).other W84 (Or.inl ne_o0_b76)).other W89 (Or.inl ne_o0_b76)).other W94 (Or.inl ne_o0_b76)) ((((((E0.ext E76).wr W77).keep K79c).wr W84).wr W89).wr W94) (Or.inr ⟨(ow hw 31 rfl), rfl, hnm⟩) (ow hw 14 rfl) (ty := .long) (by decide) rfl rfl (g := (mkF m 66 #[.val (.ref o0), .val (.ref x0_), .val (.int (3 : Int32))] [(.long (4 : Int64)), (.ref o0)])) rfl rfl (hb hby d4_66)
  refine Ends.go st97 ?_
  have Fw97 := ((((((Fw.ext E76).other W77 (Or.inr (slot_ne (Or.inr (ow hw 31 rfl)) (Or.inr (ow hw 24 rfl)) (by decide) (t := .long) (t' := (.array .long)) (by decide) (by decide)))).keep K79c (ninS ne_o0_b76 nin0)).other W84 (Or.inl ne_o0_b76)).other W89 (Or.inl ne_o0_b76)).other W94 (Or.inl ne_o0_b76)).same W97
  have K97 := K94.wr W97 (Or.inl (List.mem_of_getElem? (i := 0) rfl))
  have O97 := O94.wr W97 g_o0
  have N97 := Fr.snoc X97 N94 g_o0
  refine Ends.go (fun _ k => XS.aloadN X97.here hx rfl (hb hby d4_69) rfl rfl k) ?_
  show Ends p e below s T97 (mkF m 70 #[.val (.ref o0), .val (.ref x0_), .val (.int (3 : Int32))] [(.ref o0)]) _ _ _
  refine Ends.go (fun _ k => XS.aloadN X97.here hx rfl (hb hby d4_70) rfl rfl k) ?_
  obtain ⟨cl98, Ar98, q98, S98, M98, H98, G98⟩ := id (((((((Vx.ext E76).other W77 hxo).keep K79c (ninS ne_x0__b76 nin0)).other W84 ne_x0__b76).other W89 ne_x0__b76).other W94 ne_x0__b76).other W97 hxo)
  refine Ends.go (X97.arraylength hx (by rw [e97]; exact Ar98.1) (State.isArrayOf_alike hZ.alike Ar98.2.1) (g := (mkF m 71 #[.val (.ref o0), .val (.ref x0_), .val (.int (3 : Int32))] [(.ref x0_), (.ref o0)])) rfl rfl (hb hby d4_71)) ?_
  rw [len_of S98 M98]
  refine Ends.go (fun _ k => XS.iconst X97.here hx rfl (hb hby d4_72) k) ?_
  refine Ends.go (fun _ k => XS.isub X97.here hx rfl (hb hby d4_73) rfl k) ?_
  show Ends p e below s T97 (mkF m 74 #[.val (.ref o0), .val (.ref x0_), .val (.int (3 : Int32))] [(.int (2 : Int32)), (.ref o0)]) _ _ _
  obtain ⟨T99, h99, X99, e99, W99, st99⟩ := putF X97 hx hZ hown (host := "") (Or.inl (ow hw 32 rfl)) Via.refl e97 (((((((Fk.ext E76).other W77 (Or.inr (slot_ne (Or.inr (ow hw 33 rfl)) (Or.inr (ow hw 24 rfl)) (by decide) (t := .int) (t' := (.array .long)) (by decide) (by decide)))).keep K79c (ninS ne_o0_b76 nin0)).other W84 (Or.inl ne_o0_b76)).other W89 (Or.inl ne_o0_b76)).other W94 (Or.inl ne_o0_b76)).other W97 (Or.inr (slot_ne (Or.inr (ow hw 33 rfl)) (Or.inr (ow hw 31 rfl)) (by decide) (t := .int) (t' := .long) (by decide) (by decide)))) (((((((E0.ext E76).wr W77).keep K79c).wr W84).wr W89).wr W94).wr W97) (Or.inr ⟨(ow hw 33 rfl), rfl, hnm⟩) (ow hw 14 rfl) (ty := .int) (by decide) rfl rfl (g := (mkF m 74 #[.val (.ref o0), .val (.ref x0_), .val (.int (3 : Int32))] [(.int (2 : Int32)), (.ref o0)])) rfl rfl (hb hby d4_74)
  refine Ends.go st99 ?_
  have Fw99 := (((((((Fk.ext E76).other W77 (Or.inr (slot_ne (Or.inr (ow hw 33 rfl)) (Or.inr (ow hw 24 rfl)) (by decide) (t := .int) (t' := (.array .long)) (by decide) (by decide)))).keep K79c (ninS ne_o0_b76 nin0)).other W84 (Or.inl ne_o0_b76)).other W89 (Or.inl ne_o0_b76)).other W94 (Or.inl ne_o0_b76)).other W97 (Or.inr (slot_ne (Or.inr (ow hw 33 rfl)) (Or.inr (ow hw 31 rfl)) (by decide) (t := .int) (t' := .long) (by decide) (by decide)))).same W99
  have K99 := K97.wr W99 (Or.inl (List.mem_of_getElem? (i := 0) rfl))
  have O99 := O97.wr W99 g_o0
  have N99 := Fr.snoc X99 N97 g_o0
  refine Ends.retV X99 hx Bd.notSynchronized Bd.returns (hb hby d4_77) (by decide) (by decide) ?_
  rw [e99]
  exact ⟨b76, f94, rfl, N99, K99, sz_b76, ((((((Fw77.keep K79c (ninS ne_o0_b76 nin0)).other W84 (Or.inl ne_o0_b76)).other W89 (Or.inl ne_o0_b76)).other W94 (Or.inl ne_o0_b76)).other W97 (Or.inr (slot_ne (Or.inr (ow hw 24 rfl)) (Or.inr (ow hw 31 rfl)) (by decide) (t := (.array .long)) (t' := .long) (by decide) (by decide)))).other W99 (Or.inr (slot_ne (Or.inr (ow hw 24 rfl)) (Or.inr (ow hw 33 rfl)) (by decide) (t := (.array .long)) (t' := .int) (by decide) (by decide)))), (Fw97.other W99 (Or.inr (slot_ne (Or.inr (ow hw 31 rfl)) (Or.inr (ow hw 33 rfl)) (by decide) (t := .long) (t' := .int) (by decide) (by decide)))), Fw99, ((M94.other W97 (Ne.symm ne_o0_b76)).other W99 (Ne.symm ne_o0_b76)), own_mis3 hg79 hf84 hf89 hf94 ha0_ ha1_ ha2_⟩
theorem d11_0 : decode prog_47_method_2_code 0 = .ok (.aload_n 0, 1) := by decide +kernel
theorem d11_1 : decode prog_47_method_2_code 1 = .ok (.getfield 15, 3) := by decide +kernel
theorem d11_4 : decode prog_47_method_2_code 4 = .ok (.getfield 19, 3) := by decide +kernel
theorem d11_7 : decode prog_47_method_2_code 7 = .ok (.astore 6, 2) := by decide +kernel
theorem d11_9 : decode prog_47_method_2_code 9 = .ok (.aload_n 0, 1) := by decide +kernel
theorem d11_10 : decode prog_47_method_2_code 10 = .ok (.getfield 15, 3) := by decide +kernel
theorem d11_13 : decode prog_47_method_2_code 13 = .ok (.getfield 25, 3) := by decide +kernel
theorem d11_16 : decode prog_47_method_2_code 16 = .ok (.lstore 7, 2) := by decide +kernel
theorem d11_18 : decode prog_47_method_2_code 18 = .ok (.aload_n 1, 1) := by decide +kernel
theorem d11_19 : decode prog_47_method_2_code 19 = .ok (.getfield 28, 3) := by decide +kernel
theorem d11_22 : decode prog_47_method_2_code 22 = .ok (.lload_n 3, 1) := by decide +kernel
theorem d11_23 : decode prog_47_method_2_code 23 = .ok (.lsub, 1) := by decide +kernel
theorem d11_24 : decode prog_47_method_2_code 24 = .ok (.l2i, 1) := by decide +kernel
theorem d11_25 : decode prog_47_method_2_code 25 = .ok (.istore 9, 2) := by decide +kernel
theorem d11_27 : decode prog_47_method_2_code 27 = .ok (.aload_n 0, 1) := by decide +kernel
theorem d11_28 : decode prog_47_method_2_code 28 = .ok (.getfield 33, 3) := by decide +kernel
theorem d11_31 : decode prog_47_method_2_code 31 = .ok (.lstore 10, 2) := by decide +kernel
theorem d11_33 : decode prog_47_method_2_code 33 = .ok (.aload_n 1, 1) := by decide +kernel
theorem d11_34 : decode prog_47_method_2_code 34 = .ok (.getfield 28, 3) := by decide +kernel
theorem d11_37 : decode prog_47_method_2_code 37 = .ok (.aload_n 0, 1) := by decide +kernel
theorem d11_38 : decode prog_47_method_2_code 38 = .ok (.getfield 9, 3) := by decide +kernel
theorem d11_41 : decode prog_47_method_2_code 41 = .ok (.lcmp, 1) := by decide +kernel
theorem d11_42 : decode prog_47_method_2_code 42 = .ok (.ifCond .eq 68, 3) := by decide +kernel
theorem d11_45 : decode prog_47_method_2_code 45 = .ok (.ldc2_w 7, 3) := by decide +kernel
theorem d11_48 : decode prog_47_method_2_code 48 = .ok (.lstore 10, 2) := by decide +kernel
theorem d11_50 : decode prog_47_method_2_code 50 = .ok (.iload 9, 2) := by decide +kernel
theorem d11_52 : decode prog_47_method_2_code 52 = .ok (.aload_n 0, 1) := by decide +kernel
theorem d11_53 : decode prog_47_method_2_code 53 = .ok (.getfield 15, 3) := by decide +kernel
theorem d11_56 : decode prog_47_method_2_code 56 = .ok (.getfield 36, 3) := by decide +kernel
theorem d11_59 : decode prog_47_method_2_code 59 = .ok (.isub, 1) := by decide +kernel
theorem d11_60 : decode prog_47_method_2_code 60 = .ok (.istore 12, 2) := by decide +kernel
theorem d11_62 : decode prog_47_method_2_code 62 = .ok (.iload 12, 2) := by decide +kernel
theorem d11_64 : decode prog_47_method_2_code 64 = .ok (.iload 9, 2) := by decide +kernel
theorem d11_66 : decode prog_47_method_2_code 66 = .ok (.if_icmp .ge 27, 3) := by decide +kernel
theorem d11_69 : decode prog_47_method_2_code 69 = .ok (.lload 10, 2) := by decide +kernel
theorem d11_71 : decode prog_47_method_2_code 71 = .ok (.iconst 1, 1) := by decide +kernel
theorem d11_72 : decode prog_47_method_2_code 72 = .ok (.lshl, 1) := by decide +kernel
theorem d11_73 : decode prog_47_method_2_code 73 = .ok (.aload 6, 2) := by decide +kernel
theorem d11_75 : decode prog_47_method_2_code 75 = .ok (.aload_n 2, 1) := by decide +kernel
theorem d11_76 : decode prog_47_method_2_code 76 = .ok (.iload 12, 2) := by decide +kernel
theorem d11_78 : decode prog_47_method_2_code 78 = .ok (.baload, 1) := by decide +kernel
theorem d11_79 : decode prog_47_method_2_code 79 = .ok (.sipush 255, 3) := by decide +kernel
theorem d11_82 : decode prog_47_method_2_code 82 = .ok (.iand, 1) := by decide +kernel
theorem d11_83 : decode prog_47_method_2_code 83 = .ok (.laload, 1) := by decide +kernel
theorem d11_84 : decode prog_47_method_2_code 84 = .ok (.lor, 1) := by decide +kernel
theorem d11_85 : decode prog_47_method_2_code 85 = .ok (.lstore 10, 2) := by decide +kernel
theorem d11_87 : decode prog_47_method_2_code 87 = .ok (.iinc 12 1, 3) := by decide +kernel
theorem d11_90 : decode prog_47_method_2_code 90 = .ok (.goto (-28), 3) := by decide +kernel
theorem d11_93 : decode prog_47_method_2_code 93 = .ok (.aload_n 1, 1) := by decide +kernel
theorem d11_94 : decode prog_47_method_2_code 94 = .ok (.dup, 1) := by decide +kernel
theorem d11_95 : decode prog_47_method_2_code 95 = .ok (.getfield 40, 3) := by decide +kernel
theorem d11_98 : decode prog_47_method_2_code 98 = .ok (.aload_n 0, 1) := by decide +kernel
theorem d11_99 : decode prog_47_method_2_code 99 = .ok (.getfield 15, 3) := by decide +kernel
theorem d11_102 : decode prog_47_method_2_code 102 = .ok (.getfield 36, 3) := by decide +kernel
theorem d11_105 : decode prog_47_method_2_code 105 = .ok (.i2l, 1) := by decide +kernel
theorem d11_106 : decode prog_47_method_2_code 106 = .ok (.ladd, 1) := by decide +kernel
theorem d11_107 : decode prog_47_method_2_code 107 = .ok (.putfield 40, 3) := by decide +kernel
theorem d11_110 : decode prog_47_method_2_code 110 = .ok (.iload 5, 2) := by decide +kernel
theorem d11_112 : decode prog_47_method_2_code 112 = .ok (.istore 12, 2) := by decide +kernel
theorem d11_114 : decode prog_47_method_2_code 114 = .ok (.iconst (-1), 1) := by decide +kernel
theorem d11_115 : decode prog_47_method_2_code 115 = .ok (.istore 13, 2) := by decide +kernel
theorem d11_117 : decode prog_47_method_2_code 117 = .ok (.iload 9, 2) := by decide +kernel
theorem d11_119 : decode prog_47_method_2_code 119 = .ok (.istore 14, 2) := by decide +kernel
theorem d11_121 : decode prog_47_method_2_code 121 = .ok (.iload 14, 2) := by decide +kernel
theorem d11_123 : decode prog_47_method_2_code 123 = .ok (.iload 5, 2) := by decide +kernel
theorem d11_125 : decode prog_47_method_2_code 125 = .ok (.if_icmp .ge 50, 3) := by decide +kernel
theorem d11_128 : decode prog_47_method_2_code 128 = .ok (.lload 10, 2) := by decide +kernel
theorem d11_130 : decode prog_47_method_2_code 130 = .ok (.iconst 1, 1) := by decide +kernel
theorem d11_131 : decode prog_47_method_2_code 131 = .ok (.lshl, 1) := by decide +kernel
theorem d11_132 : decode prog_47_method_2_code 132 = .ok (.aload 6, 2) := by decide +kernel
theorem d11_134 : decode prog_47_method_2_code 134 = .ok (.aload_n 2, 1) := by decide +kernel
theorem d11_135 : decode prog_47_method_2_code 135 = .ok (.iload 14, 2) := by decide +kernel
theorem d11_137 : decode prog_47_method_2_code 137 = .ok (.baload, 1) := by decide +kernel
theorem d11_138 : decode prog_47_method_2_code 138 = .ok (.sipush 255, 3) := by decide +kernel
theorem d11_141 : decode prog_47_method_2_code 141 = .ok (.iand, 1) := by decide +kernel
theorem d11_142 : decode prog_47_method_2_code 142 = .ok (.laload, 1) := by decide +kernel
theorem d11_143 : decode prog_47_method_2_code 143 = .ok (.lor, 1) := by decide +kernel
theorem d11_144 : decode prog_47_method_2_code 144 = .ok (.lstore 10, 2) := by decide +kernel
theorem d11_146 : decode prog_47_method_2_code 146 = .ok (.lload 10, 2) := by decide +kernel
theorem d11_148 : decode prog_47_method_2_code 148 = .ok (.lload 7, 2) := by decide +kernel
theorem d11_150 : decode prog_47_method_2_code 150 = .ok (.land, 1) := by decide +kernel
theorem d11_151 : decode prog_47_method_2_code 151 = .ok (.lconst 0, 1) := by decide +kernel
theorem d11_152 : decode prog_47_method_2_code 152 = .ok (.lcmp, 1) := by decide +kernel
theorem d11_153 : decode prog_47_method_2_code 153 = .ok (.ifCond .ne 16, 3) := by decide +kernel
theorem d11_156 : decode prog_47_method_2_code 156 = .ok (.iload 14, 2) := by decide +kernel
theorem d11_158 : decode prog_47_method_2_code 158 = .ok (.iconst 1, 1) := by decide +kernel
theorem d11_159 : decode prog_47_method_2_code 159 = .ok (.iadd, 1) := by decide +kernel
theorem d11_160 : decode prog_47_method_2_code 160 = .ok (.istore 12, 2) := by decide +kernel
theorem d11_162 : decode prog_47_method_2_code 162 = .ok (.iload 12, 2) := by decide +kernel
theorem d11_164 : decode prog_47_method_2_code 164 = .ok (.istore 13, 2) := by decide +kernel
theorem d11_166 : decode prog_47_method_2_code 166 = .ok (.goto 9, 3) := by decide +kernel
theorem d11_169 : decode prog_47_method_2_code 169 = .ok (.iinc 14 1, 3) := by decide +kernel
theorem d11_172 : decode prog_47_method_2_code 172 = .ok (.goto (-51), 3) := by decide +kernel
theorem d11_175 : decode prog_47_method_2_code 175 = .ok (.aload_n 1, 1) := by decide +kernel
theorem d11_176 : decode prog_47_method_2_code 176 = .ok (.dup, 1) := by decide +kernel
theorem d11_177 : decode prog_47_method_2_code 177 = .ok (.getfield 40, 3) := by decide +kernel
theorem d11_180 : decode prog_47_method_2_code 180 = .ok (.iload 12, 2) := by decide +kernel
theorem d11_182 : decode prog_47_method_2_code 182 = .ok (.iload 9, 2) := by decide +kernel
theorem d11_184 : decode prog_47_method_2_code 184 = .ok (.isub, 1) := by decide +kernel
theorem d11_185 : decode prog_47_method_2_code 185 = .ok (.i2l, 1) := by decide +kernel
theorem d11_186 : decode prog_47_method_2_code 186 = .ok (.ladd, 1) := by decide +kernel
theorem d11_187 : decode prog_47_method_2_code 187 = .ok (.putfield 40, 3) := by decide +kernel
theorem d11_190 : decode prog_47_method_2_code 190 = .ok (.aload_n 1, 1) := by decide +kernel
theorem d11_191 : decode prog_47_method_2_code 191 = .ok (.lload_n 3, 1) := by decide +kernel
theorem d11_192 : decode prog_47_method_2_code 192 = .ok (.iload 12, 2) := by decide +kernel
theorem d11_194 : decode prog_47_method_2_code 194 = .ok (.i2l, 1) := by decide +kernel
theorem d11_195 : decode prog_47_method_2_code 195 = .ok (.ladd, 1) := by decide +kernel
theorem d11_196 : decode prog_47_method_2_code 196 = .ok (.putfield 28, 3) := by decide +kernel
theorem d11_199 : decode prog_47_method_2_code 199 = .ok (.aload_n 0, 1) := by decide +kernel
theorem d11_200 : decode prog_47_method_2_code 200 = .ok (.aload_n 1, 1) := by decide +kernel
theorem d11_201 : decode prog_47_method_2_code 201 = .ok (.getfield 28, 3) := by decide +kernel
theorem d11_204 : decode prog_47_method_2_code 204 = .ok (.putfield 9, 3) := by decide +kernel
theorem d11_207 : decode prog_47_method_2_code 207 = .ok (.aload_n 0, 1) := by decide +kernel
theorem d11_208 : decode prog_47_method_2_code 208 = .ok (.lload 10, 2) := by decide +kernel
theorem d11_210 : decode prog_47_method_2_code 210 = .ok (.putfield 33, 3) := by decide +kernel
theorem d11_213 : decode prog_47_method_2_code 213 = .ok (.iload 13, 2) := by decide +kernel
theorem d11_215 : decode prog_47_method_2_code 215 = .ok (.ireturn, 1) := by decide +kernel
theorem pn11 : plainName "com/example/sindano/sindano/boyermoore/ShiftOr$Reading" = true := by first | (simp [plainName, overriddenIn]; done) | decide +kernel
theorem ef11_rrrji (m : MethodId) (x0 : Addr) (x1 : Addr) (x2 : Addr) (x3 : Int64) (x4 : Int32) : entryFrame m #[(.ref x0), (.ref x1), (.ref x2), (.long x3), (.int x4)] 15 = mkF m 0 #[.val (.ref x0), .val (.ref x1), .val (.ref x2), .val (.long x3), .second, .val (.int x4), .unset, .unset, .unset, .unset, .unset, .unset, .unset, .unset, .unset] [] := by first | (simp [entryFrame, mkF, argsToLocals, Value.category]; done) | rfl
set_option maxRecDepth 65536 in
set_option maxHeartbeats 40000000 in
theorem rmX (l : Launch) (Z : State) (a0 : Array Value) (hw : ∀ d ∈ tables_1, d.before a0 Z = true) (ws : List Jvm.Cond) (n0 : Nat) (h0 : Heap) (O0 : Old Z n0 h0)  (rd_ sc_ bf_ so_ ms_ : Addr) (kb_ : ClassId) (f_ : Nat → Int64) (q_ t_ e_ d_ dd_ : Int64) (s_ m_ r_ en_ : Int32) (a0_ a1_ a2_ u0_ u1_ u2_ u3_ u4_ u5_ u6_ u7_ : Int32) (g_rd_ : n0 ≤ rd_) (g_sc_ : n0 ≤ sc_) (ne_rd_sc_ : rd_ ≠ sc_) (ne_rd_bf_ : rd_ ≠ bf_) (ne_sc_bf_ : sc_ ≠ bf_) (ne_rd_so_ : rd_ ≠ so_) (ne_sc_so_ : sc_ ≠ so_) (ne_rd_ms_ : rd_ ≠ ms_) (ne_sc_ms_ : sc_ ≠ ms_) (Er : Exa Z h0 rd_ "com/example/sindano/sindano/boyermoore/ShiftOr$Reading") (Es : Exa Z h0 sc_ "com/example/sindano/sindano/boyermoore/Stretches") (Ft : Fld Z h0 rd_ "com/example/sindano/sindano/boyermoore/ShiftOr$Reading" "table" "Lcom/example/sindano/sindano/boyermoore/ShiftOr;" (.ref so_)) (Fh : Fld Z h0 rd_ "com/example/sindano/sindano/boyermoore/ShiftOr$Reading" "through" "J" (.long t_)) (Fe : Fld Z h0 rd_ "com/example/sindano/sindano/boyermoore/ShiftOr$Reading" "ending" "J" (.long e_)) (Fm : Fld Z h0 so_ "com/example/sindano/sindano/boyermoore/ShiftOr" "missing" "[J" (.ref ms_)) (Fw : Fld Z h0 so_ "com/example/sindano/sindano/boyermoore/ShiftOr" "whole" "J" (.long (4 : Int64))) (Fk : Fld Z h0 so_ "com/example/sindano/sindano/boyermoore/ShiftOr" "back" "I" (.int (2 : Int32))) (Fi : Fld Z h0 sc_ "com/example/sindano/sindano/boyermoore/Stretches" "window" "J" (.long (q_ + (s_.toInt64)))) (Fd : Fld Z h0 sc_ "com/example/sindano/sindano/boyermoore/Stretches" "made" "J" (.long d_)) (Vb : Arv Z h0 bf_ kb_ .byte (8 : Int32) [(.int u0_), (.int u1_), (.int u2_), (.int u3_), (.int u4_), (.int u5_), (.int u6_), (.int u7_)] (.int (0 : Int32))) (M0 : Lng Z h0 ms_ f_) (hm : own_mis f_ a0_ a1_ a2_) (hu0_ : own_isb u0_) (hu1_ : own_isb u1_) (hu2_ : own_isb u2_) (hu3_ : own_isb u3_) (hu4_ : own_isb u4_) (hu5_ : own_isb u5_) (hu6_ : own_isb u6_) (hu7_ : own_isb u7_) (hs : 2 ≤ s_.toInt ∧ s_.toInt ≤ 8) (hl : s_.toInt ≤ m_.toInt ∧ m_.toInt ≤ 8) (hr : r_ = own_first a0_ a1_ a2_ u0_ u1_ u2_ u3_ u4_ u5_ u6_ u7_ s_ m_) (hen : en_ = own_end r_ m_) (hdd : dd_ = (if (q_ + (s_.toInt64)) = t_ then d_ else d_ + 2) + (en_ - s_).toInt64) (hinv : (q_ + (s_.toInt64)) = t_ → own_inv a0_ a1_ a2_ u0_ u1_ u2_ u3_ u4_ u5_ u6_ u7_ s_ e_) :
    Meets1 l (⟨"com/example/sindano/sindano/boyermoore/ShiftOr$Reading", "exact", "(Lcom/example/sindano/sindano/boyermoore/Stretches;[BJI)I"⟩ : MethodName) prog_47_method_2_code 15 (some .int) ws ({ frames := 0, cells := 0, slots := 0, locals := 0 } : Room) #[(.ref rd_), (.ref sc_), (.ref bf_), (.long q_), (.int m_)] Z h0 (fun v h L => ∃ e' : Int64, v = some (.int r_) ∧ Fr n0 L ∧ Keep h0 h [rd_, sc_] ∧ Fld Z h sc_ "com/example/sindano/sindano/boyermoore/Stretches" "made" "J" (.long dd_) ∧ Fld Z h sc_ "com/example/sindano/sindano/boyermoore/Stretches" "window" "J" (.long (q_ + (en_.toInt64))) ∧ Fld Z h rd_ "com/example/sindano/sindano/boyermoore/ShiftOr$Reading" "through" "J" (.long (q_ + (en_.toInt64))) ∧ Fld Z h rd_ "com/example/sindano/sindano/boyermoore/ShiftOr$Reading" "ending" "J" (.long e') ∧ Fld Z h rd_ "com/example/sindano/sindano/boyermoore/ShiftOr$Reading" "table" "Lcom/example/sindano/sindano/boyermoore/ShiftOr;" (.ref so_) ∧ own_inv a0_ a1_ a2_ u0_ u1_ u2_ u3_ u4_ u5_ u6_ u7_ en_ e') := by
  refine MetFree.of_bodySF (plainFor_of_name pn11) hisR ?_
  intro p e s m args below meth c s₁ Bd hml0 hP hK
  obtain ⟨rfl, hZ, hh⟩ := hP
  have hx := Bd.exec
  have hby := Bd.bytes
  have hml : c.maxLocals = 15 := hml0
  have hown : s.vm.findClass "com/example/sindano/sindano/boyermoore/ShiftOr$Reading" = some m.cls := findClass_of_methodNamed Bd.named
  have hnm := (name_of_methodNamed Bd.named Bd.method).1
  have X0 : Stand p l e ({ frames := 0, cells := 0, slots := 0, locals := 0 } : Room) s m #[(.ref rd_), (.ref sc_), (.ref bf_), (.long q_), (.int m_)] below meth c s₁ [] 0 0 := Stand.of_body Bd
  have e0 : s₁.heap = h0 := by rw [← hh, Bd.state]; rfl
  have N0 := Fr.nil n0
  have Z0 := own_old_le O0
  show Ends p e below s s₁ (entryFrame m #[(.ref rd_), (.ref sc_), (.ref bf_), (.long q_), (.int m_)] 15) ({ frames := 0, cells := 0, slots := 0, locals := 0 } : Room).cells ({ frames := 0, cells := 0, slots := 0, locals := 0 } : Room).slots (fun v h L => ∃ e' : Int64, v = some (.int r_) ∧ Fr n0 L ∧ Keep h0 h [rd_, sc_] ∧ Fld Z h sc_ "com/example/sindano/sindano/boyermoore/Stretches" "made" "J" (.long dd_) ∧ Fld Z h sc_ "com/example/sindano/sindano/boyermoore/Stretches" "window" "J" (.long (q_ + (en_.toInt64))) ∧ Fld Z h rd_ "com/example/sindano/sindano/boyermoore/ShiftOr$Reading" "through" "J" (.long (q_ + (en_.toInt64))) ∧ Fld Z h rd_ "com/example/sindano/sindano/boyermoore/ShiftOr$Reading" "ending" "J" (.long e') ∧ Fld Z h rd_ "com/example/sindano/sindano/boyermoore/ShiftOr$Reading" "table" "Lcom/example/sindano/sindano/boyermoore/ShiftOr;" (.ref so_) ∧ own_inv a0_ a1_ a2_ u0_ u1_ u2_ u3_ u4_ u5_ u6_ u7_ en_ e')
  refine Ends.go (fun _ k => castTop (ef11_rrrji m rd_ sc_ bf_ q_ m_) k) ?_
  have K0 := Keep.refl h0 [rd_, sc_]
  have J175 : ∀ (T7 : State) (h7 : Heap) (lcs : List Loc) (d1_ : Int64) (w1_ : Int64) (t1_ : Int64) (e1_ : Int64) (ee_ : Int64) (en2_ : Int32) (rr_ : Int32) (i_ : Int32) (X7 : Stand p l e ({ frames := 0, cells := 0, slots := 0, locals := 0 } : Room) s m #[(.ref rd_), (.ref sc_), (.ref bf_), (.long q_), (.int m_)] below meth c T7 lcs 0 0) (eT7 : T7.heap = h7) (O7 : Old Z n0 h7) (N7 : Fr n0 lcs) (K7 : Keep h0 h7 [rd_, sc_]) (Er : Exa Z h7 rd_ "com/example/sindano/sindano/boyermoore/ShiftOr$Reading") (Es : Exa Z h7 sc_ "com/example/sindano/sindano/boyermoore/Stretches") (Ft : Fld Z h7 rd_ "com/example/sindano/sindano/boyermoore/ShiftOr$Reading" "table" "Lcom/example/sindano/sindano/boyermoore/ShiftOr;" (.ref so_)) (Fh : Fld Z h7 rd_ "com/example/sindano/sindano/boyermoore/ShiftOr$Reading" "through" "J" (.long t1_)) (Fe : Fld Z h7 rd_ "com/example/sindano/sindano/boyermoore/ShiftOr$Reading" "ending" "J" (.long e1_)) (Fi : Fld Z h7 sc_ "com/example/sindano/sindano/boyermoore/Stretches" "window" "J" (.long w1_)) (Fd : Fld Z h7 sc_ "com/example/sindano/sindano/boyermoore/Stretches" "made" "J" (.long d1_)) (Vb : Arv Z h7 bf_ kb_ .byte (8 : Int32) [(.int u0_), (.int u1_), (.int u2_), (.int u3_), (.int u4_), (.int u5_), (.int u6_), (.int u7_)] (.int (0 : Int32))) (M0 : Lng Z h7 ms_ f_) (hd1 : d1_ = if (q_ + (s_.toInt64)) = t_ then d_ else d_ + 2) (hr2 : r_ = rr_) (he2 : en_ = en2_) (hv2 : own_inv a0_ a1_ a2_ u0_ u1_ u2_ u3_ u4_ u5_ u6_ u7_ en2_ ee_), Ends p e below s T7 (mkF m 175 #[.val (.ref rd_), .val (.ref sc_), .val (.ref bf_), .val (.long q_), .second, .val (.int m_), .val (.ref ms_), .val (.long (4 : Int64)), .second, .val (.int s_), .val (.long ee_), .second, .val (.int en2_), .val (.int rr_), .val (.int i_)] []) ({ frames := 0, cells := 0, slots := 0, locals := 0 } : Room).cells ({ frames := 0, cells := 0, slots := 0, locals := 0 } : Room).slots (fun v h L => ∃ e' : Int64, v = some (.int r_) ∧ Fr n0 L ∧ Keep h0 h [rd_, sc_] ∧ Fld Z h sc_ "com/example/sindano/sindano/boyermoore/Stretches" "made" "J" (.long dd_) ∧ Fld Z h sc_ "com/example/sindano/sindano/boyermoore/Stretches" "window" "J" (.long (q_ + (en_.toInt64))) ∧ Fld Z h rd_ "com/example/sindano/sindano/boyermoore/ShiftOr$Reading" "through" "J" (.long (q_ + (en_.toInt64))) ∧ Fld Z h rd_ "com/example/sindano/sindano/boyermoore/ShiftOr$Reading" "ending" "J" (.long e') ∧ Fld Z h rd_ "com/example/sindano/sindano/boyermoore/ShiftOr$Reading" "table" "Lcom/example/sindano/sindano/boyermoore/ShiftOr;" (.ref so_) ∧ own_inv a0_ a1_ a2_ u0_ u1_ u2_ u3_ u4_ u5_ u6_ u7_ en_ e') := by
    intro T7 h7 lcs d1_ w1_ t1_ e1_ ee_ en2_ rr_ i_ X7 eT7 O7 N7 K7 Er Es Ft Fh Fe Fi Fd Vb M0 hd1 hr2 he2 hv2
    subst hr2 he2
    show Ends p e below s T7 (mkF m 175 #[.val (.ref rd_), .val (.ref sc_), .val (.ref bf_), .val (.long q_), .second, .val (.int m_), .val (.ref ms_), .val (.long (4 : Int64)), .second, .val (.int s_), .val (.long ee_), .second, .val (.int en_), .val (.int r_), .val (.int i_)] []) _ _ _
    refine Ends.go (fun _ k => XS.aloadN X7.here hx rfl (hb hby d11_175) rfl rfl k) ?_
    refine Ends.go (fun _ k => XS.dup X7.here hx rfl (hb hby d11_176) rfl rfl k) ?_
    show Ends p e below s T7 (mkF m 177 #[.val (.ref rd_), .val (.ref sc_), .val (.ref bf_), .val (.long q_), .second, .val (.int m_), .val (.ref ms_), .val (.long (4 : Int64)), .second, .val (.int s_), .val (.long ee_), .second, .val (.int en_), .val (.int r_), .val (.int i_)] [(.ref sc_), (.ref sc_)]) _ _ _
    obtain ⟨T100, X100, e100, st100⟩ := getF X7 hx hZ hown (host := "") (Or.inl (ow hw 117 rfl)) Via.refl eT7 Fd (g := (mkF m 177 #[.val (.ref rd_), .val (.ref sc_), .val (.ref bf_), .val (.long q_), .second, .val (.int m_), .val (.ref ms_), .val (.long (4 : Int64)), .second, .val (.int s_), .val (.long ee_), .second, .val (.int en_), .val (.int r_), .val (.int i_)] [(.ref sc_), (.ref sc_)])) rfl rfl (hb hby d11_177)
    refine Ends.go st100 ?_
    refine Ends.go (fun _ k => XS.iload X100.here hx rfl (hb hby d11_180) rfl k) ?_
    refine Ends.go (fun _ k => XS.iload X100.here hx rfl (hb hby d11_182) rfl k) ?_
    refine Ends.go (fun _ k => XS.isub X100.here hx rfl (hb hby d11_184) rfl k) ?_
    show Ends p e below s T100 (mkF m 185 #[.val (.ref rd_), .val (.ref sc_), .val (.ref bf_), .val (.long q_), .second, .val (.int m_), .val (.ref ms_), .val (.long (4 : Int64)), .second, .val (.int s_), .val (.long ee_), .second, .val (.int en_), .val (.int r_), .val (.int i_)] [(.int (en_ - s_)), (.long d1_), (.ref sc_)]) _ _ _
    refine Ends.go (fun _ k => XS.i2l X100.here hx rfl (hb hby d11_185) rfl k) ?_
    refine Ends.go (fun _ k => XS.ladd X100.here hx rfl (hb hby d11_186) rfl k) ?_
    obtain ⟨T101, h101, X101, e101, W101, st101⟩ := putF X100 hx hZ hown (host := "") (Or.inl (ow hw 117 rfl)) Via.refl e100 Fd Es (Or.inl (ow hw 118 rfl)) (ow hw 47 rfl) (ty := .long) (by decide) rfl rfl (g := (mkF m 187 #[.val (.ref rd_), .val (.ref sc_), .val (.ref bf_), .val (.long q_), .second, .val (.int m_), .val (.ref ms_), .val (.long (4 : Int64)), .second, .val (.int s_), .val (.long ee_), .second, .val (.int en_), .val (.int r_), .val (.int i_)] [(.long (d1_ + ((en_ - s_).toInt64))), (.ref sc_)])) rfl rfl (hb hby d11_187)
    refine Ends.go st101 ?_
    have Fw101 := Fd.same W101
    have K101 := K7.wr W101 (Or.inl (List.mem_of_getElem? (i := 1) rfl))
    have O101 := O7.wr W101 g_sc_
    have N101 := Fr.snoc X101 N7 g_sc_
    refine Ends.go (fun _ k => XS.aloadN X101.here hx rfl (hb hby d11_190) rfl rfl k) ?_
    show Ends p e below s T101 (mkF m 191 #[.val (.ref rd_), .val (.ref sc_), .val (.ref bf_), .val (.long q_), .second, .val (.int m_), .val (.ref ms_), .val (.long (4 : Int64)), .second, .val (.int s_), .val (.long ee_), .second, .val (.int en_), .val (.int r_), .val (.int i_)] [(.ref sc_)]) _ _ _
    refine Ends.go (fun _ k => XS.lloadN X101.here hx rfl (hb hby d11_191) rfl k) ?_
    refine Ends.go (fun _ k => XS.iload X101.here hx rfl (hb hby d11_192) rfl k) ?_
    refine Ends.go (fun _ k => XS.i2l X101.here hx rfl (hb hby d11_194) rfl k) ?_
    refine Ends.go (fun _ k => XS.ladd X101.here hx rfl (hb hby d11_195) rfl k) ?_
    show Ends p e below s T101 (mkF m 196 #[.val (.ref rd_), .val (.ref sc_), .val (.ref bf_), .val (.long q_), .second, .val (.int m_), .val (.ref ms_), .val (.long (4 : Int64)), .second, .val (.int s_), .val (.long ee_), .second, .val (.int en_), .val (.int r_), .val (.int i_)] [(.long (q_ + (en_.toInt64))), (.ref sc_)]) _ _ _
    obtain ⟨T102, h102, X102, e102, W102, st102⟩ := putF X101 hx hZ hown (host := "") (Or.inl (ow hw 113 rfl)) Via.refl e101 (Fi.other W101 (Or.inr (slot_ne (Or.inl (ow hw 92 rfl)) (Or.inl (ow hw 118 rfl)) (by decide) (t := .long) (t' := .long) (by decide) (by decide)))) (Es.wr W101) (Or.inl (ow hw 92 rfl)) (ow hw 47 rfl) (ty := .long) (by decide) rfl rfl (g := (mkF m 196 #[.val (.ref rd_), .val (.ref sc_), .val (.ref bf_), .val (.long q_), .second, .val (.int m_), .val (.ref ms_), .val (.long (4 : Int64)), .second, .val (.int s_), .val (.long ee_), .second, .val (.int en_), .val (.int r_), .val (.int i_)] [(.long (q_ + (en_.toInt64))), (.ref sc_)])) rfl rfl (hb hby d11_196)
    refine Ends.go st102 ?_
    have Fw102 := (Fi.other W101 (Or.inr (slot_ne (Or.inl (ow hw 92 rfl)) (Or.inl (ow hw 118 rfl)) (by decide) (t := .long) (t' := .long) (by decide) (by decide)))).same W102
    have K102 := K101.wr W102 (Or.inl (List.mem_of_getElem? (i := 1) rfl))
    have O102 := O101.wr W102 g_sc_
    have N102 := Fr.snoc X102 N101 g_sc_
    refine Ends.go (fun _ k => XS.aloadN X102.here hx rfl (hb hby d11_199) rfl rfl k) ?_
    refine Ends.go (fun _ k => XS.aloadN X102.here hx rfl (hb hby d11_200) rfl rfl k) ?_
    obtain ⟨T103, X103, e103, st103⟩ := getF X102 hx hZ hown (host := "") (Or.inl (ow hw 113 rfl)) Via.refl e102 Fw102 (g := (mkF m 201 #[.val (.ref rd_), .val (.ref sc_), .val (.ref bf_), .val (.long q_), .second, .val (.int m_), .val (.ref ms_), .val (.long (4 : Int64)), .second, .val (.int s_), .val (.long ee_), .second, .val (.int en_), .val (.int r_), .val (.int i_)] [(.ref sc_), (.ref rd_)])) rfl rfl (hb hby d11_201)
    refine Ends.go st103 ?_
    show Ends p e below s T103 (mkF m 204 #[.val (.ref rd_), .val (.ref sc_), .val (.ref bf_), .val (.long q_), .second, .val (.int m_), .val (.ref ms_), .val (.long (4 : Int64)), .second, .val (.int s_), .val (.long ee_), .second, .val (.int en_), .val (.int r_), .val (.int i_)] [(.long (q_ + (en_.toInt64))), (.ref rd_)]) _ _ _
    obtain ⟨T104, h104, X104, e104, W104, st104⟩ := putF X103 hx hZ hown (host := "") (Or.inl (ow hw 42 rfl)) Via.refl e103 ((Fh.other W101 (Or.inl ne_rd_sc_)).other W102 (Or.inl ne_rd_sc_)) ((Er.wr W101).wr W102) (Or.inl (ow hw 43 rfl)) (ow hw 35 rfl) (ty := .long) (by decide) rfl rfl (g := (mkF m 204 #[.val (.ref rd_), .val (.ref sc_), .val (.ref bf_), .val (.long q_), .second, .val (.int m_), .val (.ref ms_), .val (.long (4 : Int64)), .second, .val (.int s_), .val (.long ee_), .second, .val (.int en_), .val (.int r_), .val (.int i_)] [(.long (q_ + (en_.toInt64))), (.ref rd_)])) rfl rfl (hb hby d11_204)
    refine Ends.go st104 ?_
    have Fw104 := ((Fh.other W101 (Or.inl ne_rd_sc_)).other W102 (Or.inl ne_rd_sc_)).same W104
    have K104 := K102.wr W104 (Or.inl (List.mem_of_getElem? (i := 0) rfl))
    have O104 := O102.wr W104 g_rd_
    have N104 := Fr.snoc X104 N102 g_rd_
    refine Ends.go (fun _ k => XS.aloadN X104.here hx rfl (hb hby d11_207) rfl rfl k) ?_
    refine Ends.go (fun _ k => XS.lload X104.here hx rfl (hb hby d11_208) rfl k) ?_
    obtain ⟨T105, h105, X105, e105, W105, st105⟩ := putF X104 hx hZ hown (host := "") (Or.inl (ow hw 114 rfl)) Via.refl e104 (((Fe.other W101 (Or.inl ne_rd_sc_)).other W102 (Or.inl ne_rd_sc_)).other W104 (Or.inr (slot_ne (Or.inl (ow hw 115 rfl)) (Or.inl (ow hw 43 rfl)) (by decide) (t := .long) (t' := .long) (by decide) (by decide)))) (((Er.wr W101).wr W102).wr W104) (Or.inl (ow hw 115 rfl)) (ow hw 35 rfl) (ty := .long) (by decide) rfl rfl (g := (mkF m 210 #[.val (.ref rd_), .val (.ref sc_), .val (.ref bf_), .val (.long q_), .second, .val (.int m_), .val (.ref ms_), .val (.long (4 : Int64)), .second, .val (.int s_), .val (.long ee_), .second, .val (.int en_), .val (.int r_), .val (.int i_)] [(.long ee_), (.ref rd_)])) rfl rfl (hb hby d11_210)
    refine Ends.go st105 ?_
    have Fw105 := (((Fe.other W101 (Or.inl ne_rd_sc_)).other W102 (Or.inl ne_rd_sc_)).other W104 (Or.inr (slot_ne (Or.inl (ow hw 115 rfl)) (Or.inl (ow hw 43 rfl)) (by decide) (t := .long) (t' := .long) (by decide) (by decide)))).same W105
    have K105 := K104.wr W105 (Or.inl (List.mem_of_getElem? (i := 0) rfl))
    have O105 := O104.wr W105 g_rd_
    have N105 := Fr.snoc X105 N104 g_rd_
    show Ends p e below s T105 (mkF m 213 #[.val (.ref rd_), .val (.ref sc_), .val (.ref bf_), .val (.long q_), .second, .val (.int m_), .val (.ref ms_), .val (.long (4 : Int64)), .second, .val (.int s_), .val (.long ee_), .second, .val (.int en_), .val (.int r_), .val (.int i_)] []) _ _ _
    refine Ends.go (fun _ k => XS.iload X105.here hx rfl (hb hby d11_213) rfl k) ?_
    refine Ends.ret X105 hx Bd.notSynchronized (t := .int) Bd.returns rfl (Or.inl ⟨rfl, by simp, _, rfl⟩) (hb hby d11_215) (by decide) (by decide) ?_
    rw [e105]
    exact ⟨ee_, rfl, N105, K105, (by rw [hdd, ← hd1]; exact (((Fw101.other W102 (Or.inr (slot_ne (Or.inl (ow hw 118 rfl)) (Or.inl (ow hw 92 rfl)) (by decide) (t := .long) (t' := .long) (by decide) (by decide)))).other W104 (Or.inl (Ne.symm ne_rd_sc_))).other W105 (Or.inl (Ne.symm ne_rd_sc_)))), ((Fw102.other W104 (Or.inl (Ne.symm ne_rd_sc_))).other W105 (Or.inl (Ne.symm ne_rd_sc_))), (Fw104.other W105 (Or.inr (slot_ne (Or.inl (ow hw 43 rfl)) (Or.inl (ow hw 115 rfl)) (by decide) (t := .long) (t' := .long) (by decide) (by decide)))), Fw105, ((((Ft.other W101 (Or.inl ne_rd_sc_)).other W102 (Or.inl ne_rd_sc_)).other W104 (Or.inr (slot_ne (Or.inr (ow hw 45 rfl)) (Or.inl (ow hw 43 rfl)) (by decide) (t := (.object "com/example/sindano/sindano/boyermoore/ShiftOr")) (t' := .long) (by decide) (by decide)))).other W105 (Or.inr (slot_ne (Or.inr (ow hw 45 rfl)) (Or.inl (ow hw 115 rfl)) (by decide) (t := (.object "com/example/sindano/sindano/boyermoore/ShiftOr")) (t' := .long) (by decide) (by decide)))), hv2⟩
  have J121_8 : ∀ (T8 : State) (h8 : Heap) (lcs : List Loc) (d1_ : Int64) (w1_ : Int64) (t1_ : Int64) (e1_ : Int64) (ee_ : Int64) (X8 : Stand p l e ({ frames := 0, cells := 0, slots := 0, locals := 0 } : Room) s m #[(.ref rd_), (.ref sc_), (.ref bf_), (.long q_), (.int m_)] below meth c T8 lcs 0 0) (eT8 : T8.heap = h8) (O8 : Old Z n0 h8) (N8 : Fr n0 lcs) (K8 : Keep h0 h8 [rd_, sc_]) (Er : Exa Z h8 rd_ "com/example/sindano/sindano/boyermoore/ShiftOr$Reading") (Es : Exa Z h8 sc_ "com/example/sindano/sindano/boyermoore/Stretches") (Ft : Fld Z h8 rd_ "com/example/sindano/sindano/boyermoore/ShiftOr$Reading" "table" "Lcom/example/sindano/sindano/boyermoore/ShiftOr;" (.ref so_)) (Fh : Fld Z h8 rd_ "com/example/sindano/sindano/boyermoore/ShiftOr$Reading" "through" "J" (.long t1_)) (Fe : Fld Z h8 rd_ "com/example/sindano/sindano/boyermoore/ShiftOr$Reading" "ending" "J" (.long e1_)) (Fi : Fld Z h8 sc_ "com/example/sindano/sindano/boyermoore/Stretches" "window" "J" (.long w1_)) (Fd : Fld Z h8 sc_ "com/example/sindano/sindano/boyermoore/Stretches" "made" "J" (.long d1_)) (Vb : Arv Z h8 bf_ kb_ .byte (8 : Int32) [(.int u0_), (.int u1_), (.int u2_), (.int u3_), (.int u4_), (.int u5_), (.int u6_), (.int u7_)] (.int (0 : Int32))) (M0 : Lng Z h8 ms_ f_) (hd1 : d1_ = if (q_ + (s_.toInt64)) = t_ then d_ else d_ + 2) (hI : own_I a0_ a1_ u6_ u7_ ee_) (hF : r_ = own_first a0_ a1_ a2_ u0_ u1_ u2_ u3_ u4_ u5_ u6_ u7_ 8 m_) (him : ¬ m_ < (8 : Int32)), Ends p e below s T8 (mkF m 121 #[.val (.ref rd_), .val (.ref sc_), .val (.ref bf_), .val (.long q_), .second, .val (.int m_), .val (.ref ms_), .val (.long (4 : Int64)), .second, .val (.int s_), .val (.long ee_), .second, .val (.int m_), .val (.int (-1 : Int32)), .val (.int (8 : Int32))] []) ({ frames := 0, cells := 0, slots := 0, locals := 0 } : Room).cells ({ frames := 0, cells := 0, slots := 0, locals := 0 } : Room).slots (fun v h L => ∃ e' : Int64, v = some (.int r_) ∧ Fr n0 L ∧ Keep h0 h [rd_, sc_] ∧ Fld Z h sc_ "com/example/sindano/sindano/boyermoore/Stretches" "made" "J" (.long dd_) ∧ Fld Z h sc_ "com/example/sindano/sindano/boyermoore/Stretches" "window" "J" (.long (q_ + (en_.toInt64))) ∧ Fld Z h rd_ "com/example/sindano/sindano/boyermoore/ShiftOr$Reading" "through" "J" (.long (q_ + (en_.toInt64))) ∧ Fld Z h rd_ "com/example/sindano/sindano/boyermoore/ShiftOr$Reading" "ending" "J" (.long e') ∧ Fld Z h rd_ "com/example/sindano/sindano/boyermoore/ShiftOr$Reading" "table" "Lcom/example/sindano/sindano/boyermoore/ShiftOr;" (.ref so_) ∧ own_inv a0_ a1_ a2_ u0_ u1_ u2_ u3_ u4_ u5_ u6_ u7_ en_ e') := by
    intro T8 h8 lcs d1_ w1_ t1_ e1_ ee_ X8 eT8 O8 N8 K8 Er Es Ft Fh Fe Fi Fd Vb M0 hd1 hI hF him
    show Ends p e below s T8 (mkF m 121 #[.val (.ref rd_), .val (.ref sc_), .val (.ref bf_), .val (.long q_), .second, .val (.int m_), .val (.ref ms_), .val (.long (4 : Int64)), .second, .val (.int s_), .val (.long ee_), .second, .val (.int m_), .val (.int (-1 : Int32)), .val (.int (8 : Int32))] []) _ _ _
    refine Ends.go (fun _ k => XS.iload X8.here hx rfl (hb hby d11_121) rfl k) ?_
    refine Ends.go (fun _ k => XS.iload X8.here hx rfl (hb hby d11_123) rfl k) ?_
    show Ends p e below s T8 (mkF m 125 #[.val (.ref rd_), .val (.ref sc_), .val (.ref bf_), .val (.long q_), .second, .val (.int m_), .val (.ref ms_), .val (.long (4 : Int64)), .second, .val (.int s_), .val (.long ee_), .second, .val (.int m_), .val (.int (-1 : Int32)), .val (.int (8 : Int32))] [(.int m_), (.int (8 : Int32))]) _ _ _
    refine Ends.go (fun _ k => XS.icmpYes X8.here hx rfl (pc0 := 125) (pc' := 175) rfl (hb hby d11_125) rfl (flt ((own_m8 hl) : ¬ ((8 : Int32) < m_))).2.1 (by decide) (by decide) k) ?_
    have hR : r_ = -1 := hF.trans (own_fe8 (own_m8 hl))
    obtain rfl : m_ = (8 : Int32) := own_meq him (own_m8 hl)
    exact J175 _ _ _ _ _ _ _ ee_ (8 : Int32) _ (8 : Int32) X8 eT8 O8 N8 K8 Er Es Ft Fh Fe Fi Fd Vb M0 hd1 hR (own_enm hR hen) (own_iv8 hI)
  have J121_7 : ∀ (T8 : State) (h8 : Heap) (lcs : List Loc) (d1_ : Int64) (w1_ : Int64) (t1_ : Int64) (e1_ : Int64) (ee_ : Int64) (X8 : Stand p l e ({ frames := 0, cells := 0, slots := 0, locals := 0 } : Room) s m #[(.ref rd_), (.ref sc_), (.ref bf_), (.long q_), (.int m_)] below meth c T8 lcs 0 0) (eT8 : T8.heap = h8) (O8 : Old Z n0 h8) (N8 : Fr n0 lcs) (K8 : Keep h0 h8 [rd_, sc_]) (Er : Exa Z h8 rd_ "com/example/sindano/sindano/boyermoore/ShiftOr$Reading") (Es : Exa Z h8 sc_ "com/example/sindano/sindano/boyermoore/Stretches") (Ft : Fld Z h8 rd_ "com/example/sindano/sindano/boyermoore/ShiftOr$Reading" "table" "Lcom/example/sindano/sindano/boyermoore/ShiftOr;" (.ref so_)) (Fh : Fld Z h8 rd_ "com/example/sindano/sindano/boyermoore/ShiftOr$Reading" "through" "J" (.long t1_)) (Fe : Fld Z h8 rd_ "com/example/sindano/sindano/boyermoore/ShiftOr$Reading" "ending" "J" (.long e1_)) (Fi : Fld Z h8 sc_ "com/example/sindano/sindano/boyermoore/Stretches" "window" "J" (.long w1_)) (Fd : Fld Z h8 sc_ "com/example/sindano/sindano/boyermoore/Stretches" "made" "J" (.long d1_)) (Vb : Arv Z h8 bf_ kb_ .byte (8 : Int32) [(.int u0_), (.int u1_), (.int u2_), (.int u3_), (.int u4_), (.int u5_), (.int u6_), (.int u7_)] (.int (0 : Int32))) (M0 : Lng Z h8 ms_ f_) (hd1 : d1_ = if (q_ + (s_.toInt64)) = t_ then d_ else d_ + 2) (hI : own_I a0_ a1_ u5_ u6_ ee_) (hF : r_ = own_first a0_ a1_ a2_ u0_ u1_ u2_ u3_ u4_ u5_ u6_ u7_ 7 m_) (him : ¬ m_ < (7 : Int32)), Ends p e below s T8 (mkF m 121 #[.val (.ref rd_), .val (.ref sc_), .val (.ref bf_), .val (.long q_), .second, .val (.int m_), .val (.ref ms_), .val (.long (4 : Int64)), .second, .val (.int s_), .val (.long ee_), .second, .val (.int m_), .val (.int (-1 : Int32)), .val (.int (7 : Int32))] []) ({ frames := 0, cells := 0, slots := 0, locals := 0 } : Room).cells ({ frames := 0, cells := 0, slots := 0, locals := 0 } : Room).slots (fun v h L => ∃ e' : Int64, v = some (.int r_) ∧ Fr n0 L ∧ Keep h0 h [rd_, sc_] ∧ Fld Z h sc_ "com/example/sindano/sindano/boyermoore/Stretches" "made" "J" (.long dd_) ∧ Fld Z h sc_ "com/example/sindano/sindano/boyermoore/Stretches" "window" "J" (.long (q_ + (en_.toInt64))) ∧ Fld Z h rd_ "com/example/sindano/sindano/boyermoore/ShiftOr$Reading" "through" "J" (.long (q_ + (en_.toInt64))) ∧ Fld Z h rd_ "com/example/sindano/sindano/boyermoore/ShiftOr$Reading" "ending" "J" (.long e') ∧ Fld Z h rd_ "com/example/sindano/sindano/boyermoore/ShiftOr$Reading" "table" "Lcom/example/sindano/sindano/boyermoore/ShiftOr;" (.ref so_) ∧ own_inv a0_ a1_ a2_ u0_ u1_ u2_ u3_ u4_ u5_ u6_ u7_ en_ e') := by
    intro T8 h8 lcs d1_ w1_ t1_ e1_ ee_ X8 eT8 O8 N8 K8 Er Es Ft Fh Fe Fi Fd Vb M0 hd1 hI hF him
    show Ends p e below s T8 (mkF m 121 #[.val (.ref rd_), .val (.ref sc_), .val (.ref bf_), .val (.long q_), .second, .val (.int m_), .val (.ref ms_), .val (.long (4 : Int64)), .second, .val (.int s_), .val (.long ee_), .second, .val (.int m_), .val (.int (-1 : Int32)), .val (.int (7 : Int32))] []) _ _ _
    refine Ends.go (fun _ k => XS.iload X8.here hx rfl (hb hby d11_121) rfl k) ?_
    refine Ends.go (fun _ k => XS.iload X8.here hx rfl (hb hby d11_123) rfl k) ?_
    show Ends p e below s T8 (mkF m 125 #[.val (.ref rd_), .val (.ref sc_), .val (.ref bf_), .val (.long q_), .second, .val (.int m_), .val (.ref ms_), .val (.long (4 : Int64)), .second, .val (.int s_), .val (.long ee_), .second, .val (.int m_), .val (.int (-1 : Int32)), .val (.int (7 : Int32))] [(.int m_), (.int (7 : Int32))]) _ _ _
    by_cases hc125_106 : (7 : Int32) < m_
    · refine Ends.go (fun _ k => XS.icmpNo X8.here hx rfl (hb hby d11_125) rfl (tlt hc125_106).2.1 k) ?_
      refine Ends.go (fun _ k => XS.lload X8.here hx rfl (hb hby d11_128) rfl k) ?_
      refine Ends.go (fun _ k => XS.iconst X8.here hx rfl (hb hby d11_130) k) ?_
      refine Ends.go (fun _ k => XS.lshl X8.here hx rfl (hb hby d11_131) rfl k) ?_
      show Ends p e below s T8 (mkF m 132 #[.val (.ref rd_), .val (.ref sc_), .val (.ref bf_), .val (.long q_), .second, .val (.int m_), .val (.ref ms_), .val (.long (4 : Int64)), .second, .val (.int s_), .val (.long ee_), .second, .val (.int m_), .val (.int (-1 : Int32)), .val (.int (7 : Int32))] [(.long (ee_ <<< ((1 : Int32) &&& 0x3f).toInt64))]) _ _ _
      refine Ends.go (fun _ k => XS.aload X8.here hx rfl (hb hby d11_132) rfl rfl k) ?_
      refine Ends.go (fun _ k => XS.aloadN X8.here hx rfl (hb hby d11_134) rfl rfl k) ?_
      refine Ends.go (fun _ k => XS.iload X8.here hx rfl (hb hby d11_135) rfl k) ?_
      obtain ⟨cl107, Ar107, q107, S107, M107, H107, G107⟩ := id Vb
      have hin107 := inb_of (j := (7 : Int32)) S107 ⟨by decide, by decide⟩
      refine Ends.go (X8.baloadBytes hx (j := (7 : Int32)) (v := (.int u7_)) (by rw [eT8]; exact Ar107.1) (State.isArrayOf_alike hZ.alike Ar107.2.1) Ar107.2.2 hin107 (H107.at hin107 rfl) (g := (mkF m 137 #[.val (.ref rd_), .val (.ref sc_), .val (.ref bf_), .val (.long q_), .second, .val (.int m_), .val (.ref ms_), .val (.long (4 : Int64)), .second, .val (.int s_), .val (.long ee_), .second, .val (.int m_), .val (.int (-1 : Int32)), .val (.int (7 : Int32))] [(.int (7 : Int32)), (.ref bf_), (.ref ms_), (.long (ee_ <<< ((1 : Int32) &&& 0x3f).toInt64))])) rfl rfl (hb hby d11_137)) ?_
      show Ends p e below s T8 (mkF m 138 #[.val (.ref rd_), .val (.ref sc_), .val (.ref bf_), .val (.long q_), .second, .val (.int m_), .val (.ref ms_), .val (.long (4 : Int64)), .second, .val (.int s_), .val (.long ee_), .second, .val (.int m_), .val (.int (-1 : Int32)), .val (.int (7 : Int32))] [(.int u7_), (.ref ms_), (.long (ee_ <<< ((1 : Int32) &&& 0x3f).toInt64))]) _ _ _
      refine Ends.go (fun _ k => XS.sipush X8.here hx rfl (hb hby d11_138) k) ?_
      refine Ends.go (fun _ k => XS.iand X8.here hx rfl (hb hby d11_141) rfl k) ?_
      obtain ⟨cl108, Ar108, S108, H108⟩ := id M0
      have hin108 := inb_of (j := (u7_ &&& (255 : Int32))) S108 (own_in255 u7_)
      refine Ends.go (X8.laload hx (j := (u7_ &&& (255 : Int32))) (v := (.long (f_ ((u7_ &&& (255 : Int32)).toNatClampNeg)))) (by rw [eT8]; exact Ar108.1) (State.isArrayOf_alike hZ.alike Ar108.2.1) Ar108.2.2 hin108 (H108 _ (Nat.lt_of_not_le fun y => hin108 (Or.inr y))) (g := (mkF m 142 #[.val (.ref rd_), .val (.ref sc_), .val (.ref bf_), .val (.long q_), .second, .val (.int m_), .val (.ref ms_), .val (.long (4 : Int64)), .second, .val (.int s_), .val (.long ee_), .second, .val (.int m_), .val (.int (-1 : Int32)), .val (.int (7 : Int32))] [(.int (u7_ &&& (255 : Int32))), (.ref ms_), (.long (ee_ <<< ((1 : Int32) &&& 0x3f).toInt64))])) rfl rfl (hb hby d11_142)) ?_
      refine Ends.go (fun _ k => XS.lor X8.here hx rfl (hb hby d11_143) rfl k) ?_
      show Ends p e below s T8 (mkF m 144 #[.val (.ref rd_), .val (.ref sc_), .val (.ref bf_), .val (.long q_), .second, .val (.int m_), .val (.ref ms_), .val (.long (4 : Int64)), .second, .val (.int s_), .val (.long ee_), .second, .val (.int m_), .val (.int (-1 : Int32)), .val (.int (7 : Int32))] [(.long ((ee_ <<< ((1 : Int32) &&& 0x3f).toInt64) ||| (f_ ((u7_ &&& (255 : Int32)).toNatClampNeg))))]) _ _ _
      refine Ends.go (fun _ k => XS.lstore X8.here hx rfl (hb hby d11_144) rfl (l' := #[.val (.ref rd_), .val (.ref sc_), .val (.ref bf_), .val (.long q_), .second, .val (.int m_), .val (.ref ms_), .val (.long (4 : Int64)), .second, .val (.int s_), .val (.long ((ee_ <<< ((1 : Int32) &&& 0x3f).toInt64) ||| (f_ ((u7_ &&& (255 : Int32)).toNatClampNeg)))), .second, .val (.int m_), .val (.int (-1 : Int32)), .val (.int (7 : Int32))]) rfl k) ?_
      refine Ends.go (fun _ k => XS.lload X8.here hx rfl (hb hby d11_146) rfl k) ?_
      refine Ends.go (fun _ k => XS.lload X8.here hx rfl (hb hby d11_148) rfl k) ?_
      refine Ends.go (fun _ k => XS.land X8.here hx rfl (hb hby d11_150) rfl k) ?_
      show Ends p e below s T8 (mkF m 151 #[.val (.ref rd_), .val (.ref sc_), .val (.ref bf_), .val (.long q_), .second, .val (.int m_), .val (.ref ms_), .val (.long (4 : Int64)), .second, .val (.int s_), .val (.long ((ee_ <<< ((1 : Int32) &&& 0x3f).toInt64) ||| (f_ ((u7_ &&& (255 : Int32)).toNatClampNeg)))), .second, .val (.int m_), .val (.int (-1 : Int32)), .val (.int (7 : Int32))] [(.long (((ee_ <<< ((1 : Int32) &&& 0x3f).toInt64) ||| (f_ ((u7_ &&& (255 : Int32)).toNatClampNeg))) &&& (4 : Int64)))]) _ _ _
      refine Ends.go (fun _ k => XS.lconst X8.here hx rfl (hb hby d11_151) k) ?_
      refine Ends.go (fun _ k => XS.lcmp X8.here hx rfl (hb hby d11_152) rfl k) ?_
      by_cases hc153_109 : (lcmpW (((ee_ <<< ((1 : Int32) &&& 0x3f).toInt64) ||| (f_ ((u7_ &&& (255 : Int32)).toNatClampNeg))) &&& (4 : Int64)) (0 : Int64)) = (0 : Int32)
      · refine Ends.go (fun _ k => XS.ifNo X8.here hx rfl (hb hby d11_153) rfl ((if0 _ _).trans (teq hc153_109).2) k) ?_
        refine Ends.go (fun _ k => XS.iload X8.here hx rfl (hb hby d11_156) rfl k) ?_
        show Ends p e below s T8 (mkF m 158 #[.val (.ref rd_), .val (.ref sc_), .val (.ref bf_), .val (.long q_), .second, .val (.int m_), .val (.ref ms_), .val (.long (4 : Int64)), .second, .val (.int s_), .val (.long ((ee_ <<< ((1 : Int32) &&& 0x3f).toInt64) ||| (f_ ((u7_ &&& (255 : Int32)).toNatClampNeg)))), .second, .val (.int m_), .val (.int (-1 : Int32)), .val (.int (7 : Int32))] [(.int (7 : Int32))]) _ _ _
        refine Ends.go (fun _ k => XS.iconst X8.here hx rfl (hb hby d11_158) k) ?_
        refine Ends.go (fun _ k => XS.iadd X8.here hx rfl (hb hby d11_159) rfl k) ?_
        refine Ends.go (fun _ k => XS.istore X8.here hx rfl (hb hby d11_160) rfl (l' := #[.val (.ref rd_), .val (.ref sc_), .val (.ref bf_), .val (.long q_), .second, .val (.int m_), .val (.ref ms_), .val (.long (4 : Int64)), .second, .val (.int s_), .val (.long ((ee_ <<< ((1 : Int32) &&& 0x3f).toInt64) ||| (f_ ((u7_ &&& (255 : Int32)).toNatClampNeg)))), .second, .val (.int (8 : Int32)), .val (.int (-1 : Int32)), .val (.int (7 : Int32))]) rfl k) ?_
        refine Ends.go (fun _ k => XS.iload X8.here hx rfl (hb hby d11_162) rfl k) ?_
        show Ends p e below s T8 (mkF m 164 #[.val (.ref rd_), .val (.ref sc_), .val (.ref bf_), .val (.long q_), .second, .val (.int m_), .val (.ref ms_), .val (.long (4 : Int64)), .second, .val (.int s_), .val (.long ((ee_ <<< ((1 : Int32) &&& 0x3f).toInt64) ||| (f_ ((u7_ &&& (255 : Int32)).toNatClampNeg)))), .second, .val (.int (8 : Int32)), .val (.int (-1 : Int32)), .val (.int (7 : Int32))] [(.int (8 : Int32))]) _ _ _
        refine Ends.go (fun _ k => XS.istore X8.here hx rfl (hb hby d11_164) rfl (l' := #[.val (.ref rd_), .val (.ref sc_), .val (.ref bf_), .val (.long q_), .second, .val (.int m_), .val (.ref ms_), .val (.long (4 : Int64)), .second, .val (.int s_), .val (.long ((ee_ <<< ((1 : Int32) &&& 0x3f).toInt64) ||| (f_ ((u7_ &&& (255 : Int32)).toNatClampNeg)))), .second, .val (.int (8 : Int32)), .val (.int (8 : Int32)), .val (.int (7 : Int32))]) rfl k) ?_
        refine Ends.go (fun _ k => XS.goto X8.here hx rfl (pc0 := 166) (pc' := 175) rfl (hb hby d11_166) (by decide) (by decide) k) ?_
        have ht := own_turn hI hm hu7_
        have hR : r_ = 8 := hF.trans (own_fh7 hc125_106 (ht.2.mp ((lw_eq _ _).mp hc153_109)))
        exact J175 _ _ _ _ _ _ _ _ (8 : Int32) _ (7 : Int32) X8 eT8 O8 N8 K8 Er Es Ft Fh Fe Fi Fd Vb M0 hd1 hR (own_enr hR (by decide) hen) (own_iv8 ht.1)
      · refine Ends.go (fun _ k => XS.ifYes X8.here hx rfl (pc0 := 153) (pc' := 169) rfl (hb hby d11_153) rfl ((if0 _ _).trans (feq hc153_109).2) (by decide) (by decide) k) ?_
        refine Ends.go (fun _ k => XS.iinc X8.here hx rfl (hb hby d11_169) rfl (l' := #[.val (.ref rd_), .val (.ref sc_), .val (.ref bf_), .val (.long q_), .second, .val (.int m_), .val (.ref ms_), .val (.long (4 : Int64)), .second, .val (.int s_), .val (.long ((ee_ <<< ((1 : Int32) &&& 0x3f).toInt64) ||| (f_ ((u7_ &&& (255 : Int32)).toNatClampNeg)))), .second, .val (.int m_), .val (.int (-1 : Int32)), .val (.int (8 : Int32))]) rfl k) ?_
        show Ends p e below s T8 (mkF m 172 #[.val (.ref rd_), .val (.ref sc_), .val (.ref bf_), .val (.long q_), .second, .val (.int m_), .val (.ref ms_), .val (.long (4 : Int64)), .second, .val (.int s_), .val (.long ((ee_ <<< ((1 : Int32) &&& 0x3f).toInt64) ||| (f_ ((u7_ &&& (255 : Int32)).toNatClampNeg)))), .second, .val (.int m_), .val (.int (-1 : Int32)), .val (.int (8 : Int32))] []) _ _ _
        refine Ends.go (fun _ k => XS.goto X8.here hx rfl (pc0 := 172) (pc' := 121) rfl (hb hby d11_172) (by decide) (by decide) k) ?_
        have ht := own_turn hI hm hu7_
        exact J121_8 _ _ _ _ _ _ _ _ X8 eT8 O8 N8 K8 Er Es Ft Fh Fe Fi Fd Vb M0 hd1 ht.1 (hF.trans (own_fm7 (fun z => hc153_109 ((lw_eq _ _).mpr (ht.2.mpr z))))) (own_mlt (by decide) hc125_106)
    · refine Ends.go (fun _ k => XS.icmpYes X8.here hx rfl (pc0 := 125) (pc' := 175) rfl (hb hby d11_125) rfl (flt hc125_106).2.1 (by decide) (by decide) k) ?_
      have hR : r_ = -1 := hF.trans (own_fe7 hc125_106)
      obtain rfl : m_ = (7 : Int32) := own_meq him hc125_106
      exact J175 _ _ _ _ _ _ _ ee_ (7 : Int32) _ (7 : Int32) X8 eT8 O8 N8 K8 Er Es Ft Fh Fe Fi Fd Vb M0 hd1 hR (own_enm hR hen) (own_iv7 hI)
  have J121_6 : ∀ (T8 : State) (h8 : Heap) (lcs : List Loc) (d1_ : Int64) (w1_ : Int64) (t1_ : Int64) (e1_ : Int64) (ee_ : Int64) (X8 : Stand p l e ({ frames := 0, cells := 0, slots := 0, locals := 0 } : Room) s m #[(.ref rd_), (.ref sc_), (.ref bf_), (.long q_), (.int m_)] below meth c T8 lcs 0 0) (eT8 : T8.heap = h8) (O8 : Old Z n0 h8) (N8 : Fr n0 lcs) (K8 : Keep h0 h8 [rd_, sc_]) (Er : Exa Z h8 rd_ "com/example/sindano/sindano/boyermoore/ShiftOr$Reading") (Es : Exa Z h8 sc_ "com/example/sindano/sindano/boyermoore/Stretches") (Ft : Fld Z h8 rd_ "com/example/sindano/sindano/boyermoore/ShiftOr$Reading" "table" "Lcom/example/sindano/sindano/boyermoore/ShiftOr;" (.ref so_)) (Fh : Fld Z h8 rd_ "com/example/sindano/sindano/boyermoore/ShiftOr$Reading" "through" "J" (.long t1_)) (Fe : Fld Z h8 rd_ "com/example/sindano/sindano/boyermoore/ShiftOr$Reading" "ending" "J" (.long e1_)) (Fi : Fld Z h8 sc_ "com/example/sindano/sindano/boyermoore/Stretches" "window" "J" (.long w1_)) (Fd : Fld Z h8 sc_ "com/example/sindano/sindano/boyermoore/Stretches" "made" "J" (.long d1_)) (Vb : Arv Z h8 bf_ kb_ .byte (8 : Int32) [(.int u0_), (.int u1_), (.int u2_), (.int u3_), (.int u4_), (.int u5_), (.int u6_), (.int u7_)] (.int (0 : Int32))) (M0 : Lng Z h8 ms_ f_) (hd1 : d1_ = if (q_ + (s_.toInt64)) = t_ then d_ else d_ + 2) (hI : own_I a0_ a1_ u4_ u5_ ee_) (hF : r_ = own_first a0_ a1_ a2_ u0_ u1_ u2_ u3_ u4_ u5_ u6_ u7_ 6 m_) (him : ¬ m_ < (6 : Int32)), Ends p e below s T8 (mkF m 121 #[.val (.ref rd_), .val (.ref sc_), .val (.ref bf_), .val (.long q_), .second, .val (.int m_), .val (.ref ms_), .val (.long (4 : Int64)), .second, .val (.int s_), .val (.long ee_), .second, .val (.int m_), .val (.int (-1 : Int32)), .val (.int (6 : Int32))] []) ({ frames := 0, cells := 0, slots := 0, locals := 0 } : Room).cells ({ frames := 0, cells := 0, slots := 0, locals := 0 } : Room).slots (fun v h L => ∃ e' : Int64, v = some (.int r_) ∧ Fr n0 L ∧ Keep h0 h [rd_, sc_] ∧ Fld Z h sc_ "com/example/sindano/sindano/boyermoore/Stretches" "made" "J" (.long dd_) ∧ Fld Z h sc_ "com/example/sindano/sindano/boyermoore/Stretches" "window" "J" (.long (q_ + (en_.toInt64))) ∧ Fld Z h rd_ "com/example/sindano/sindano/boyermoore/ShiftOr$Reading" "through" "J" (.long (q_ + (en_.toInt64))) ∧ Fld Z h rd_ "com/example/sindano/sindano/boyermoore/ShiftOr$Reading" "ending" "J" (.long e') ∧ Fld Z h rd_ "com/example/sindano/sindano/boyermoore/ShiftOr$Reading" "table" "Lcom/example/sindano/sindano/boyermoore/ShiftOr;" (.ref so_) ∧ own_inv a0_ a1_ a2_ u0_ u1_ u2_ u3_ u4_ u5_ u6_ u7_ en_ e') := by
    intro T8 h8 lcs d1_ w1_ t1_ e1_ ee_ X8 eT8 O8 N8 K8 Er Es Ft Fh Fe Fi Fd Vb M0 hd1 hI hF him
    show Ends p e below s T8 (mkF m 121 #[.val (.ref rd_), .val (.ref sc_), .val (.ref bf_), .val (.long q_), .second, .val (.int m_), .val (.ref ms_), .val (.long (4 : Int64)), .second, .val (.int s_), .val (.long ee_), .second, .val (.int m_), .val (.int (-1 : Int32)), .val (.int (6 : Int32))] []) _ _ _
    refine Ends.go (fun _ k => XS.iload X8.here hx rfl (hb hby d11_121) rfl k) ?_
    show Ends p e below s T8 (mkF m 123 #[.val (.ref rd_), .val (.ref sc_), .val (.ref bf_), .val (.long q_), .second, .val (.int m_), .val (.ref ms_), .val (.long (4 : Int64)), .second, .val (.int s_), .val (.long ee_), .second, .val (.int m_), .val (.int (-1 : Int32)), .val (.int (6 : Int32))] [(.int (6 : Int32))]) _ _ _
    refine Ends.go (fun _ k => XS.iload X8.here hx rfl (hb hby d11_123) rfl k) ?_
    by_cases hc125_110 : (6 : Int32) < m_
    · refine Ends.go (fun _ k => XS.icmpNo X8.here hx rfl (hb hby d11_125) rfl (tlt hc125_110).2.1 k) ?_
      refine Ends.go (fun _ k => XS.lload X8.here hx rfl (hb hby d11_128) rfl k) ?_
      refine Ends.go (fun _ k => XS.iconst X8.here hx rfl (hb hby d11_130) k) ?_
      show Ends p e below s T8 (mkF m 131 #[.val (.ref rd_), .val (.ref sc_), .val (.ref bf_), .val (.long q_), .second, .val (.int m_), .val (.ref ms_), .val (.long (4 : Int64)), .second, .val (.int s_), .val (.long ee_), .second, .val (.int m_), .val (.int (-1 : Int32)), .val (.int (6 : Int32))] [(.int (1 : Int32)), (.long ee_)]) _ _ _
      refine Ends.go (fun _ k => XS.lshl X8.here hx rfl (hb hby d11_131) rfl k) ?_
      refine Ends.go (fun _ k => XS.aload X8.here hx rfl (hb hby d11_132) rfl rfl k) ?_
      refine Ends.go (fun _ k => XS.aloadN X8.here hx rfl (hb hby d11_134) rfl rfl k) ?_
      refine Ends.go (fun _ k => XS.iload X8.here hx rfl (hb hby d11_135) rfl k) ?_
      show Ends p e below s T8 (mkF m 137 #[.val (.ref rd_), .val (.ref sc_), .val (.ref bf_), .val (.long q_), .second, .val (.int m_), .val (.ref ms_), .val (.long (4 : Int64)), .second, .val (.int s_), .val (.long ee_), .second, .val (.int m_), .val (.int (-1 : Int32)), .val (.int (6 : Int32))] [(.int (6 : Int32)), (.ref bf_), (.ref ms_), (.long (ee_ <<< ((1 : Int32) &&& 0x3f).toInt64))]) _ _ _
      obtain ⟨cl111, Ar111, q111, S111, M111, H111, G111⟩ := id Vb
      have hin111 := inb_of (j := (6 : Int32)) S111 ⟨by decide, by decide⟩
      refine Ends.go (X8.baloadBytes hx (j := (6 : Int32)) (v := (.int u6_)) (by rw [eT8]; exact Ar111.1) (State.isArrayOf_alike hZ.alike Ar111.2.1) Ar111.2.2 hin111 (H111.at hin111 rfl) (g := (mkF m 137 #[.val (.ref rd_), .val (.ref sc_), .val (.ref bf_), .val (.long q_), .second, .val (.int m_), .val (.ref ms_), .val (.long (4 : Int64)), .second, .val (.int s_), .val (.long ee_), .second, .val (.int m_), .val (.int (-1 : Int32)), .val (.int (6 : Int32))] [(.int (6 : Int32)), (.ref bf_), (.ref ms_), (.long (ee_ <<< ((1 : Int32) &&& 0x3f).toInt64))])) rfl rfl (hb hby d11_137)) ?_
      refine Ends.go (fun _ k => XS.sipush X8.here hx rfl (hb hby d11_138) k) ?_
      refine Ends.go (fun _ k => XS.iand X8.here hx rfl (hb hby d11_141) rfl k) ?_
      obtain ⟨cl112, Ar112, S112, H112⟩ := id M0
      have hin112 := inb_of (j := (u6_ &&& (255 : Int32))) S112 (own_in255 u6_)
      refine Ends.go (X8.laload hx (j := (u6_ &&& (255 : Int32))) (v := (.long (f_ ((u6_ &&& (255 : Int32)).toNatClampNeg)))) (by rw [eT8]; exact Ar112.1) (State.isArrayOf_alike hZ.alike Ar112.2.1) Ar112.2.2 hin112 (H112 _ (Nat.lt_of_not_le fun y => hin112 (Or.inr y))) (g := (mkF m 142 #[.val (.ref rd_), .val (.ref sc_), .val (.ref bf_), .val (.long q_), .second, .val (.int m_), .val (.ref ms_), .val (.long (4 : Int64)), .second, .val (.int s_), .val (.long ee_), .second, .val (.int m_), .val (.int (-1 : Int32)), .val (.int (6 : Int32))] [(.int (u6_ &&& (255 : Int32))), (.ref ms_), (.long (ee_ <<< ((1 : Int32) &&& 0x3f).toInt64))])) rfl rfl (hb hby d11_142)) ?_
      show Ends p e below s T8 (mkF m 143 #[.val (.ref rd_), .val (.ref sc_), .val (.ref bf_), .val (.long q_), .second, .val (.int m_), .val (.ref ms_), .val (.long (4 : Int64)), .second, .val (.int s_), .val (.long ee_), .second, .val (.int m_), .val (.int (-1 : Int32)), .val (.int (6 : Int32))] [(.long (f_ ((u6_ &&& (255 : Int32)).toNatClampNeg))), (.long (ee_ <<< ((1 : Int32) &&& 0x3f).toInt64))]) _ _ _
      refine Ends.go (fun _ k => XS.lor X8.here hx rfl (hb hby d11_143) rfl k) ?_
      refine Ends.go (fun _ k => XS.lstore X8.here hx rfl (hb hby d11_144) rfl (l' := #[.val (.ref rd_), .val (.ref sc_), .val (.ref bf_), .val (.long q_), .second, .val (.int m_), .val (.ref ms_), .val (.long (4 : Int64)), .second, .val (.int s_), .val (.long ((ee_ <<< ((1 : Int32) &&& 0x3f).toInt64) ||| (f_ ((u6_ &&& (255 : Int32)).toNatClampNeg)))), .second, .val (.int m_), .val (.int (-1 : Int32)), .val (.int (6 : Int32))]) rfl k) ?_
      refine Ends.go (fun _ k => XS.lload X8.here hx rfl (hb hby d11_146) rfl k) ?_
      refine Ends.go (fun _ k => XS.lload X8.here hx rfl (hb hby d11_148) rfl k) ?_
      show Ends p e below s T8 (mkF m 150 #[.val (.ref rd_), .val (.ref sc_), .val (.ref bf_), .val (.long q_), .second, .val (.int m_), .val (.ref ms_), .val (.long (4 : Int64)), .second, .val (.int s_), .val (.long ((ee_ <<< ((1 : Int32) &&& 0x3f).toInt64) ||| (f_ ((u6_ &&& (255 : Int32)).toNatClampNeg)))), .second, .val (.int m_), .val (.int (-1 : Int32)), .val (.int (6 : Int32))] [(.long (4 : Int64)), (.long ((ee_ <<< ((1 : Int32) &&& 0x3f).toInt64) ||| (f_ ((u6_ &&& (255 : Int32)).toNatClampNeg))))]) _ _ _
      refine Ends.go (fun _ k => XS.land X8.here hx rfl (hb hby d11_150) rfl k) ?_
      refine Ends.go (fun _ k => XS.lconst X8.here hx rfl (hb hby d11_151) k) ?_
      refine Ends.go (fun _ k => XS.lcmp X8.here hx rfl (hb hby d11_152) rfl k) ?_
      by_cases hc153_113 : (lcmpW (((ee_ <<< ((1 : Int32) &&& 0x3f).toInt64) ||| (f_ ((u6_ &&& (255 : Int32)).toNatClampNeg))) &&& (4 : Int64)) (0 : Int64)) = (0 : Int32)
      · refine Ends.go (fun _ k => XS.ifNo X8.here hx rfl (hb hby d11_153) rfl ((if0 _ _).trans (teq hc153_113).2) k) ?_
        show Ends p e below s T8 (mkF m 156 #[.val (.ref rd_), .val (.ref sc_), .val (.ref bf_), .val (.long q_), .second, .val (.int m_), .val (.ref ms_), .val (.long (4 : Int64)), .second, .val (.int s_), .val (.long ((ee_ <<< ((1 : Int32) &&& 0x3f).toInt64) ||| (f_ ((u6_ &&& (255 : Int32)).toNatClampNeg)))), .second, .val (.int m_), .val (.int (-1 : Int32)), .val (.int (6 : Int32))] []) _ _ _
        refine Ends.go (fun _ k => XS.iload X8.here hx rfl (hb hby d11_156) rfl k) ?_
        refine Ends.go (fun _ k => XS.iconst X8.here hx rfl (hb hby d11_158) k) ?_
        refine Ends.go (fun _ k => XS.iadd X8.here hx rfl (hb hby d11_159) rfl k) ?_
        refine Ends.go (fun _ k => XS.istore X8.here hx rfl (hb hby d11_160) rfl (l' := #[.val (.ref rd_), .val (.ref sc_), .val (.ref bf_), .val (.long q_), .second, .val (.int m_), .val (.ref ms_), .val (.long (4 : Int64)), .second, .val (.int s_), .val (.long ((ee_ <<< ((1 : Int32) &&& 0x3f).toInt64) ||| (f_ ((u6_ &&& (255 : Int32)).toNatClampNeg)))), .second, .val (.int (7 : Int32)), .val (.int (-1 : Int32)), .val (.int (6 : Int32))]) rfl k) ?_
        show Ends p e below s T8 (mkF m 162 #[.val (.ref rd_), .val (.ref sc_), .val (.ref bf_), .val (.long q_), .second, .val (.int m_), .val (.ref ms_), .val (.long (4 : Int64)), .second, .val (.int s_), .val (.long ((ee_ <<< ((1 : Int32) &&& 0x3f).toInt64) ||| (f_ ((u6_ &&& (255 : Int32)).toNatClampNeg)))), .second, .val (.int (7 : Int32)), .val (.int (-1 : Int32)), .val (.int (6 : Int32))] []) _ _ _
        refine Ends.go (fun _ k => XS.iload X8.here hx rfl (hb hby d11_162) rfl k) ?_
        refine Ends.go (fun _ k => XS.istore X8.here hx rfl (hb hby d11_164) rfl (l' := #[.val (.ref rd_), .val (.ref sc_), .val (.ref bf_), .val (.long q_), .second, .val (.int m_), .val (.ref ms_), .val (.long (4 : Int64)), .second, .val (.int s_), .val (.long ((ee_ <<< ((1 : Int32) &&& 0x3f).toInt64) ||| (f_ ((u6_ &&& (255 : Int32)).toNatClampNeg)))), .second, .val (.int (7 : Int32)), .val (.int (7 : Int32)), .val (.int (6 : Int32))]) rfl k) ?_
        refine Ends.go (fun _ k => XS.goto X8.here hx rfl (pc0 := 166) (pc' := 175) rfl (hb hby d11_166) (by decide) (by decide) k) ?_
        have ht := own_turn hI hm hu6_
        have hR : r_ = 7 := hF.trans (own_fh6 hc125_110 (ht.2.mp ((lw_eq _ _).mp hc153_113)))
        exact J175 _ _ _ _ _ _ _ _ (7 : Int32) _ (6 : Int32) X8 eT8 O8 N8 K8 Er Es Ft Fh Fe Fi Fd Vb M0 hd1 hR (own_enr hR (by decide) hen) (own_iv7 ht.1)
      · refine Ends.go (fun _ k => XS.ifYes X8.here hx rfl (pc0 := 153) (pc' := 169) rfl (hb hby d11_153) rfl ((if0 _ _).trans (feq hc153_113).2) (by decide) (by decide) k) ?_
        show Ends p e below s T8 (mkF m 169 #[.val (.ref rd_), .val (.ref sc_), .val (.ref bf_), .val (.long q_), .second, .val (.int m_), .val (.ref ms_), .val (.long (4 : Int64)), .second, .val (.int s_), .val (.long ((ee_ <<< ((1 : Int32) &&& 0x3f).toInt64) ||| (f_ ((u6_ &&& (255 : Int32)).toNatClampNeg)))), .second, .val (.int m_), .val (.int (-1 : Int32)), .val (.int (6 : Int32))] []) _ _ _
        refine Ends.go (fun _ k => XS.iinc X8.here hx rfl (hb hby d11_169) rfl (l' := #[.val (.ref rd_), .val (.ref sc_), .val (.ref bf_), .val (.long q_), .second, .val (.int m_), .val (.ref ms_), .val (.long (4 : Int64)), .second, .val (.int s_), .val (.long ((ee_ <<< ((1 : Int32) &&& 0x3f).toInt64) ||| (f_ ((u6_ &&& (255 : Int32)).toNatClampNeg)))), .second, .val (.int m_), .val (.int (-1 : Int32)), .val (.int (7 : Int32))]) rfl k) ?_
        refine Ends.go (fun _ k => XS.goto X8.here hx rfl (pc0 := 172) (pc' := 121) rfl (hb hby d11_172) (by decide) (by decide) k) ?_
        have ht := own_turn hI hm hu6_
        exact J121_7 _ _ _ _ _ _ _ _ X8 eT8 O8 N8 K8 Er Es Ft Fh Fe Fi Fd Vb M0 hd1 ht.1 (hF.trans (own_fm6 (fun z => hc153_113 ((lw_eq _ _).mpr (ht.2.mpr z))))) (own_mlt (by decide) hc125_110)
    · refine Ends.go (fun _ k => XS.icmpYes X8.here hx rfl (pc0 := 125) (pc' := 175) rfl (hb hby d11_125) rfl (flt hc125_110).2.1 (by decide) (by decide) k) ?_
      have hR : r_ = -1 := hF.trans (own_fe6 hc125_110)
      obtain rfl : m_ = (6 : Int32) := own_meq him hc125_110
      exact J175 _ _ _ _ _ _ _ ee_ (6 : Int32) _ (6 : Int32) X8 eT8 O8 N8 K8 Er Es Ft Fh Fe Fi Fd Vb M0 hd1 hR (own_enm hR hen) (own_iv6 hI)
  have J121_5 : ∀ (T8 : State) (h8 : Heap) (lcs : List Loc) (d1_ : Int64) (w1_ : Int64) (t1_ : Int64) (e1_ : Int64) (ee_ : Int64) (X8 : Stand p l e ({ frames := 0, cells := 0, slots := 0, locals := 0 } : Room) s m #[(.ref rd_), (.ref sc_), (.ref bf_), (.long q_), (.int m_)] below meth c T8 lcs 0 0) (eT8 : T8.heap = h8) (O8 : Old Z n0 h8) (N8 : Fr n0 lcs) (K8 : Keep h0 h8 [rd_, sc_]) (Er : Exa Z h8 rd_ "com/example/sindano/sindano/boyermoore/ShiftOr$Reading") (Es : Exa Z h8 sc_ "com/example/sindano/sindano/boyermoore/Stretches") (Ft : Fld Z h8 rd_ "com/example/sindano/sindano/boyermoore/ShiftOr$Reading" "table" "Lcom/example/sindano/sindano/boyermoore/ShiftOr;" (.ref so_)) (Fh : Fld Z h8 rd_ "com/example/sindano/sindano/boyermoore/ShiftOr$Reading" "through" "J" (.long t1_)) (Fe : Fld Z h8 rd_ "com/example/sindano/sindano/boyermoore/ShiftOr$Reading" "ending" "J" (.long e1_)) (Fi : Fld Z h8 sc_ "com/example/sindano/sindano/boyermoore/Stretches" "window" "J" (.long w1_)) (Fd : Fld Z h8 sc_ "com/example/sindano/sindano/boyermoore/Stretches" "made" "J" (.long d1_)) (Vb : Arv Z h8 bf_ kb_ .byte (8 : Int32) [(.int u0_), (.int u1_), (.int u2_), (.int u3_), (.int u4_), (.int u5_), (.int u6_), (.int u7_)] (.int (0 : Int32))) (M0 : Lng Z h8 ms_ f_) (hd1 : d1_ = if (q_ + (s_.toInt64)) = t_ then d_ else d_ + 2) (hI : own_I a0_ a1_ u3_ u4_ ee_) (hF : r_ = own_first a0_ a1_ a2_ u0_ u1_ u2_ u3_ u4_ u5_ u6_ u7_ 5 m_) (him : ¬ m_ < (5 : Int32)), Ends p e below s T8 (mkF m 121 #[.val (.ref rd_), .val (.ref sc_), .val (.ref bf_), .val (.long q_), .second, .val (.int m_), .val (.ref ms_), .val (.long (4 : Int64)), .second, .val (.int s_), .val (.long ee_), .second, .val (.int m_), .val (.int (-1 : Int32)), .val (.int (5 : Int32))] []) ({ frames := 0, cells := 0, slots := 0, locals := 0 } : Room).cells ({ frames := 0, cells := 0, slots := 0, locals := 0 } : Room).slots (fun v h L => ∃ e' : Int64, v = some (.int r_) ∧ Fr n0 L ∧ Keep h0 h [rd_, sc_] ∧ Fld Z h sc_ "com/example/sindano/sindano/boyermoore/Stretches" "made" "J" (.long dd_) ∧ Fld Z h sc_ "com/example/sindano/sindano/boyermoore/Stretches" "window" "J" (.long (q_ + (en_.toInt64))) ∧ Fld Z h rd_ "com/example/sindano/sindano/boyermoore/ShiftOr$Reading" "through" "J" (.long (q_ + (en_.toInt64))) ∧ Fld Z h rd_ "com/example/sindano/sindano/boyermoore/ShiftOr$Reading" "ending" "J" (.long e') ∧ Fld Z h rd_ "com/example/sindano/sindano/boyermoore/ShiftOr$Reading" "table" "Lcom/example/sindano/sindano/boyermoore/ShiftOr;" (.ref so_) ∧ own_inv a0_ a1_ a2_ u0_ u1_ u2_ u3_ u4_ u5_ u6_ u7_ en_ e') := by
    intro T8 h8 lcs d1_ w1_ t1_ e1_ ee_ X8 eT8 O8 N8 K8 Er Es Ft Fh Fe Fi Fd Vb M0 hd1 hI hF him
    show Ends p e below s T8 (mkF m 121 #[.val (.ref rd_), .val (.ref sc_), .val (.ref bf_), .val (.long q_), .second, .val (.int m_), .val (.ref ms_), .val (.long (4 : Int64)), .second, .val (.int s_), .val (.long ee_), .second, .val (.int m_), .val (.int (-1 : Int32)), .val (.int (5 : Int32))] []) _ _ _
    refine Ends.go (fun _ k => XS.iload X8.here hx rfl (hb hby d11_121) rfl k) ?_
    refine Ends.go (fun _ k => XS.iload X8.here hx rfl (hb hby d11_123) rfl k) ?_
    by_cases hc125_114 : (5 : Int32) < m_
    · refine Ends.go (fun _ k => XS.icmpNo X8.here hx rfl (hb hby d11_125) rfl (tlt hc125_114).2.1 k) ?_
      refine Ends.go (fun _ k => XS.lload X8.here hx rfl (hb hby d11_128) rfl k) ?_
      show Ends p e below s T8 (mkF m 130 #[.val (.ref rd_), .val (.ref sc_), .val (.ref bf_), .val (.long q_), .second, .val (.int m_), .val (.ref ms_), .val (.long (4 : Int64)), .second, .val (.int s_), .val (.long ee_), .second, .val (.int m_), .val (.int (-1 : Int32)), .val (.int (5 : Int32))] [(.long ee_)]) _ _ _
      refine Ends.go (fun _ k => XS.iconst X8.here hx rfl (hb hby d11_130) k) ?_
      refine Ends.go (fun _ k => XS.lshl X8.here hx rfl (hb hby d11_131) rfl k) ?_
      refine Ends.go (fun _ k => XS.aload X8.here hx rfl (hb hby d11_132) rfl rfl k) ?_
      refine Ends.go (fun _ k => XS.aloadN X8.here hx rfl (hb hby d11_134) rfl rfl k) ?_
      show Ends p e below s T8 (mkF m 135 #[.val (.ref rd_), .val (.ref sc_), .val (.ref bf_), .val (.long q_), .second, .val (.int m_), .val (.ref ms_), .val (.long (4 : Int64)), .second, .val (.int s_), .val (.long ee_), .second, .val (.int m_), .val (.int (-1 : Int32)), .val (.int (5 : Int32))] [(.ref bf_), (.ref ms_), (.long (ee_ <<< ((1 : Int32) &&& 0x3f).toInt64))]) _ _ _
      refine Ends.go (fun _ k => XS.iload X8.here hx rfl (hb hby d11_135) rfl k) ?_
      obtain ⟨cl115, Ar115, q115, S115, M115, H115, G115⟩ := id Vb
      have hin115 := inb_of (j := (5 : Int32)) S115 ⟨by decide, by decide⟩
      refine Ends.go (X8.baloadBytes hx (j := (5 : Int32)) (v := (.int u5_)) (by rw [eT8]; exact Ar115.1) (State.isArrayOf_alike hZ.alike Ar115.2.1) Ar115.2.2 hin115 (H115.at hin115 rfl) (g := (mkF m 137 #[.val (.ref rd_), .val (.ref sc_), .val (.ref bf_), .val (.long q_), .second, .val (.int m_), .val (.ref ms_), .val (.long (4 : Int64)), .second, .val (.int s_), .val (.long ee_), .second, .val (.int m_), .val (.int (-1 : Int32)), .val (.int (5 : Int32))] [(.int (5 : Int32)), (.ref bf_), (.ref ms_), (.long (ee_ <<< ((1 : Int32) &&& 0x3f).toInt64))])) rfl rfl (hb hby d11_137)) ?_
      refine Ends.go (fun _ k => XS.sipush X8.here hx rfl (hb hby d11_138) k) ?_
      refine Ends.go (fun _ k => XS.iand X8.here hx rfl (hb hby d11_141) rfl k) ?_
      show Ends p e below s T8 (mkF m 142 #[.val (.ref rd_), .val (.ref sc_), .val (.ref bf_), .val (.long q_), .second, .val (.int m_), .val (.ref ms_), .val (.long (4 : Int64)), .second, .val (.int s_), .val (.long ee_), .second, .val (.int m_), .val (.int (-1 : Int32)), .val (.int (5 : Int32))] [(.int (u5_ &&& (255 : Int32))), (.ref ms_), (.long (ee_ <<< ((1 : Int32) &&& 0x3f).toInt64))]) _ _ _
      obtain ⟨cl116, Ar116, S116, H116⟩ := id M0
      have hin116 := inb_of (j := (u5_ &&& (255 : Int32))) S116 (own_in255 u5_)
      refine Ends.go (X8.laload hx (j := (u5_ &&& (255 : Int32))) (v := (.long (f_ ((u5_ &&& (255 : Int32)).toNatClampNeg)))) (by rw [eT8]; exact Ar116.1) (State.isArrayOf_alike hZ.alike Ar116.2.1) Ar116.2.2 hin116 (H116 _ (Nat.lt_of_not_le fun y => hin116 (Or.inr y))) (g := (mkF m 142 #[.val (.ref rd_), .val (.ref sc_), .val (.ref bf_), .val (.long q_), .second, .val (.int m_), .val (.ref ms_), .val (.long (4 : Int64)), .second, .val (.int s_), .val (.long ee_), .second, .val (.int m_), .val (.int (-1 : Int32)), .val (.int (5 : Int32))] [(.int (u5_ &&& (255 : Int32))), (.ref ms_), (.long (ee_ <<< ((1 : Int32) &&& 0x3f).toInt64))])) rfl rfl (hb hby d11_142)) ?_
      refine Ends.go (fun _ k => XS.lor X8.here hx rfl (hb hby d11_143) rfl k) ?_
      refine Ends.go (fun _ k => XS.lstore X8.here hx rfl (hb hby d11_144) rfl (l' := #[.val (.ref rd_), .val (.ref sc_), .val (.ref bf_), .val (.long q_), .second, .val (.int m_), .val (.ref ms_), .val (.long (4 : Int64)), .second, .val (.int s_), .val (.long ((ee_ <<< ((1 : Int32) &&& 0x3f).toInt64) ||| (f_ ((u5_ &&& (255 : Int32)).toNatClampNeg)))), .second, .val (.int m_), .val (.int (-1 : Int32)), .val (.int (5 : Int32))]) rfl k) ?_
      refine Ends.go (fun _ k => XS.lload X8.here hx rfl (hb hby d11_146) rfl k) ?_
      show Ends p e below s T8 (mkF m 148 #[.val (.ref rd_), .val (.ref sc_), .val (.ref bf_), .val (.long q_), .second, .val (.int m_), .val (.ref ms_), .val (.long (4 : Int64)), .second, .val (.int s_), .val (.long ((ee_ <<< ((1 : Int32) &&& 0x3f).toInt64) ||| (f_ ((u5_ &&& (255 : Int32)).toNatClampNeg)))), .second, .val (.int m_), .val (.int (-1 : Int32)), .val (.int (5 : Int32))] [(.long ((ee_ <<< ((1 : Int32) &&& 0x3f).toInt64) ||| (f_ ((u5_ &&& (255 : Int32)).toNatClampNeg))))]) _ _ _
      refine Ends.go (fun _ k => XS.lload X8.here hx rfl (hb hby d11_148) rfl k) ?_
      refine Ends.go (fun _ k => XS.land X8.here hx rfl (hb hby d11_150) rfl k) ?_
      refine Ends.go (fun _ k => XS.lconst X8.here hx rfl (hb hby d11_151) k) ?_
      refine Ends.go (fun _ k => XS.lcmp X8.here hx rfl (hb hby d11_152) rfl k) ?_
      show Ends p e below s T8 (mkF m 153 #[.val (.ref rd_), .val (.ref sc_), .val (.ref bf_), .val (.long q_), .second, .val (.int m_), .val (.ref ms_), .val (.long (4 : Int64)), .second, .val (.int s_), .val (.long ((ee_ <<< ((1 : Int32) &&& 0x3f).toInt64) ||| (f_ ((u5_ &&& (255 : Int32)).toNatClampNeg)))), .second, .val (.int m_), .val (.int (-1 : Int32)), .val (.int (5 : Int32))] [(.int (lcmpW (((ee_ <<< ((1 : Int32) &&& 0x3f).toInt64) ||| (f_ ((u5_ &&& (255 : Int32)).toNatClampNeg))) &&& (4 : Int64)) (0 : Int64)))]) _ _ _
      by_cases hc153_117 : (lcmpW (((ee_ <<< ((1 : Int32) &&& 0x3f).toInt64) ||| (f_ ((u5_ &&& (255 : Int32)).toNatClampNeg))) &&& (4 : Int64)) (0 : Int64)) = (0 : Int32)
      · refine Ends.go (fun _ k => XS.ifNo X8.here hx rfl (hb hby d11_153) rfl ((if0 _ _).trans (teq hc153_117).2) k) ?_
        refine Ends.go (fun _ k => XS.iload X8.here hx rfl (hb hby d11_156) rfl k) ?_
        refine Ends.go (fun _ k => XS.iconst X8.here hx rfl (hb hby d11_158) k) ?_
        refine Ends.go (fun _ k => XS.iadd X8.here hx rfl (hb hby d11_159) rfl k) ?_
        show Ends p e below s T8 (mkF m 160 #[.val (.ref rd_), .val (.ref sc_), .val (.ref bf_), .val (.long q_), .second, .val (.int m_), .val (.ref ms_), .val (.long (4 : Int64)), .second, .val (.int s_), .val (.long ((ee_ <<< ((1 : Int32) &&& 0x3f).toInt64) ||| (f_ ((u5_ &&& (255 : Int32)).toNatClampNeg)))), .second, .val (.int m_), .val (.int (-1 : Int32)), .val (.int (5 : Int32))] [(.int (6 : Int32))]) _ _ _
        refine Ends.go (fun _ k => XS.istore X8.here hx rfl (hb hby d11_160) rfl (l' := #[.val (.ref rd_), .val (.ref sc_), .val (.ref bf_), .val (.long q_), .second, .val (.int m_), .val (.ref ms_), .val (.long (4 : Int64)), .second, .val (.int s_), .val (.long ((ee_ <<< ((1 : Int32) &&& 0x3f).toInt64) ||| (f_ ((u5_ &&& (255 : Int32)).toNatClampNeg)))), .second, .val (.int (6 : Int32)), .val (.int (-1 : Int32)), .val (.int (5 : Int32))]) rfl k) ?_
        refine Ends.go (fun _ k => XS.iload X8.here hx rfl (hb hby d11_162) rfl k) ?_
        refine Ends.go (fun _ k => XS.istore X8.here hx rfl (hb hby d11_164) rfl (l' := #[.val (.ref rd_), .val (.ref sc_), .val (.ref bf_), .val (.long q_), .second, .val (.int m_), .val (.ref ms_), .val (.long (4 : Int64)), .second, .val (.int s_), .val (.long ((ee_ <<< ((1 : Int32) &&& 0x3f).toInt64) ||| (f_ ((u5_ &&& (255 : Int32)).toNatClampNeg)))), .second, .val (.int (6 : Int32)), .val (.int (6 : Int32)), .val (.int (5 : Int32))]) rfl k) ?_
        refine Ends.go (fun _ k => XS.goto X8.here hx rfl (pc0 := 166) (pc' := 175) rfl (hb hby d11_166) (by decide) (by decide) k) ?_
        show Ends p e below s T8 (mkF m 175 #[.val (.ref rd_), .val (.ref sc_), .val (.ref bf_), .val (.long q_), .second, .val (.int m_), .val (.ref ms_), .val (.long (4 : Int64)), .second, .val (.int s_), .val (.long ((ee_ <<< ((1 : Int32) &&& 0x3f).toInt64) ||| (f_ ((u5_ &&& (255 : Int32)).toNatClampNeg)))), .second, .val (.int (6 : Int32)), .val (.int (6 : Int32)), .val (.int (5 : Int32))] []) _ _ _
        have ht := own_turn hI hm hu5_
        have hR : r_ = 6 := hF.trans (own_fh5 hc125_114 (ht.2.mp ((lw_eq _ _).mp hc153_117)))
        exact J175 _ _ _ _ _ _ _ _ (6 : Int32) _ (5 : Int32) X8 eT8 O8 N8 K8 Er Es Ft Fh Fe Fi Fd Vb M0 hd1 hR (own_enr hR (by decide) hen) (own_iv6 ht.1)
      · refine Ends.go (fun _ k => XS.ifYes X8.here hx rfl (pc0 := 153) (pc' := 169) rfl (hb hby d11_153) rfl ((if0 _ _).trans (feq hc153_117).2) (by decide) (by decide) k) ?_
        refine Ends.go (fun _ k => XS.iinc X8.here hx rfl (hb hby d11_169) rfl (l' := #[.val (.ref rd_), .val (.ref sc_), .val (.ref bf_), .val (.long q_), .second, .val (.int m_), .val (.ref ms_), .val (.long (4 : Int64)), .second, .val (.int s_), .val (.long ((ee_ <<< ((1 : Int32) &&& 0x3f).toInt64) ||| (f_ ((u5_ &&& (255 : Int32)).toNatClampNeg)))), .second, .val (.int m_), .val (.int (-1 : Int32)), .val (.int (6 : Int32))]) rfl k) ?_
        refine Ends.go (fun _ k => XS.goto X8.here hx rfl (pc0 := 172) (pc' := 121) rfl (hb hby d11_172) (by decide) (by decide) k) ?_
        have ht := own_turn hI hm hu5_
        exact J121_6 _ _ _ _ _ _ _ _ X8 eT8 O8 N8 K8 Er Es Ft Fh Fe Fi Fd Vb M0 hd1 ht.1 (hF.trans (own_fm5 (fun z => hc153_117 ((lw_eq _ _).mpr (ht.2.mpr z))))) (own_mlt (by decide) hc125_114)
    · refine Ends.go (fun _ k => XS.icmpYes X8.here hx rfl (pc0 := 125) (pc' := 175) rfl (hb hby d11_125) rfl (flt hc125_114).2.1 (by decide) (by decide) k) ?_
      show Ends p e below s T8 (mkF m 175 #[.val (.ref rd_), .val (.ref sc_), .val (.ref bf_), .val (.long q_), .second, .val (.int m_), .val (.ref ms_), .val (.long (4 : Int64)), .second, .val (.int s_), .val (.long ee_), .second, .val (.int m_), .val (.int (-1 : Int32)), .val (.int (5 : Int32))] []) _ _ _
      have hR : r_ = -1 := hF.trans (own_fe5 hc125_114)
      obtain rfl : m_ = (5 : Int32) := own_meq him hc125_114
      exact J175 _ _ _ _ _ _ _ ee_ (5 : Int32) _ (5 : Int32) X8 eT8 O8 N8 K8 Er Es Ft Fh Fe Fi Fd Vb M0 hd1 hR (own_enm hR hen) (own_iv5 hI)
  have J121_4 : ∀ (T8 : State) (h8 : Heap) (lcs : List Loc) (d1_ : Int64) (w1_ : Int64) (t1_ : Int64) (e1_ : Int64) (ee_ : Int64) (X8 : Stand p l e ({ frames := 0, cells := 0, slots := 0, locals := 0 } : Room) s m #[(.ref rd_), (.ref sc_), (.ref bf_), (.long q_), (.int m_)] below meth c T8 lcs 0 0) (eT8 : T8.heap = h8) (O8 : Old Z n0 h8) (N8 : Fr n0 lcs) (K8 : Keep h0 h8 [rd_, sc_]) (Er : Exa Z h8 rd_ "com/example/sindano/sindano/boyermoore/ShiftOr$Reading") (Es : Exa Z h8 sc_ "com/example/sindano/sindano/boyermoore/Stretches") (Ft : Fld Z h8 rd_ "com/example/sindano/sindano/boyermoore/ShiftOr$Reading" "table" "Lcom/example/sindano/sindano/boyermoore/ShiftOr;" (.ref so_)) (Fh : Fld Z h8 rd_ "com/example/sindano/sindano/boyermoore/ShiftOr$Reading" "through" "J" (.long t1_)) (Fe : Fld Z h8 rd_ "com/example/sindano/sindano/boyermoore/ShiftOr$Reading" "ending" "J" (.long e1_)) (Fi : Fld Z h8 sc_ "com/example/sindano/sindano/boyermoore/Stretches" "window" "J" (.long w1_)) (Fd : Fld Z h8 sc_ "com/example/sindano/sindano/boyermoore/Stretches" "made" "J" (.long d1_)) (Vb : Arv Z h8 bf_ kb_ .byte (8 : Int32) [(.int u0_), (.int u1_), (.int u2_), (.int u3_), (.int u4_), (.int u5_), (.int u6_), (.int u7_)] (.int (0 : Int32))) (M0 : Lng Z h8 ms_ f_) (hd1 : d1_ = if (q_ + (s_.toInt64)) = t_ then d_ else d_ + 2) (hI : own_I a0_ a1_ u2_ u3_ ee_) (hF : r_ = own_first a0_ a1_ a2_ u0_ u1_ u2_ u3_ u4_ u5_ u6_ u7_ 4 m_) (him : ¬ m_ < (4 : Int32)), Ends p e below s T8 (mkF m 121 #[.val (.ref rd_), .val (.ref sc_), .val (.ref bf_), .val (.long q_), .second, .val (.int m_), .val (.ref ms_), .val (.long (4 : Int64)), .second, .val (.int s_), .val (.long ee_), .second, .val (.int m_), .val (.int (-1 : Int32)), .val (.int (4 : Int32))] []) ({ frames := 0, cells := 0, slots := 0, locals := 0 } : Room).cells ({ frames := 0, cells := 0, slots := 0, locals := 0 } : Room).slots (fun v h L => ∃ e' : Int64, v = some (.int r_) ∧ Fr n0 L ∧ Keep h0 h [rd_, sc_] ∧ Fld Z h sc_ "com/example/sindano/sindano/boyermoore/Stretches" "made" "J" (.long dd_) ∧ Fld Z h sc_ "com/example/sindano/sindano/boyermoore/Stretches" "window" "J" (.long (q_ + (en_.toInt64))) ∧ Fld Z h rd_ "com/example/sindano/sindano/boyermoore/ShiftOr$Reading" "through" "J" (.long (q_ + (en_.toInt64))) ∧ Fld Z h rd_ "com/example/sindano/sindano/boyermoore/ShiftOr$Reading" "ending" "J" (.long e') ∧ Fld Z h rd_ "com/example/sindano/sindano/boyermoore/ShiftOr$Reading" "table" "Lcom/example/sindano/sindano/boyermoore/ShiftOr;" (.ref so_) ∧ own_inv a0_ a1_ a2_ u0_ u1_ u2_ u3_ u4_ u5_ u6_ u7_ en_ e') := by
    intro T8 h8 lcs d1_ w1_ t1_ e1_ ee_ X8 eT8 O8 N8 K8 Er Es Ft Fh Fe Fi Fd Vb M0 hd1 hI hF him
    show Ends p e below s T8 (mkF m 121 #[.val (.ref rd_), .val (.ref sc_), .val (.ref bf_), .val (.long q_), .second, .val (.int m_), .val (.ref ms_), .val (.long (4 : Int64)), .second, .val (.int s_), .val (.long ee_), .second, .val (.int m_), .val (.int (-1 : Int32)), .val (.int (4 : Int32))] []) _ _ _
    refine Ends.go (fun _ k => XS.iload X8.here hx rfl (hb hby d11_121) rfl k) ?_
    refine Ends.go (fun _ k => XS.iload X8.here hx rfl (hb hby d11_123) rfl k) ?_
    by_cases hc125_118 : (4 : Int32) < m_
    · refine Ends.go (fun _ k => XS.icmpNo X8.here hx rfl (hb hby d11_125) rfl (tlt hc125_118).2.1 k) ?_
      show Ends p e below s T8 (mkF m 128 #[.val (.ref rd_), .val (.ref sc_), .val (.ref bf_), .val (.long q_), .second, .val (.int m_), .val (.ref ms_), .val (.long (4 : Int64)), .second, .val (.int s_), .val (.long ee_), .second, .val (.int m_), .val (.int (-1 : Int32)), .val (.int (4 : Int32))] []) _ _ _
      refine Ends.go (fun _ k => XS.lload X8.here hx rfl (hb hby d11_128) rfl k) ?_
      refine Ends.go (fun _ k => XS.iconst X8.here hx rfl (hb hby d11_130) k) ?_
      refine Ends.go (fun _ k => XS.lshl X8.here hx rfl (hb hby d11_131) rfl k) ?_
      refine Ends.go (fun _ k => XS.aload X8.here hx rfl (hb hby d11_132) rfl rfl k) ?_
      show Ends p e below s T8 (mkF m 134 #[.val (.ref rd_), .val (.ref sc_), .val (.ref bf_), .val (.long q_), .second, .val (.int m_), .val (.ref ms_), .val (.long (4 : Int64)), .second, .val (.int s_), .val (.long ee_), .second, .val (.int m_), .val (.int (-1 : Int32)), .val (.int (4 : Int32))] [(.ref ms_), (.long (ee_ <<< ((1 : Int32) &&& 0x3f).toInt64))]) _ _ _
      refine Ends.go (fun _ k => XS.aloadN X8.here hx rfl (hb hby d11_134) rfl rfl k) ?_
      refine Ends.go (fun _ k => XS.iload X8.here hx rfl (hb hby d11_135) rfl k) ?_
      obtain ⟨cl119, Ar119, q119, S119, M119, H119, G119⟩ := id Vb
      have hin119 := inb_of (j := (4 : Int32)) S119 ⟨by decide, by decide⟩
      refine Ends.go (X8.baloadBytes hx (j := (4 : Int32)) (v := (.int u4_)) (by rw [eT8]; exact Ar119.1) (State.isArrayOf_alike hZ.alike Ar119.2.1) Ar119.2.2 hin119 (H119.at hin119 rfl) (g := (mkF m 137 #[.val (.ref rd_), .val (.ref sc_), .val (.ref bf_), .val (.long q_), .second, .val (.int m_), .val (.ref ms_), .val (.long (4 : Int64)), .second, .val (.int s_), .val (.long ee_), .second, .val (.int m_), .val (.int (-1 : Int32)), .val (.int (4 : Int32))] [(.int (4 : Int32)), (.ref bf_), (.ref ms_), (.long (ee_ <<< ((1 : Int32) &&& 0x3f).toInt64))])) rfl rfl (hb hby d11_137)) ?_
      refine Ends.go (fun _ k => XS.sipush X8.here hx rfl (hb hby d11_138) k) ?_
      show Ends p e below s T8 (mkF m 141 #[.val (.ref rd_), .val (.ref sc_), .val (.ref bf_), .val (.long q_), .second, .val (.int m_), .val (.ref ms_), .val (.long (4 : Int64)), .second, .val (.int s_), .val (.long ee_), .second, .val (.int m_), .val (.int (-1 : Int32)), .val (.int (4 : Int32))] [(.int (255 : Int32)), (.int u4_), (.ref ms_), (.long (ee_ <<< ((1 : Int32) &&& 0x3f).toInt64))]) _ _ _
      refine Ends.go (fun _ k => XS.iand X8.here hx rfl (hb hby d11_141) rfl k) ?_
      obtain ⟨cl120, Ar120, S120, H120⟩ := id M0
      have hin120 := inb_of (j := (u4_ &&& (255 : Int32))) S120 (own_in255 u4_)
      refine Ends.go (X8.laload hx (j := (u4_ &&& (255 : Int32))) (v := (.long (f_ ((u4_ &&& (255 : Int32)).toNatClampNeg)))) (by rw [eT8]; exact Ar120.1) (State.isArrayOf_alike hZ.alike Ar120.2.1) Ar120.2.2 hin120 (H120 _ (Nat.lt_of_not_le fun y => hin120 (Or.inr y))) (g := (mkF m 142 #[.val (.ref rd_), .val (.ref sc_), .val (.ref bf_), .val (.long q_), .second, .val (.int m_), .val (.ref ms_), .val (.long (4 : Int64)), .second, .val (.int s_), .val (.long ee_), .second, .val (.int m_), .val (.int (-1 : Int32)), .val (.int (4 : Int32))] [(.int (u4_ &&& (255 : Int32))), (.ref ms_), (.long (ee_ <<< ((1 : Int32) &&& 0x3f).toInt64))])) rfl rfl (hb hby d11_142)) ?_
      refine Ends.go (fun _ k => XS.lor X8.here hx rfl (hb hby d11_143) rfl k) ?_
      refine Ends.go (fun _ k => XS.lstore X8.here hx rfl (hb hby d11_144) rfl (l' := #[.val (.ref rd_), .val (.ref sc_), .val (.ref bf_), .val (.long q_), .second, .val (.int m_), .val (.ref ms_), .val (.long (4 : Int64)), .second, .val (.int s_), .val (.long ((ee_ <<< ((1 : Int32) &&& 0x3f).toInt64) ||| (f_ ((u4_ &&& (255 : Int32)).toNatClampNeg)))), .second, .val (.int m_), .val (.int (-1 : Int32)), .val (.int (4 : Int32))]) rfl k) ?_
      show Ends p e below s T8 (mkF m 146 #[.val (.ref rd_), .val (.ref sc_), .val (.ref bf_), .val (.long q_), .second, .val (.int m_), .val (.ref ms_), .val (.long (4 : Int64)), .second, .val (.int s_), .val (.long ((ee_ <<< ((1 : Int32) &&& 0x3f).toInt64) ||| (f_ ((u4_ &&& (255 : Int32)).toNatClampNeg)))), .second, .val (.int m_), .val (.int (-1 : Int32)), .val (.int (4 : Int32))] []) _ _ _
      refine Ends.go (fun _ k => XS.lload X8.here hx rfl (hb hby d11_146) rfl k) ?_
      refine Ends.go (fun _ k => XS.lload X8.here hx rfl (hb hby d11_148) rfl k) ?_
      refine Ends.go (fun _ k => XS.land X8.here hx rfl (hb hby d11_150) rfl k) ?_
      refine Ends.go (fun _ k => XS.lconst X8.here hx rfl (hb hby d11_151) k) ?_
      show Ends p e below s T8 (mkF m 152 #[.val (.ref rd_), .val (.ref sc_), .val (.ref bf_), .val (.long q_), .second, .val (.int m_), .val (.ref ms_), .val (.long (4 : Int64)), .second, .val (.int s_), .val (.long ((ee_ <<< ((1 : Int32) &&& 0x3f).toInt64) ||| (f_ ((u4_ &&& (255 : Int32)).toNatClampNeg)))), .second, .val (.int m_), .val (.int (-1 : Int32)), .val (.int (4 : Int32))] [(.long (0 : Int64)), (.long (((ee_ <<< ((1 : Int32) &&& 0x3f).toInt64) ||| (f_ ((u4_ &&& (255 : Int32)).toNatClampNeg))) &&& (4 : Int64)))]) _ _ _
      refine Ends.go (fun _ k => XS.lcmp X8.here hx rfl (hb hby d11_152) rfl k) ?_
      by_cases hc153_121 : (lcmpW (((ee_ <<< ((1 : Int32) &&& 0x3f).toInt64) ||| (f_ ((u4_ &&& (255 : Int32)).toNatClampNeg))) &&& (4 : Int64)) (0 : Int64)) = (0 : Int32)
      · refine Ends.go (fun _ k => XS.ifNo X8.here hx rfl (hb hby d11_153) rfl ((if0 _ _).trans (teq hc153_121).2) k) ?_
        refine Ends.go (fun _ k => XS.iload X8.here hx rfl (hb hby d11_156) rfl k) ?_
        refine Ends.go (fun _ k => XS.iconst X8.here hx rfl (hb hby d11_158) k) ?_
        show Ends p e below s T8 (mkF m 159 #[.val (.ref rd_), .val (.ref sc_), .val (.ref bf_), .val (.long q_), .second, .val (.int m_), .val (.ref ms_), .val (.long (4 : Int64)), .second, .val (.int s_), .val (.long ((ee_ <<< ((1 : Int32) &&& 0x3f).toInt64) ||| (f_ ((u4_ &&& (255 : Int32)).toNatClampNeg)))), .second, .val (.int m_), .val (.int (-1 : Int32)), .val (.int (4 : Int32))] [(.int (1 : Int32)), (.int (4 : Int32))]) _ _ _
        refine Ends.go (fun _ k => XS.iadd X8.here hx rfl (hb hby d11_159) rfl k) ?_
        refine Ends.go (fun _ k => XS.istore X8.here hx rfl (hb hby d11_160) rfl (l' := #[.val (.ref rd_), .val (.ref sc_), .val (.ref bf_), .val (.long q_), .second, .val (.int m_), .val (.ref ms_), .val (.long (4 : Int64)), .second, .val (.int s_), .val (.long ((ee_ <<< ((1 : Int32) &&& 0x3f).toInt64) ||| (f_ ((u4_ &&& (255 : Int32)).toNatClampNeg)))), .second, .val (.int (5 : Int32)), .val (.int (-1 : Int32)), .val (.int (4 : Int32))]) rfl k) ?_
        refine Ends.go (fun _ k => XS.iload X8.here hx rfl (hb hby d11_162) rfl k) ?_
        refine Ends.go (fun _ k => XS.istore X8.here hx rfl (hb hby d11_164) rfl (l' := #[.val (.ref rd_), .val (.ref sc_), .val (.ref bf_), .val (.long q_), .second, .val (.int m_), .val (.ref ms_), .val (.long (4 : Int64)), .second, .val (.int s_), .val (.long ((ee_ <<< ((1 : Int32) &&& 0x3f).toInt64) ||| (f_ ((u4_ &&& (255 : Int32)).toNatClampNeg)))), .second, .val (.int (5 : Int32)), .val (.int (5 : Int32)), .val (.int (4 : Int32))]) rfl k) ?_
        show Ends p e below s T8 (mkF m 166 #[.val (.ref rd_), .val (.ref sc_), .val (.ref bf_), .val (.long q_), .second, .val (.int m_), .val (.ref ms_), .val (.long (4 : Int64)), .second, .val (.int s_), .val (.long ((ee_ <<< ((1 : Int32) &&& 0x3f).toInt64) ||| (f_ ((u4_ &&& (255 : Int32)).toNatClampNeg)))), .second, .val (.int (5 : Int32)), .val (.int (5 : Int32)), .val (.int (4 : Int32))] []) _ _ _
        refine Ends.go (fun _ k => XS.goto X8.here hx rfl (pc0 := 166) (pc' := 175) rfl (hb hby d11_166) (by decide) (by decide) k) ?_
        have ht := own_turn hI hm hu4_
        have hR : r_ = 5 := hF.trans (own_fh4 hc125_118 (ht.2.mp ((lw_eq _ _).mp hc153_121)))
        exact J175 _ _ _ _ _ _ _ _ (5 : Int32) _ (4 : Int32) X8 eT8 O8 N8 K8 Er Es Ft Fh Fe Fi Fd Vb M0 hd1 hR (own_enr hR (by decide) hen) (own_iv5 ht.1)
      · refine Ends.go (fun _ k => XS.ifYes X8.here hx rfl (pc0 := 153) (pc' := 169) rfl (hb hby d11_153) rfl ((if0 _ _).trans (feq hc153_121).2) (by decide) (by decide) k) ?_
        refine Ends.go (fun _ k => XS.iinc X8.here hx rfl (hb hby d11_169) rfl (l' := #[.val (.ref rd_), .val (.ref sc_), .val (.ref bf_), .val (.long q_), .second, .val (.int m_), .val (.ref ms_), .val (.long (4 : Int64)), .second, .val (.int s_), .val (.long ((ee_ <<< ((1 : Int32) &&& 0x3f).toInt64) ||| (f_ ((u4_ &&& (255 : Int32)).toNatClampNeg)))), .second, .val (.int m_), .val (.int (-1 : Int32)), .val (.int (5 : Int32))]) rfl k) ?_
        refine Ends.go (fun _ k => XS.goto X8.here hx rfl (pc0 := 172) (pc' := 121) rfl (hb hby d11_172) (by decide) (by decide) k) ?_
        show Ends p e below s T8 (mkF m 121 #[.val (.ref rd_), .val (.ref sc_), .val (.ref bf_), .val (.long q_), .second, .val (.int m_), .val (.ref ms_), .val (.long (4 : Int64)), .second, .val (.int s_), .val (.long ((ee_ <<< ((1 : Int32) &&& 0x3f).toInt64) ||| (f_ ((u4_ &&& (255 : Int32)).toNatClampNeg)))), .second, .val (.int m_), .val (.int (-1 : Int32)), .val (.int (5 : Int32))] []) _ _ _
        have ht := own_turn hI hm hu4_
        exact J121_5 _ _ _ _ _ _ _ _ X8 eT8 O8 N8 K8 Er Es Ft Fh Fe Fi Fd Vb M0 hd1 ht.1 (hF.trans (own_fm4 (fun z => hc153_121 ((lw_eq _ _).mpr (ht.2.mpr z))))) (own_mlt (by decide) hc125_118)
    · refine Ends.go (fun _ k => XS.icmpYes X8.here hx rfl (pc0 := 125) (pc' := 175) rfl (hb hby d11_125) rfl (flt hc125_118).2.1 (by decide) (by decide) k) ?_
      have hR : r_ = -1 := hF.trans (own_fe4 hc125_118)
      obtain rfl : m_ = (4 : Int32) := own_meq him hc125_118
      exact J175 _ _ _ _ _ _ _ ee_ (4 : Int32) _ (4 : Int32) X8 eT8 O8 N8 K8 Er Es Ft Fh Fe Fi Fd Vb M0 hd1 hR (own_enm hR hen) (own_iv4 hI)
  have J121_3 : ∀ (T8 : State) (h8 : Heap) (lcs : List Loc) (d1_ : Int64) (w1_ : Int64) (t1_ : Int64) (e1_ : Int64) (ee_ : Int64) (X8 : Stand p l e ({ frames := 0, cells := 0, slots := 0, locals := 0 } : Room) s m #[(.ref rd_), (.ref sc_), (.ref bf_), (.long q_), (.int m_)] below meth c T8 lcs 0 0) (eT8 : T8.heap = h8) (O8 : Old Z n0 h8) (N8 : Fr n0 lcs) (K8 : Keep h0 h8 [rd_, sc_]) (Er : Exa Z h8 rd_ "com/example/sindano/sindano/boyermoore/ShiftOr$Reading") (Es : Exa Z h8 sc_ "com/example/sindano/sindano/boyermoore/Stretches") (Ft : Fld Z h8 rd_ "com/example/sindano/sindano/boyermoore/ShiftOr$Reading" "table" "Lcom/example/sindano/sindano/boyermoore/ShiftOr;" (.ref so_)) (Fh : Fld Z h8 rd_ "com/example/sindano/sindano/boyermoore/ShiftOr$Reading" "through" "J" (.long t1_)) (Fe : Fld Z h8 rd_ "com/example/sindano/sindano/boyermoore/ShiftOr$Reading" "ending" "J" (.long e1_)) (Fi : Fld Z h8 sc_ "com/example/sindano/sindano/boyermoore/Stretches" "window" "J" (.long w1_)) (Fd : Fld Z h8 sc_ "com/example/sindano/sindano/boyermoore/Stretches" "made" "J" (.long d1_)) (Vb : Arv Z h8 bf_ kb_ .byte (8 : Int32) [(.int u0_), (.int u1_), (.int u2_), (.int u3_), (.int u4_), (.int u5_), (.int u6_), (.int u7_)] (.int (0 : Int32))) (M0 : Lng Z h8 ms_ f_) (hd1 : d1_ = if (q_ + (s_.toInt64)) = t_ then d_ else d_ + 2) (hI : own_I a0_ a1_ u1_ u2_ ee_) (hF : r_ = own_first a0_ a1_ a2_ u0_ u1_ u2_ u3_ u4_ u5_ u6_ u7_ 3 m_) (him : ¬ m_ < (3 : Int32)), Ends p e below s T8 (mkF m 121 #[.val (.ref rd_), .val (.ref sc_), .val (.ref bf_), .val (.long q_), .second, .val (.int m_), .val (.ref ms_), .val (.long (4 : Int64)), .second, .val (.int s_), .val (.long ee_), .second, .val (.int m_), .val (.int (-1 : Int32)), .val (.int (3 : Int32))] []) ({ frames := 0, cells := 0, slots := 0, locals := 0 } : Room).cells ({ frames := 0, cells := 0, slots := 0, locals := 0 } : Room).slots (fun v h L => ∃ e' : Int64, v = some (.int r_) ∧ Fr n0 L ∧ Keep h0 h [rd_, sc_] ∧ Fld Z h sc_ "com/example/sindano/sindano/boyermoore/Stretches" "made" "J" (.long dd_) ∧ Fld Z h sc_ "com/example/sindano/sindano/boyermoore/Stretches" "window" "J" (.long (q_ + (en_.toInt64))) ∧ Fld Z h rd_ "com/example/sindano/sindano/boyermoore/ShiftOr$Reading" "through" "J" (.long (q_ + (en_.toInt64))) ∧ Fld Z h rd_ "com/example/sindano/sindano/boyermoore/ShiftOr$Reading" "ending" "J" (.long e') ∧ Fld Z h rd_ "com/example/sindano/sindano/boyermoore/ShiftOr$Reading" "table" "Lcom/example/sindano/sindano/boyermoore/ShiftOr;" (.ref so_) ∧ own_inv a0_ a1_ a2_ u0_ u1_ u2_ u3_ u4_ u5_ u6_ u7_ en_ e') := by
    intro T8 h8 lcs d1_ w1_ t1_ e1_ ee_ X8 eT8 O8 N8 K8 Er Es Ft Fh Fe Fi Fd Vb M0 hd1 hI hF him
    show Ends p e below s T8 (mkF m 121 #[.val (.ref rd_), .val (.ref sc_), .val (.ref bf_), .val (.long q_), .second, .val (.int m_), .val (.ref ms_), .val (.long (4 : Int64)), .second, .val (.int s_), .val (.long ee_), .second, .val (.int m_), .val (.int (-1 : Int32)), .val (.int (3 : Int32))] []) _ _ _
    refine Ends.go (fun _ k => XS.iload X8.here hx rfl (hb hby d11_121) rfl k) ?_
    refine Ends.go (fun _ k => XS.iload X8.here hx rfl (hb hby d11_123) rfl k) ?_
    show Ends p e below s T8 (mkF m 125 #[.val (.ref rd_), .val (.ref sc_), .val (.ref bf_), .val (.long q_), .second, .val (.int m_), .val (.ref ms_), .val (.long (4 : Int64)), .second, .val (.int s_), .val (.long ee_), .second, .val (.int m_), .val (.int (-1 : Int32)), .val (.int (3 : Int32))] [(.int m_), (.int (3 : Int32))]) _ _ _
    by_cases hc125_122 : (3 : Int32) < m_
    · refine Ends.go (fun _ k => XS.icmpNo X8.here hx rfl (hb hby d11_125) rfl (tlt hc125_122).2.1 k) ?_
      refine Ends.go (fun _ k => XS.lload X8.here hx rfl (hb hby d11_128) rfl k) ?_
      refine Ends.go (fun _ k => XS.iconst X8.here hx rfl (hb hby d11_130) k) ?_
      refine Ends.go (fun _ k => XS.lshl X8.here hx rfl (hb hby d11_131) rfl k) ?_
      show Ends p e below s T8 (mkF m 132 #[.val (.ref rd_), .val (.ref sc_), .val (.ref bf_), .val (.long q_), .second, .val (.int m_), .val (.ref ms_), .val (.long (4 : Int64)), .second, .val (.int s_), .val (.long ee_), .second, .val (.int m_), .val (.int (-1 : Int32)), .val (.int (3 : Int32))] [(.long (ee_ <<< ((1 : Int32) &&& 0x3f).toInt64))]) _ _ _
      refine Ends.go (fun _ k => XS.aload X8.here hx rfl (hb hby d11_132) rfl rfl k) ?_
      refine Ends.go (fun _ k => XS.aloadN X8.here hx rfl (hb hby d11_134) rfl rfl k) ?_
      refine Ends.go (fun _ k => XS.iload X8.here hx rfl (hb hby d11_135) rfl k) ?_
      obtain ⟨cl123, Ar123, q123, S123, M123, H123, G123⟩ := id Vb
      have hin123 := inb_of (j := (3 : Int32)) S123 ⟨by decide, by decide⟩
      refine Ends.go (X8.baloadBytes hx (j := (3 : Int32)) (v := (.int u3_)) (by rw [eT8]; exact Ar123.1) (State.isArrayOf_alike hZ.alike Ar123.2.1) Ar123.2.2 hin123 (H123.at hin123 rfl) (g := (mkF m 137 #[.val (.ref rd_), .val (.ref sc_), .val (.ref bf_), .val (.long q_), .second, .val (.int m_), .val (.ref ms_), .val (.long (4 : Int64)), .second, .val (.int s_), .val (.long ee_), .second, .val (.int m_), .val (.int (-1 : Int32)), .val (.int (3 : Int32))] [(.int (3 : Int32)), (.ref bf_), (.ref ms_), (.long (ee_ <<< ((1 : Int32) &&& 0x3f).toInt64))])) rfl rfl (hb hby d11_137)) ?_
      show Ends p e below s T8 (mkF m 138 #[.val (.ref rd_), .val (.ref sc_), .val (.ref bf_), .val (.long q_), .second, .val (.int m_), .val (.ref ms_), .val (.long (4 : Int64)), .second, .val (.int s_), .val (.long ee_), .second, .val (.int m_), .val (.int (-1 : Int32)), .val (.int (3 : Int32))] [(.int u3_), (.ref ms_), (.long (ee_ <<< ((1 : Int32) &&& 0x3f).toInt64))]) _ _ _
      refine Ends.go (fun _ k => XS.sipush X8.here hx rfl (hb hby d11_138) k) ?_
      refine Ends.go (fun _ k => XS.iand X8.here hx rfl (hb hby d11_141) rfl k) ?_
      obtain ⟨cl124, Ar124, S124, H124⟩ := id M0
      have hin124 := inb_of (j := (u3_ &&& (255 : Int32))) S124 (own_in255 u3_)
      refine Ends.go (X8.laload hx (j := (u3_ &&& (255 : Int32))) (v := (.long (f_ ((u3_ &&& (255 : Int32)).toNatClampNeg)))) (by rw [eT8]; exact Ar124.1) (State.isArrayOf_alike hZ.alike Ar124.2.1) Ar124.2.2 hin124 (H124 _ (Nat.lt_of_not_le fun y => hin124 (Or.inr y))) (g := (mkF m 142 #[.val (.ref rd_), .val (.ref sc_), .val (.ref bf_), .val (.long q_), .second, .val (.int m_), .val (.ref ms_), .val (.long (4 : Int64)), .second, .val (.int s_), .val (.long ee_), .second, .val (.int m_), .val (.int (-1 : Int32)), .val (.int (3 : Int32))] [(.int (u3_ &&& (255 : Int32))), (.ref ms_), (.long (ee_ <<< ((1 : Int32) &&& 0x3f).toInt64))])) rfl rfl (hb hby d11_142)) ?_
      refine Ends.go (fun _ k => XS.lor X8.here hx rfl (hb hby d11_143) rfl k) ?_
      show Ends p e below s T8 (mkF m 144 #[.val (.ref rd_), .val (.ref sc_), .val (.ref bf_), .val (.long q_), .second, .val (.int m_), .val (.ref ms_), .val (.long (4 : Int64)), .second, .val (.int s_), .val (.long ee_), .second, .val (.int m_), .val (.int (-1 : Int32)), .val (.int (3 : Int32))] [(.long ((ee_ <<< ((1 : Int32) &&& 0x3f).toInt64) ||| (f_ ((u3_ &&& (255 : Int32)).toNatClampNeg))))]) _ _ _
      refine Ends.go (fun _ k => XS.lstore X8.here hx rfl (hb hby d11_144) rfl (l' := #[.val (.ref rd_), .val (.ref sc_), .val (.ref bf_), .val (.long q_), .second, .val (.int m_), .val (.ref ms_), .val (.long (4 : Int64)), .second, .val (.int s_), .val (.long ((ee_ <<< ((1 : Int32) &&& 0x3f).toInt64) ||| (f_ ((u3_ &&& (255 : Int32)).toNatClampNeg)))), .second, .val (.int m_), .val (.int (-1 : Int32)), .val (.int (3 : Int32))]) rfl k) ?_
      refine Ends.go (fun _ k => XS.lload X8.here hx rfl (hb hby d11_146) rfl k) ?_
      refine Ends.go (fun _ k => XS.lload X8.here hx rfl (hb hby d11_148) rfl k) ?_
      refine Ends.go (fun _ k => XS.land X8.here hx rfl (hb hby d11_150) rfl k) ?_
      show Ends p e below s T8 (mkF m 151 #[.val (.ref rd_), .val (.ref sc_), .val (.ref bf_), .val (.long q_), .second, .val (.int m_), .val (.ref ms_), .val (.long (4 : Int64)), .second, .val (.int s_), .val (.long ((ee_ <<< ((1 : Int32) &&& 0x3f).toInt64) ||| (f_ ((u3_ &&& (255 : Int32)).toNatClampNeg)))), .second, .val (.int m_), .val (.int (-1 : Int32)), .val (.int (3 : Int32))] [(.long (((ee_ <<< ((1 : Int32) &&& 0x3f).toInt64) ||| (f_ ((u3_ &&& (255 : Int32)).toNatClampNeg))) &&& (4 : Int64)))]) _ _ _
      refine Ends.go (fun _ k => XS.lconst X8.here hx rfl (hb hby d11_151) k) ?_
      refine Ends.go (fun _ k => XS.lcmp X8.here hx rfl (hb hby d11_152) rfl k) ?_
      by_cases hc153_125 : (lcmpW (((ee_ <<< ((1 : Int32) &&& 0x3f).toInt64) ||| (f_ ((u3_ &&& (255 : Int32)).toNatClampNeg))) &&& (4 : Int64)) (0 : Int64)) = (0 : Int32)
      · refine Ends.go (fun _ k => XS.ifNo X8.here hx rfl (hb hby d11_153) rfl ((if0 _ _).trans (teq hc153_125).2) k) ?_
        refine Ends.go (fun _ k => XS.iload X8.here hx rfl (hb hby d11_156) rfl k) ?_
        show Ends p e below s T8 (mkF m 158 #[.val (.ref rd_), .val (.ref sc_), .val (.ref bf_), .val (.long q_), .second, .val (.int m_), .val (.ref ms_), .val (.long (4 : Int64)), .second, .val (.int s_), .val (.long ((ee_ <<< ((1 : Int32) &&& 0x3f).toInt64) ||| (f_ ((u3_ &&& (255 : Int32)).toNatClampNeg)))), .second, .val (.int m_), .val (.int (-1 : Int32)), .val (.int (3 : Int32))] [(.int (3 : Int32))]) _ _ _
        refine Ends.go (fun _ k => XS.iconst X8.here hx rfl (hb hby d11_158) k) ?_
        refine Ends.go (fun _ k => XS.iadd X8.here hx rfl (hb hby d11_159) rfl k) ?_
        refine Ends.go (fun _ k => XS.istore X8.here hx rfl (hb hby d11_160) rfl (l' := #[.val (.ref rd_), .val (.ref sc_), .val (.ref bf_), .val (.long q_), .second, .val (.int m_), .val (.ref ms_), .val (.long (4 : Int64)), .second, .val (.int s_), .val (.long ((ee_ <<< ((1 : Int32) &&& 0x3f).toInt64) ||| (f_ ((u3_ &&& (255 : Int32)).toNatClampNeg)))), .second, .val (.int (4 : Int32)), .val (.int (-1 : Int32)), .val (.int (3 : Int32))]) rfl k) ?_
        refine Ends.go (fun _ k => XS.iload X8.here hx rfl (hb hby d11_162) rfl k) ?_
        show Ends p e below s T8 (mkF m 164 #[.val (.ref rd_), .val (.ref sc_), .val (.ref bf_), .val (.long q_), .second, .val (.int m_), .val (.ref ms_), .val (.long (4 : Int64)), .second, .val (.int s_), .val (.long ((ee_ <<< ((1 : Int32) &&& 0x3f).toInt64) ||| (f_ ((u3_ &&& (255 : Int32)).toNatClampNeg)))), .second, .val (.int (4 : Int32)), .val (.int (-1 : Int32)), .val (.int (3 : Int32))] [(.int (4 : Int32))]) _ _ _
        refine Ends.go (fun _ k => XS.istore X8.here hx rfl (hb hby d11_164) rfl (l' := #[.val (.ref rd_), .val (.ref sc_), .val (.ref bf_), .val (.long q_), .second, .val (.int m_), .val (.ref ms_), .val (.long (4 : Int64)), .second, .val (.int s_), .val (.long ((ee_ <<< ((1 : Int32) &&& 0x3f).toInt64) ||| (f_ ((u3_ &&& (255 : Int32)).toNatClampNeg)))), .second, .val (.int (4 : Int32)), .val (.int (4 : Int32)), .val (.int (3 : Int32))]) rfl k) ?_
        refine Ends.go (fun _ k => XS.goto X8.here hx rfl (pc0 := 166) (pc' := 175) rfl (hb hby d11_166) (by decide) (by decide) k) ?_
        have ht := own_turn hI hm hu3_
        have hR : r_ = 4 := hF.trans (own_fh3 hc125_122 (ht.2.mp ((lw_eq _ _).mp hc153_125)))
        exact J175 _ _ _ _ _ _ _ _ (4 : Int32) _ (3 : Int32) X8 eT8 O8 N8 K8 Er Es Ft Fh Fe Fi Fd Vb M0 hd1 hR (own_enr hR (by decide) hen) (own_iv4 ht.1)
      · refine Ends.go (fun _ k => XS.ifYes X8.here hx rfl (pc0 := 153) (pc' := 169) rfl (hb hby d11_153) rfl ((if0 _ _).trans (feq hc153_125).2) (by decide) (by decide) k) ?_
        refine Ends.go (fun _ k => XS.iinc X8.here hx rfl (hb hby d11_169) rfl (l' := #[.val (.ref rd_), .val (.ref sc_), .val (.ref bf_), .val (.long q_), .second, .val (.int m_), .val (.ref ms_), .val (.long (4 : Int64)), .second, .val (.int s_), .val (.long ((ee_ <<< ((1 : Int32) &&& 0x3f).toInt64) ||| (f_ ((u3_ &&& (255 : Int32)).toNatClampNeg)))), .second, .val (.int m_), .val (.int (-1 : Int32)), .val (.int (4 : Int32))]) rfl k) ?_
        show Ends p e below s T8 (mkF m 172 #[.val (.ref rd_), .val (.ref sc_), .val (.ref bf_), .val (.long q_), .second, .val (.int m_), .val (.ref ms_), .val (.long (4 : Int64)), .second, .val (.int s_), .val (.long ((ee_ <<< ((1 : Int32) &&& 0x3f).toInt64) ||| (f_ ((u3_ &&& (255 : Int32)).toNatClampNeg)))), .second, .val (.int m_), .val (.int (-1 : Int32)), .val (.int (4 : Int32))] []) _ _ _
        refine Ends.go (fun _ k => XS.goto X8.here hx rfl (pc0 := 172) (pc' := 121) rfl (hb hby d11_172) (by decide) (by decide) k) ?_
        have ht := own_turn hI hm hu3_
        exact J121_4 _ _ _ _ _ _ _ _ X8 eT8 O8 N8 K8 Er Es Ft Fh Fe Fi Fd Vb M0 hd1 ht.1 (hF.trans (own_fm3 (fun z => hc153_125 ((lw_eq _ _).mpr (ht.2.mpr z))))) (own_mlt (by decide) hc125_122)
    · refine Ends.go (fun _ k => XS.icmpYes X8.here hx rfl (pc0 := 125) (pc' := 175) rfl (hb hby d11_125) rfl (flt hc125_122).2.1 (by decide) (by decide) k) ?_
      have hR : r_ = -1 := hF.trans (own_fe3 hc125_122)
      obtain rfl : m_ = (3 : Int32) := own_meq him hc125_122
      exact J175 _ _ _ _ _ _ _ ee_ (3 : Int32) _ (3 : Int32) X8 eT8 O8 N8 K8 Er Es Ft Fh Fe Fi Fd Vb M0 hd1 hR (own_enm hR hen) (own_iv3 hI)
  have J121_2 : ∀ (T8 : State) (h8 : Heap) (lcs : List Loc) (d1_ : Int64) (w1_ : Int64) (t1_ : Int64) (e1_ : Int64) (ee_ : Int64) (X8 : Stand p l e ({ frames := 0, cells := 0, slots := 0, locals := 0 } : Room) s m #[(.ref rd_), (.ref sc_), (.ref bf_), (.long q_), (.int m_)] below meth c T8 lcs 0 0) (eT8 : T8.heap = h8) (O8 : Old Z n0 h8) (N8 : Fr n0 lcs) (K8 : Keep h0 h8 [rd_, sc_]) (Er : Exa Z h8 rd_ "com/example/sindano/sindano/boyermoore/ShiftOr$Reading") (Es : Exa Z h8 sc_ "com/example/sindano/sindano/boyermoore/Stretches") (Ft : Fld Z h8 rd_ "com/example/sindano/sindano/boyermoore/ShiftOr$Reading" "table" "Lcom/example/sindano/sindano/boyermoore/ShiftOr;" (.ref so_)) (Fh : Fld Z h8 rd_ "com/example/sindano/sindano/boyermoore/ShiftOr$Reading" "through" "J" (.long t1_)) (Fe : Fld Z h8 rd_ "com/example/sindano/sindano/boyermoore/ShiftOr$Reading" "ending" "J" (.long e1_)) (Fi : Fld Z h8 sc_ "com/example/sindano/sindano/boyermoore/Stretches" "window" "J" (.long w1_)) (Fd : Fld Z h8 sc_ "com/example/sindano/sindano/boyermoore/Stretches" "made" "J" (.long d1_)) (Vb : Arv Z h8 bf_ kb_ .byte (8 : Int32) [(.int u0_), (.int u1_), (.int u2_), (.int u3_), (.int u4_), (.int u5_), (.int u6_), (.int u7_)] (.int (0 : Int32))) (M0 : Lng Z h8 ms_ f_) (hd1 : d1_ = if (q_ + (s_.toInt64)) = t_ then d_ else d_ + 2) (hI : own_I a0_ a1_ u0_ u1_ ee_) (hF : r_ = own_first a0_ a1_ a2_ u0_ u1_ u2_ u3_ u4_ u5_ u6_ u7_ 2 m_) (him : ¬ m_ < (2 : Int32)), Ends p e below s T8 (mkF m 121 #[.val (.ref rd_), .val (.ref sc_), .val (.ref bf_), .val (.long q_), .second, .val (.int m_), .val (.ref ms_), .val (.long (4 : Int64)), .second, .val (.int s_), .val (.long ee_), .second, .val (.int m_), .val (.int (-1 : Int32)), .val (.int (2 : Int32))] []) ({ frames := 0, cells := 0, slots := 0, locals := 0 } : Room).cells ({ frames := 0, cells := 0, slots := 0, locals := 0 } : Room).slots (fun v h L => ∃ e' : Int64, v = some (.int r_) ∧ Fr n0 L ∧ Keep h0 h [rd_, sc_] ∧ Fld Z h sc_ "com/example/sindano/sindano/boyermoore/Stretches" "made" "J" (.long dd_) ∧ Fld Z h sc_ "com/example/sindano/sindano/boyermoore/Stretches" "window" "J" (.long (q_ + (en_.toInt64))) ∧ Fld Z h rd_ "com/example/sindano/sindano/boyermoore/ShiftOr$Reading" "through" "J" (.long (q_ + (en_.toInt64))) ∧ Fld Z h rd_ "com/example/sindano/sindano/boyermoore/ShiftOr$Reading" "ending" "J" (.long e') ∧ Fld Z h rd_ "com/example/sindano/sindano/boyermoore/ShiftOr$Reading" "table" "Lcom/example/sindano/sindano/boyermoore/ShiftOr;" (.ref so_) ∧ own_inv a0_ a1_ a2_ u0_ u1_ u2_ u3_ u4_ u5_ u6_ u7_ en_ e') := by
    intro T8 h8 lcs d1_ w1_ t1_ e1_ ee_ X8 eT8 O8 N8 K8 Er Es Ft Fh Fe Fi Fd Vb M0 hd1 hI hF him
    show Ends p e below s T8 (mkF m 121 #[.val (.ref rd_), .val (.ref sc_), .val (.ref bf_), .val (.long q_), .second, .val (.int m_), .val (.ref ms_), .val (.long (4 : Int64)), .second, .val (.int s_), .val (.long ee_), .second, .val (.int m_), .val (.int (-1 : Int32)), .val (.int (2 : Int32))] []) _ _ _
    refine Ends.go (fun _ k => XS.iload X8.here hx rfl (hb hby d11_121) rfl k) ?_
    show Ends p e below s T8 (mkF m 123 #[.val (.ref rd_), .val (.ref sc_), .val (.ref bf_), .val (.long q_), .second, .val (.int m_), .val (.ref ms_), .val (.long (4 : Int64)), .second, .val (.int s_), .val (.long ee_), .second, .val (.int m_), .val (.int (-1 : Int32)), .val (.int (2 : Int32))] [(.int (2 : Int32))]) _ _ _
    refine Ends.go (fun _ k => XS.iload X8.here hx rfl (hb hby d11_123) rfl k) ?_
    by_cases hc125_126 : (2 : Int32) < m_
    · refine Ends.go (fun _ k => XS.icmpNo X8.here hx rfl (hb hby d11_125) rfl (tlt hc125_126).2.1 k) ?_
      refine Ends.go (fun _ k => XS.lload X8.here hx rfl (hb hby d11_128) rfl k) ?_
      refine Ends.go (fun _ k => XS.iconst X8.here hx rfl (hb hby d11_130) k) ?_
      show Ends p e below s T8 (mkF m 131 #[.val (.ref rd_), .val (.ref sc_), .val (.ref bf_), .val (.long q_), .second, .val (.int m_), .val (.ref ms_), .val (.long (4 : Int64)), .second, .val (.int s_), .val (.long ee_), .second, .val (.int m_), .val (.int (-1 : Int32)), .val (.int (2 : Int32))] [(.int (1 : Int32)), (.long ee_)]) _ _ _
      refine Ends.go (fun _ k => XS.lshl X8.here hx rfl (hb hby d11_131) rfl k) ?_
      refine Ends.go (fun _ k => XS.aload X8.here hx rfl (hb hby d11_132) rfl rfl k) ?_
      refine Ends.go (fun _ k => XS.aloadN X8.here hx rfl (hb hby d11_134) rfl rfl k) ?_
      refine Ends.go (fun _ k => XS.iload X8.here hx rfl (hb hby d11_135) rfl k) ?_
      show Ends p e below s T8 (mkF m 137 #[.val (.ref rd_), .val (.ref sc_), .val (.ref bf_), .val (.long q_), .second, .val (.int m_), .val (.ref ms_), .val (.long (4 : Int64)), .second, .val (.int s_), .val (.long ee_), .second, .val (.int m_), .val (.int (-1 : Int32)), .val (.int (2 : Int32))] [(.int (2 : Int32)), (.ref bf_), (.ref ms_), (.long (ee_ <<< ((1 : Int32) &&& 0x3f).toInt64))]) _ _ _
      obtain ⟨cl127, Ar127, q127, S127, M127, H127, G127⟩ := id Vb
      have hin127 := inb_of (j := (2 : Int32)) S127 ⟨by decide, by decide⟩
      refine Ends.go (X8.baloadBytes hx (j := (2 : Int32)) (v := (.int u2_)) (by rw [eT8]; exact Ar127.1) (State.isArrayOf_alike hZ.alike Ar127.2.1) Ar127.2.2 hin127 (H127.at hin127 rfl) (g := (mkF m 137 #[.val (.ref rd_), .val (.ref sc_), .val (.ref bf_), .val (.long q_), .second, .val (.int m_), .val (.ref ms_), .val (.long (4 : Int64)), .second, .val (.int s_), .val (.long ee_), .second, .val (.int m_), .val (.int (-1 : Int32)), .val (.int (2 : Int32))] [(.int (2 : Int32)), (.ref bf_), (.ref ms_), (.long (ee_ <<< ((1 : Int32) &&& 0x3f).toInt64))])) rfl rfl (hb hby d11_137)) ?_
      refine Ends.go (fun _ k => XS.sipush X8.here hx rfl (hb hby d11_138) k) ?_
      refine Ends.go (fun _ k => XS.iand X8.here hx rfl (hb hby d11_141) rfl k) ?_
      obtain ⟨cl128, Ar128, S128, H128⟩ := id M0
      have hin128 := inb_of (j := (u2_ &&& (255 : Int32))) S128 (own_in255 u2_)
      refine Ends.go (X8.laload hx (j := (u2_ &&& (255 : Int32))) (v := (.long (f_ ((u2_ &&& (255 : Int32)).toNatClampNeg)))) (by rw [eT8]; exact Ar128.1) (State.isArrayOf_alike hZ.alike Ar128.2.1) Ar128.2.2 hin128 (H128 _ (Nat.lt_of_not_le fun y => hin128 (Or.inr y))) (g := (mkF m 142 #[.val (.ref rd_), .val (.ref sc_), .val (.ref bf_), .val (.long q_), .second, .val (.int m_), .val (.ref ms_), .val (.long (4 : Int64)), .second, .val (.int s_), .val (.long ee_), .second, .val (.int m_), .val (.int (-1 : Int32)), .val (.int (2 : Int32))] [(.int (u2_ &&& (255 : Int32))), (.ref ms_), (.long (ee_ <<< ((1 : Int32) &&& 0x3f).toInt64))])) rfl rfl (hb hby d11_142)) ?_
      show Ends p e below s T8 (mkF m 143 #[.val (.ref rd_), .val (.ref sc_), .val (.ref bf_), .val (.long q_), .second, .val (.int m_), .val (.ref ms_), .val (.long (4 : Int64)), .second, .val (.int s_), .val (.long ee_), .second, .val (.int m_), .val (.int (-1 : Int32)), .val (.int (2 : Int32))] [(.long (f_ ((u2_ &&& (255 : Int32)).toNatClampNeg))), (.long (ee_ <<< ((1 : Int32) &&& 0x3f).toInt64))]) _ _ _
      refine Ends.go (fun _ k => XS.lor X8.here hx rfl (hb hby d11_143) rfl k) ?_
      refine Ends.go (fun _ k => XS.lstore X8.here hx rfl (hb hby d11_144) rfl (l' := #[.val (.ref rd_), .val (.ref sc_), .val (.ref bf_), .val (.long q_), .second, .val (.int m_), .val (.ref ms_), .val (.long (4 : Int64)), .second, .val (.int s_), .val (.long ((ee_ <<< ((1 : Int32) &&& 0x3f).toInt64) ||| (f_ ((u2_ &&& (255 : Int32)).toNatClampNeg)))), .second, .val (.int m_), .val (.int (-1 : Int32)), .val (.int (2 : Int32))]) rfl k) ?_
      refine Ends.go (fun _ k => XS.lload X8.here hx rfl (hb hby d11_146) rfl k) ?_
      refine Ends.go (fun _ k => XS.lload X8.here hx rfl (hb hby d11_148) rfl k) ?_
      show Ends p e below s T8 (mkF m 150 #[.val (.ref rd_), .val (.ref sc_), .val (.ref bf_), .val (.long q_), .second, .val (.int m_), .val (.ref ms_), .val (.long (4 : Int64)), .second, .val (.int s_), .val (.long ((ee_ <<< ((1 : Int32) &&& 0x3f).toInt64) ||| (f_ ((u2_ &&& (255 : Int32)).toNatClampNeg)))), .second, .val (.int m_), .val (.int (-1 : Int32)), .val (.int (2 : Int32))] [(.long (4 : Int64)), (.long ((ee_ <<< ((1 : Int32) &&& 0x3f).toInt64) ||| (f_ ((u2_ &&& (255 : Int32)).toNatClampNeg))))]) _ _ _
      refine Ends.go (fun _ k => XS.land X8.here hx rfl (hb hby d11_150) rfl k) ?_
      refine Ends.go (fun _ k => XS.lconst X8.here hx rfl (hb hby d11_151) k) ?_
      refine Ends.go (fun _ k => XS.lcmp X8.here hx rfl (hb hby d11_152) rfl k) ?_
      by_cases hc153_129 : (lcmpW (((ee_ <<< ((1 : Int32) &&& 0x3f).toInt64) ||| (f_ ((u2_ &&& (255 : Int32)).toNatClampNeg))) &&& (4 : Int64)) (0 : Int64)) = (0 : Int32)
      · refine Ends.go (fun _ k => XS.ifNo X8.here hx rfl (hb hby d11_153) rfl ((if0 _ _).trans (teq hc153_129).2) k) ?_
        show Ends p e below s T8 (mkF m 156 #[.val (.ref rd_), .val (.ref sc_), .val (.ref bf_), .val (.long q_), .second, .val (.int m_), .val (.ref ms_), .val (.long (4 : Int64)), .second, .val (.int s_), .val (.long ((ee_ <<< ((1 : Int32) &&& 0x3f).toInt64) ||| (f_ ((u2_ &&& (255 : Int32)).toNatClampNeg)))), .second, .val (.int m_), .val (.int (-1 : Int32)), .val (.int (2 : Int32))] []) _ _ _
        refine Ends.go (fun _ k => XS.iload X8.here hx rfl (hb hby d11_156) rfl k) ?_
        refine Ends.go (fun _ k => XS.iconst X8.here hx rfl (hb hby d11_158) k) ?_
        refine Ends.go (fun _ k => XS.iadd X8.here hx rfl (hb hby d11_159) rfl k) ?_
        refine Ends.go (fun _ k => XS.istore X8.here hx rfl (hb hby d11_160) rfl (l' := #[.val (.ref rd_), .val (.ref sc_), .val (.ref bf_), .val (.long q_), .second, .val (.int m_), .val (.ref ms_), .val (.long (4 : Int64)), .second, .val (.int s_), .val (.long ((ee_ <<< ((1 : Int32) &&& 0x3f).toInt64) ||| (f_ ((u2_ &&& (255 : Int32)).toNatClampNeg)))), .second, .val (.int (3 : Int32)), .val (.int (-1 : Int32)), .val (.int (2 : Int32))]) rfl k) ?_
        show Ends p e below s T8 (mkF m 162 #[.val (.ref rd_), .val (.ref sc_), .val (.ref bf_), .val (.long q_), .second, .val (.int m_), .val (.ref ms_), .val (.long (4 : Int64)), .second, .val (.int s_), .val (.long ((ee_ <<< ((1 : Int32) &&& 0x3f).toInt64) ||| (f_ ((u2_ &&& (255 : Int32)).toNatClampNeg)))), .second, .val (.int (3 : Int32)), .val (.int (-1 : Int32)), .val (.int (2 : Int32))] []) _ _ _
        refine Ends.go (fun _ k => XS.iload X8.here hx rfl (hb hby d11_162) rfl k) ?_
        refine Ends.go (fun _ k => XS.istore X8.here hx rfl (hb hby d11_164) rfl (l' := #[.val (.ref rd_), .val (.ref sc_), .val (.ref bf_), .val (.long q_), .second, .val (.int m_), .val (.ref ms_), .val (.long (4 : Int64)), .second, .val (.int s_), .val (.long ((ee_ <<< ((1 : Int32) &&& 0x3f).toInt64) ||| (f_ ((u2_ &&& (255 : Int32)).toNatClampNeg)))), .second, .val (.int (3 : Int32)), .val (.int (3 : Int32)), .val (.int (2 : Int32))]) rfl k) ?_
        refine Ends.go (fun _ k => XS.goto X8.here hx rfl (pc0 := 166) (pc' := 175) rfl (hb hby d11_166) (by decide) (by decide) k) ?_
        have ht := own_turn hI hm hu2_
        have hR : r_ = 3 := hF.trans (own_fh2 hc125_126 (ht.2.mp ((lw_eq _ _).mp hc153_129)))
        exact J175 _ _ _ _ _ _ _ _ (3 : Int32) _ (2 : Int32) X8 eT8 O8 N8 K8 Er Es Ft Fh Fe Fi Fd Vb M0 hd1 hR (own_enr hR (by decide) hen) (own_iv3 ht.1)
      · refine Ends.go (fun _ k => XS.ifYes X8.here hx rfl (pc0 := 153) (pc' := 169) rfl (hb hby d11_153) rfl ((if0 _ _).trans (feq hc153_129).2) (by decide) (by decide) k) ?_
        show Ends p e below s T8 (mkF m 169 #[.val (.ref rd_), .val (.ref sc_), .val (.ref bf_), .val (.long q_), .second, .val (.int m_), .val (.ref ms_), .val (.long (4 : Int64)), .second, .val (.int s_), .val (.long ((ee_ <<< ((1 : Int32) &&& 0x3f).toInt64) ||| (f_ ((u2_ &&& (255 : Int32)).toNatClampNeg)))), .second, .val (.int m_), .val (.int (-1 : Int32)), .val (.int (2 : Int32))] []) _ _ _
        refine Ends.go (fun _ k => XS.iinc X8.here hx rfl (hb hby d11_169) rfl (l' := #[.val (.ref rd_), .val (.ref sc_), .val (.ref bf_), .val (.long q_), .second, .val (.int m_), .val (.ref ms_), .val (.long (4 : Int64)), .second, .val (.int s_), .val (.long ((ee_ <<< ((1 : Int32) &&& 0x3f).toInt64) ||| (f_ ((u2_ &&& (255 : Int32)).toNatClampNeg)))), .second, .val (.int m_), .val (.int (-1 : Int32)), .val (.int (3 : Int32))]) rfl k) ?_
        refine Ends.go (fun _ k => XS.goto X8.here hx rfl (pc0 := 172) (pc' := 121) rfl (hb hby d11_172) (by decide) (by decide) k) ?_
        have ht := own_turn hI hm hu2_
        exact J121_3 _ _ _ _ _ _ _ _ X8 eT8 O8 N8 K8 Er Es Ft Fh Fe Fi Fd Vb M0 hd1 ht.1 (hF.trans (own_fm2 (fun z => hc153_129 ((lw_eq _ _).mpr (ht.2.mpr z))))) (own_mlt (by decide) hc125_126)
    · refine Ends.go (fun _ k => XS.icmpYes X8.here hx rfl (pc0 := 125) (pc' := 175) rfl (hb hby d11_125) rfl (flt hc125_126).2.1 (by decide) (by decide) k) ?_
      have hR : r_ = -1 := hF.trans (own_fe2 hc125_126)
      obtain rfl : m_ = (2 : Int32) := own_meq him hc125_126
      exact J175 _ _ _ _ _ _ _ ee_ (2 : Int32) _ (2 : Int32) X8 eT8 O8 N8 K8 Er Es Ft Fh Fe Fi Fd Vb M0 hd1 hR (own_enm hR hen) (own_iv2 hI)
  show Ends p e below s s₁ (mkF m 0 #[.val (.ref rd_), .val (.ref sc_), .val (.ref bf_), .val (.long q_), .second, .val (.int m_), .unset, .unset, .unset, .unset, .unset, .unset, .unset, .unset, .unset] []) _ _ _
  refine Ends.go (fun _ k => XS.aloadN X0.here hx rfl (hb hby d11_0) rfl rfl k) ?_
  obtain ⟨T130, X130, e130, st130⟩ := getF X0 hx hZ hown (host := "") (Or.inl (ow hw 44 rfl)) Via.refl e0 Ft (g := (mkF m 1 #[.val (.ref rd_), .val (.ref sc_), .val (.ref bf_), .val (.long q_), .second, .val (.int m_), .unset, .unset, .unset, .unset, .unset, .unset, .unset, .unset, .unset] [(.ref rd_)])) rfl rfl (hb hby d11_1)
  refine Ends.go st130 ?_
  obtain ⟨T131, X131, e131, st131⟩ := getF X130 hx hZ hown (Or.inr (ow hw 111 rfl)) Via.refl e130 Fm (g := (mkF m 4 #[.val (.ref rd_), .val (.ref sc_), .val (.ref bf_), .val (.long q_), .second, .val (.int m_), .unset, .unset, .unset, .unset, .unset, .unset, .unset, .unset, .unset] [(.ref so_)])) rfl rfl (hb hby d11_4)
  refine Ends.go st131 ?_
  refine Ends.go (fun _ k => XS.astore X131.here hx rfl (hb hby d11_7) rfl rfl (l' := #[.val (.ref rd_), .val (.ref sc_), .val (.ref bf_), .val (.long q_), .second, .val (.int m_), .val (.ref ms_), .unset, .unset, .unset, .unset, .unset, .unset, .unset, .unset]) rfl k) ?_
  show Ends p e below s T131 (mkF m 9 #[.val (.ref rd_), .val (.ref sc_), .val (.ref bf_), .val (.long q_), .second, .val (.int m_), .val (.ref ms_), .unset, .unset, .unset, .unset, .unset, .unset, .unset, .unset] []) _ _ _
  refine Ends.go (fun _ k => XS.aloadN X131.here hx rfl (hb hby d11_9) rfl rfl k) ?_
  obtain ⟨T132, X132, e132, st132⟩ := getF X131 hx hZ hown (host := "") (Or.inl (ow hw 44 rfl)) Via.refl e131 Ft (g := (mkF m 10 #[.val (.ref rd_), .val (.ref sc_), .val (.ref bf_), .val (.long q_), .second, .val (.int m_), .val (.ref ms_), .unset, .unset, .unset, .unset, .unset, .unset, .unset, .unset] [(.ref rd_)])) rfl rfl (hb hby d11_10)
  refine Ends.go st132 ?_
  obtain ⟨T133, X133, e133, st133⟩ := getF X132 hx hZ hown (Or.inr (ow hw 112 rfl)) Via.refl e132 Fw (g := (mkF m 13 #[.val (.ref rd_), .val (.ref sc_), .val (.ref bf_), .val (.long q_), .second, .val (.int m_), .val (.ref ms_), .unset, .unset, .unset, .unset, .unset, .unset, .unset, .unset] [(.ref so_)])) rfl rfl (hb hby d11_13)
  refine Ends.go st133 ?_
  refine Ends.go (fun _ k => XS.lstore X133.here hx rfl (hb hby d11_16) rfl (l' := #[.val (.ref rd_), .val (.ref sc_), .val (.ref bf_), .val (.long q_), .second, .val (.int m_), .val (.ref ms_), .val (.long (4 : Int64)), .second, .unset, .unset, .unset, .unset, .unset, .unset]) rfl k) ?_
  show Ends p e below s T133 (mkF m 18 #[.val (.ref rd_), .val (.ref sc_), .val (.ref bf_), .val (.long q_), .second, .val (.int m_), .val (.ref ms_), .val (.long (4 : Int64)), .second, .unset, .unset, .unset, .unset, .unset, .unset] []) _ _ _
  refine Ends.go (fun _ k => XS.aloadN X133.here hx rfl (hb hby d11_18) rfl rfl k) ?_
  obtain ⟨T134, X134, e134, st134⟩ := getF X133 hx hZ hown (host := "") (Or.inl (ow hw 113 rfl)) Via.refl e133 Fi (g := (mkF m 19 #[.val (.ref rd_), .val (.ref sc_), .val (.ref bf_), .val (.long q_), .second, .val (.int m_), .val (.ref ms_), .val (.long (4 : Int64)), .second, .unset, .unset, .unset, .unset, .unset, .unset] [(.ref sc_)])) rfl rfl (hb hby d11_19)
  refine Ends.go st134 ?_
  refine Ends.go (fun _ k => XS.lloadN X134.here hx rfl (hb hby d11_22) rfl k) ?_
  refine Ends.go (fun _ k => XS.lsub X134.here hx rfl (hb hby d11_23) rfl k) ?_
  show Ends p e below s T134 (mkF m 24 #[.val (.ref rd_), .val (.ref sc_), .val (.ref bf_), .val (.long q_), .second, .val (.int m_), .val (.ref ms_), .val (.long (4 : Int64)), .second, .unset, .unset, .unset, .unset, .unset, .unset] [(.long ((q_ + (s_.toInt64)) - q_))]) _ _ _
  refine Ends.go (fun _ k => XS.l2i X134.here hx rfl (hb hby d11_24) rfl k) ?_
  show Ends p e below s T134 (mkF m 25 #[.val (.ref rd_), .val (.ref sc_), .val (.ref bf_), .val (.long q_), .second, .val (.int m_), .val (.ref ms_), .val (.long (4 : Int64)), .second, .unset, .unset, .unset, .unset, .unset, .unset] [(.int (((q_ + (s_.toInt64)) - q_).toInt32))]) _ _ _
  rw [own_win q_ s_]
  show Ends p e below s T134 (mkF m 25 #[.val (.ref rd_), .val (.ref sc_), .val (.ref bf_), .val (.long q_), .second, .val (.int m_), .val (.ref ms_), .val (.long (4 : Int64)), .second, .unset, .unset, .unset, .unset, .unset, .unset] [(.int s_)]) _ _ _
  refine Ends.go (fun _ k => XS.istore X134.here hx rfl (hb hby d11_25) rfl (l' := #[.val (.ref rd_), .val (.ref sc_), .val (.ref bf_), .val (.long q_), .second, .val (.int m_), .val (.ref ms_), .val (.long (4 : Int64)), .second, .val (.int s_), .unset, .unset, .unset, .unset, .unset]) rfl k) ?_
  show Ends p e below s T134 (mkF m 27 #[.val (.ref rd_), .val (.ref sc_), .val (.ref bf_), .val (.long q_), .second, .val (.int m_), .val (.ref ms_), .val (.long (4 : Int64)), .second, .val (.int s_), .unset, .unset, .unset, .unset, .unset] []) _ _ _
  refine Ends.go (fun _ k => XS.aloadN X134.here hx rfl (hb hby d11_27) rfl rfl k) ?_
  obtain ⟨T135, X135, e135, st135⟩ := getF X134 hx hZ hown (host := "") (Or.inl (ow hw 114 rfl)) Via.refl e134 Fe (g := (mkF m 28 #[.val (.ref rd_), .val (.ref sc_), .val (.ref bf_), .val (.long q_), .second, .val (.int m_), .val (.ref ms_), .val (.long (4 : Int64)), .second, .val (.int s_), .unset, .unset, .unset, .unset, .unset] [(.ref rd_)])) rfl rfl (hb hby d11_28)
  refine Ends.go st135 ?_
  refine Ends.go (fun _ k => XS.lstore X135.here hx rfl (hb hby d11_31) rfl (l' := #[.val (.ref rd_), .val (.ref sc_), .val (.ref bf_), .val (.long q_), .second, .val (.int m_), .val (.ref ms_), .val (.long (4 : Int64)), .second, .val (.int s_), .val (.long e_), .second, .unset, .unset, .unset]) rfl k) ?_
  refine Ends.go (fun _ k => XS.aloadN X135.here hx rfl (hb hby d11_33) rfl rfl k) ?_
  show Ends p e below s T135 (mkF m 34 #[.val (.ref rd_), .val (.ref sc_), .val (.ref bf_), .val (.long q_), .second, .val (.int m_), .val (.ref ms_), .val (.long (4 : Int64)), .second, .val (.int s_), .val (.long e_), .second, .unset, .unset, .unset] [(.ref sc_)]) _ _ _
  obtain ⟨T136, X136, e136, st136⟩ := getF X135 hx hZ hown (host := "") (Or.inl (ow hw 113 rfl)) Via.refl e135 Fi (g := (mkF m 34 #[.val (.ref rd_), .val (.ref sc_), .val (.ref bf_), .val (.long q_), .second, .val (.int m_), .val (.ref ms_), .val (.long (4 : Int64)), .second, .val (.int s_), .val (.long e_), .second, .unset, .unset, .unset] [(.ref sc_)])) rfl rfl (hb hby d11_34)
  refine Ends.go st136 ?_
  refine Ends.go (fun _ k => XS.aloadN X136.here hx rfl (hb hby d11_37) rfl rfl k) ?_
  obtain ⟨T137, X137, e137, st137⟩ := getF X136 hx hZ hown (host := "") (Or.inl (ow hw 42 rfl)) Via.refl e136 Fh (g := (mkF m 38 #[.val (.ref rd_), .val (.ref sc_), .val (.ref bf_), .val (.long q_), .second, .val (.int m_), .val (.ref ms_), .val (.long (4 : Int64)), .second, .val (.int s_), .val (.long e_), .second, .unset, .unset, .unset] [(.ref rd_), (.long (q_ + (s_.toInt64)))])) rfl rfl (hb hby d11_38)
  refine Ends.go st137 ?_
  refine Ends.go (fun _ k => XS.lcmp X137.here hx rfl (hb hby d11_41) rfl k) ?_
  show Ends p e below s T137 (mkF m 42 #[.val (.ref rd_), .val (.ref sc_), .val (.ref bf_), .val (.long q_), .second, .val (.int m_), .val (.ref ms_), .val (.long (4 : Int64)), .second, .val (.int s_), .val (.long e_), .second, .unset, .unset, .unset] [(.int (lcmpW (q_ + (s_.toInt64)) t_))]) _ _ _
  by_cases hc42_138 : (lcmpW (q_ + (s_.toInt64)) t_) = (0 : Int32)
  · refine Ends.go (fun _ k => XS.ifYes X137.here hx rfl (pc0 := 42) (pc' := 110) rfl (hb hby d11_42) rfl ((if0 _ _).trans (teq hc42_138).1) (by decide) (by decide) k) ?_
    refine Ends.go (fun _ k => XS.iload X137.here hx rfl (hb hby d11_110) rfl k) ?_
    refine Ends.go (fun _ k => XS.istore X137.here hx rfl (hb hby d11_112) rfl (l' := #[.val (.ref rd_), .val (.ref sc_), .val (.ref bf_), .val (.long q_), .second, .val (.int m_), .val (.ref ms_), .val (.long (4 : Int64)), .second, .val (.int s_), .val (.long e_), .second, .val (.int m_), .unset, .unset]) rfl k) ?_
    refine Ends.go (fun _ k => XS.iconst X137.here hx rfl (hb hby d11_114) k) ?_
    show Ends p e below s T137 (mkF m 115 #[.val (.ref rd_), .val (.ref sc_), .val (.ref bf_), .val (.long q_), .second, .val (.int m_), .val (.ref ms_), .val (.long (4 : Int64)), .second, .val (.int s_), .val (.long e_), .second, .val (.int m_), .unset, .unset] [(.int (-1 : Int32))]) _ _ _
    refine Ends.go (fun _ k => XS.istore X137.here hx rfl (hb hby d11_115) rfl (l' := #[.val (.ref rd_), .val (.ref sc_), .val (.ref bf_), .val (.long q_), .second, .val (.int m_), .val (.ref ms_), .val (.long (4 : Int64)), .second, .val (.int s_), .val (.long e_), .second, .val (.int m_), .val (.int (-1 : Int32)), .unset]) rfl k) ?_
    refine Ends.go (fun _ k => XS.iload X137.here hx rfl (hb hby d11_117) rfl k) ?_
    refine Ends.go (fun _ k => XS.istore X137.here hx rfl (hb hby d11_119) rfl (l' := #[.val (.ref rd_), .val (.ref sc_), .val (.ref bf_), .val (.long q_), .second, .val (.int m_), .val (.ref ms_), .val (.long (4 : Int64)), .second, .val (.int s_), .val (.long e_), .second, .val (.int m_), .val (.int (-1 : Int32)), .val (.int s_)]) rfl k) ?_
    rcases own_seven hs with rfl | rfl | rfl | rfl | rfl | rfl | rfl
    · exact J121_2 _ _ _ _ _ _ _ _ X137 e137 O0 N0 K0 Er Es Ft Fh Fe Fi Fd Vb M0 (if_pos ((lw_eq _ _).mp hc42_138)).symm ((hinv ((lw_eq _ _).mp hc42_138)).1 rfl) hr (own_nlt hl.1)
    · exact J121_3 _ _ _ _ _ _ _ _ X137 e137 O0 N0 K0 Er Es Ft Fh Fe Fi Fd Vb M0 (if_pos ((lw_eq _ _).mp hc42_138)).symm ((hinv ((lw_eq _ _).mp hc42_138)).2.1 rfl) hr (own_nlt hl.1)
    · exact J121_4 _ _ _ _ _ _ _ _ X137 e137 O0 N0 K0 Er Es Ft Fh Fe Fi Fd Vb M0 (if_pos ((lw_eq _ _).mp hc42_138)).symm ((hinv ((lw_eq _ _).mp hc42_138)).2.2.1 rfl) hr (own_nlt hl.1)
    · exact J121_5 _ _ _ _ _ _ _ _ X137 e137 O0 N0 K0 Er Es Ft Fh Fe Fi Fd Vb M0 (if_pos ((lw_eq _ _).mp hc42_138)).symm ((hinv ((lw_eq _ _).mp hc42_138)).2.2.2.1 rfl) hr (own_nlt hl.1)
    · exact J121_6 _ _ _ _ _ _ _ _ X137 e137 O0 N0 K0 Er Es Ft Fh Fe Fi Fd Vb M0 (if_pos ((lw_eq _ _).mp hc42_138)).symm ((hinv ((lw_eq _ _).mp hc42_138)).2.2.2.2.1 rfl) hr (own_nlt hl.1)
    · exact J121_7 _ _ _ _ _ _ _ _ X137 e137 O0 N0 K0 Er Es Ft Fh Fe Fi Fd Vb M0 (if_pos ((lw_eq _ _).mp hc42_138)).symm ((hinv ((lw_eq _ _).mp hc42_138)).2.2.2.2.2.1 rfl) hr (own_nlt hl.1)
    · exact J121_8 _ _ _ _ _ _ _ _ X137 e137 O0 N0 K0 Er Es Ft Fh Fe Fi Fd Vb M0 (if_pos ((lw_eq _ _).mp hc42_138)).symm ((hinv ((lw_eq _ _).mp hc42_138)).2.2.2.2.2.2 rfl) hr (own_nlt hl.1)
  · refine Ends.go (fun _ k => XS.ifNo X137.here hx rfl (hb hby d11_42) rfl ((if0 _ _).trans (feq hc42_138).1) k) ?_
    show Ends p e below s T137 (mkF m 45 #[.val (.ref rd_), .val (.ref sc_), .val (.ref bf_), .val (.long q_), .second, .val (.int m_), .val (.ref ms_), .val (.long (4 : Int64)), .second, .val (.int s_), .val (.long e_), .second, .unset, .unset, .unset] []) _ _ _
    refine Ends.go (X137.ldc2Long hx hown (mvT hZ (ow hw 41 rfl)) (g := (mkF m 45 #[.val (.ref rd_), .val (.ref sc_), .val (.ref bf_), .val (.long q_), .second, .val (.int m_), .val (.ref ms_), .val (.long (4 : Int64)), .second, .val (.int s_), .val (.long e_), .second, .unset, .unset, .unset] [])) rfl (hb hby d11_45)) ?_
    refine Ends.go (fun _ k => XS.lstore X137.here hx rfl (hb hby d11_48) rfl (l' := #[.val (.ref rd_), .val (.ref sc_), .val (.ref bf_), .val (.long q_), .second, .val (.int m_), .val (.ref ms_), .val (.long (4 : Int64)), .second, .val (.int s_), .val (.long (-1 : Int64)), .second, .unset, .unset, .unset]) rfl k) ?_
    refine Ends.go (fun _ k => XS.iload X137.here hx rfl (hb hby d11_50) rfl k) ?_
    refine Ends.go (fun _ k => XS.aloadN X137.here hx rfl (hb hby d11_52) rfl rfl k) ?_
    show Ends p e below s T137 (mkF m 53 #[.val (.ref rd_), .val (.ref sc_), .val (.ref bf_), .val (.long q_), .second, .val (.int m_), .val (.ref ms_), .val (.long (4 : Int64)), .second, .val (.int s_), .val (.long (-1 : Int64)), .second, .unset, .unset, .unset] [(.ref rd_), (.int s_)]) _ _ _
    obtain ⟨T139, X139, e139, st139⟩ := getF X137 hx hZ hown (host := "") (Or.inl (ow hw 44 rfl)) Via.refl e137 Ft (g := (mkF m 53 #[.val (.ref rd_), .val (.ref sc_), .val (.ref bf_), .val (.long q_), .second, .val (.int m_), .val (.ref ms_), .val (.long (4 : Int64)), .second, .val (.int s_), .val (.long (-1 : Int64)), .second, .unset, .unset, .unset] [(.ref rd_), (.int s_)])) rfl rfl (hb hby d11_53)
    refine Ends.go st139 ?_
    obtain ⟨T140, X140, e140, st140⟩ := getF X139 hx hZ hown (Or.inr (ow hw 116 rfl)) Via.refl e139 Fk (g := (mkF m 56 #[.val (.ref rd_), .val (.ref sc_), .val (.ref bf_), .val (.long q_), .second, .val (.int m_), .val (.ref ms_), .val (.long (4 : Int64)), .second, .val (.int s_), .val (.long (-1 : Int64)), .second, .unset, .unset, .unset] [(.ref so_), (.int s_)])) rfl rfl (hb hby d11_56)
    refine Ends.go st140 ?_
    refine Ends.go (fun _ k => XS.isub X140.here hx rfl (hb hby d11_59) rfl k) ?_
    refine Ends.go (fun _ k => XS.istore X140.here hx rfl (hb hby d11_60) rfl (l' := #[.val (.ref rd_), .val (.ref sc_), .val (.ref bf_), .val (.long q_), .second, .val (.int m_), .val (.ref ms_), .val (.long (4 : Int64)), .second, .val (.int s_), .val (.long (-1 : Int64)), .second, .val (.int (s_ - (2 : Int32))), .unset, .unset]) rfl k) ?_
    show Ends p e below s T140 (mkF m 62 #[.val (.ref rd_), .val (.ref sc_), .val (.ref bf_), .val (.long q_), .second, .val (.int m_), .val (.ref ms_), .val (.long (4 : Int64)), .second, .val (.int s_), .val (.long (-1 : Int64)), .second, .val (.int (s_ - (2 : Int32))), .unset, .unset] []) _ _ _
    rcases own_seven hs with rfl | rfl | rfl | rfl | rfl | rfl | rfl
    · show Ends p e below s T140 (mkF m 62 #[.val (.ref rd_), .val (.ref sc_), .val (.ref bf_), .val (.long q_), .second, .val (.int m_), .val (.ref ms_), .val (.long (4 : Int64)), .second, .val (.int (2 : Int32)), .val (.long (-1 : Int64)), .second, .val (.int (0 : Int32)), .unset, .unset] []) _ _ _
      refine Ends.go (fun _ k => XS.iload X140.here hx rfl (hb hby d11_62) rfl k) ?_
      refine Ends.go (fun _ k => XS.iload X140.here hx rfl (hb hby d11_64) rfl k) ?_
      refine Ends.go (fun _ k => XS.icmpNo X140.here hx rfl (hb hby d11_66) rfl (tlt (by decide : (0 : Int32) < (2 : Int32))).2.1 k) ?_
      show Ends p e below s T140 (mkF m 69 #[.val (.ref rd_), .val (.ref sc_), .val (.ref bf_), .val (.long q_), .second, .val (.int m_), .val (.ref ms_), .val (.long (4 : Int64)), .second, .val (.int (2 : Int32)), .val (.long (-1 : Int64)), .second, .val (.int (0 : Int32)), .unset, .unset] []) _ _ _
      refine Ends.go (fun _ k => XS.lload X140.here hx rfl (hb hby d11_69) rfl k) ?_
      refine Ends.go (fun _ k => XS.iconst X140.here hx rfl (hb hby d11_71) k) ?_
      refine Ends.go (fun _ k => XS.lshl X140.here hx rfl (hb hby d11_72) rfl k) ?_
      refine Ends.go (fun _ k => XS.aload X140.here hx rfl (hb hby d11_73) rfl rfl k) ?_
      show Ends p e below s T140 (mkF m 75 #[.val (.ref rd_), .val (.ref sc_), .val (.ref bf_), .val (.long q_), .second, .val (.int m_), .val (.ref ms_), .val (.long (4 : Int64)), .second, .val (.int (2 : Int32)), .val (.long (-1 : Int64)), .second, .val (.int (0 : Int32)), .unset, .unset] [(.ref ms_), (.long (-2 : Int64))]) _ _ _
      refine Ends.go (fun _ k => XS.aloadN X140.here hx rfl (hb hby d11_75) rfl rfl k) ?_
      refine Ends.go (fun _ k => XS.iload X140.here hx rfl (hb hby d11_76) rfl k) ?_
      obtain ⟨cl141, Ar141, q141, S141, M141, H141, G141⟩ := id Vb
      have hin141 := inb_of (j := (0 : Int32)) S141 ⟨by decide, by decide⟩
      refine Ends.go (X140.baloadBytes hx (j := (0 : Int32)) (v := (.int u0_)) (by rw [e140]; exact Ar141.1) (State.isArrayOf_alike hZ.alike Ar141.2.1) Ar141.2.2 hin141 (H141.at hin141 rfl) (g := (mkF m 78 #[.val (.ref rd_), .val (.ref sc_), .val (.ref bf_), .val (.long q_), .second, .val (.int m_), .val (.ref ms_), .val (.long (4 : Int64)), .second, .val (.int (2 : Int32)), .val (.long (-1 : Int64)), .second, .val (.int (0 : Int32)), .unset, .unset] [(.int (0 : Int32)), (.ref bf_), (.ref ms_), (.long (-2 : Int64))])) rfl rfl (hb hby d11_78)) ?_
      refine Ends.go (fun _ k => XS.sipush X140.here hx rfl (hb hby d11_79) k) ?_
      show Ends p e below s T140 (mkF m 82 #[.val (.ref rd_), .val (.ref sc_), .val (.ref bf_), .val (.long q_), .second, .val (.int m_), .val (.ref ms_), .val (.long (4 : Int64)), .second, .val (.int (2 : Int32)), .val (.long (-1 : Int64)), .second, .val (.int (0 : Int32)), .unset, .unset] [(.int (255 : Int32)), (.int u0_), (.ref ms_), (.long (-2 : Int64))]) _ _ _
      refine Ends.go (fun _ k => XS.iand X140.here hx rfl (hb hby d11_82) rfl k) ?_
      obtain ⟨cl142, Ar142, S142, H142⟩ := id M0
      have hin142 := inb_of (j := (u0_ &&& (255 : Int32))) S142 (own_in255 u0_)
      refine Ends.go (X140.laload hx (j := (u0_ &&& (255 : Int32))) (v := (.long (f_ ((u0_ &&& (255 : Int32)).toNatClampNeg)))) (by rw [e140]; exact Ar142.1) (State.isArrayOf_alike hZ.alike Ar142.2.1) Ar142.2.2 hin142 (H142 _ (Nat.lt_of_not_le fun y => hin142 (Or.inr y))) (g := (mkF m 83 #[.val (.ref rd_), .val (.ref sc_), .val (.ref bf_), .val (.long q_), .second, .val (.int m_), .val (.ref ms_), .val (.long (4 : Int64)), .second, .val (.int (2 : Int32)), .val (.long (-1 : Int64)), .second, .val (.int (0 : Int32)), .unset, .unset] [(.int (u0_ &&& (255 : Int32))), (.ref ms_), (.long (-2 : Int64))])) rfl rfl (hb hby d11_83)) ?_
      refine Ends.go (fun _ k => XS.lor X140.here hx rfl (hb hby d11_84) rfl k) ?_
      refine Ends.go (fun _ k => XS.lstore X140.here hx rfl (hb hby d11_85) rfl (l' := #[.val (.ref rd_), .val (.ref sc_), .val (.ref bf_), .val (.long q_), .second, .val (.int m_), .val (.ref ms_), .val (.long (4 : Int64)), .second, .val (.int (2 : Int32)), .val (.long ((-2 : Int64) ||| (f_ ((u0_ &&& (255 : Int32)).toNatClampNeg)))), .second, .val (.int (0 : Int32)), .unset, .unset]) rfl k) ?_
      show Ends p e below s T140 (mkF m 87 #[.val (.ref rd_), .val (.ref sc_), .val (.ref bf_), .val (.long q_), .second, .val (.int m_), .val (.ref ms_), .val (.long (4 : Int64)), .second, .val (.int (2 : Int32)), .val (.long ((-2 : Int64) ||| (f_ ((u0_ &&& (255 : Int32)).toNatClampNeg)))), .second, .val (.int (0 : Int32)), .unset, .unset] []) _ _ _
      refine Ends.go (fun _ k => XS.iinc X140.here hx rfl (hb hby d11_87) rfl (l' := #[.val (.ref rd_), .val (.ref sc_), .val (.ref bf_), .val (.long q_), .second, .val (.int m_), .val (.ref ms_), .val (.long (4 : Int64)), .second, .val (.int (2 : Int32)), .val (.long ((-2 : Int64) ||| (f_ ((u0_ &&& (255 : Int32)).toNatClampNeg)))), .second, .val (.int (1 : Int32)), .unset, .unset]) rfl k) ?_
      refine Ends.go (fun _ k => XS.goto X140.here hx rfl (pc0 := 90) (pc' := 62) rfl (hb hby d11_90) (by decide) (by decide) k) ?_
      refine Ends.go (fun _ k => XS.iload X140.here hx rfl (hb hby d11_62) rfl k) ?_
      refine Ends.go (fun _ k => XS.iload X140.here hx rfl (hb hby d11_64) rfl k) ?_
      show Ends p e below s T140 (mkF m 66 #[.val (.ref rd_), .val (.ref sc_), .val (.ref bf_), .val (.long q_), .second, .val (.int m_), .val (.ref ms_), .val (.long (4 : Int64)), .second, .val (.int (2 : Int32)), .val (.long ((-2 : Int64) ||| (f_ ((u0_ &&& (255 : Int32)).toNatClampNeg)))), .second, .val (.int (1 : Int32)), .unset, .unset] [(.int (2 : Int32)), (.int (1 : Int32))]) _ _ _
      refine Ends.go (fun _ k => XS.icmpNo X140.here hx rfl (hb hby d11_66) rfl (tlt (by decide : (1 : Int32) < (2 : Int32))).2.1 k) ?_
      refine Ends.go (fun _ k => XS.lload X140.here hx rfl (hb hby d11_69) rfl k) ?_
      refine Ends.go (fun _ k => XS.iconst X140.here hx rfl (hb hby d11_71) k) ?_
      refine Ends.go (fun _ k => XS.lshl X140.here hx rfl (hb hby d11_72) rfl k) ?_
      show Ends p e below s T140 (mkF m 73 #[.val (.ref rd_), .val (.ref sc_), .val (.ref bf_), .val (.long q_), .second, .val (.int m_), .val (.ref ms_), .val (.long (4 : Int64)), .second, .val (.int (2 : Int32)), .val (.long ((-2 : Int64) ||| (f_ ((u0_ &&& (255 : Int32)).toNatClampNeg)))), .second, .val (.int (1 : Int32)), .unset, .unset] [(.long (((-2 : Int64) ||| (f_ ((u0_ &&& (255 : Int32)).toNatClampNeg))) <<< ((1 : Int32) &&& 0x3f).toInt64))]) _ _ _
      refine Ends.go (fun _ k => XS.aload X140.here hx rfl (hb hby d11_73) rfl rfl k) ?_
      refine Ends.go (fun _ k => XS.aloadN X140.here hx rfl (hb hby d11_75) rfl rfl k) ?_
      refine Ends.go (fun _ k => XS.iload X140.here hx rfl (hb hby d11_76) rfl k) ?_
      obtain ⟨cl143, Ar143, q143, S143, M143, H143, G143⟩ := id Vb
      have hin143 := inb_of (j := (1 : Int32)) S143 ⟨by decide, by decide⟩
      refine Ends.go (X140.baloadBytes hx (j := (1 : Int32)) (v := (.int u1_)) (by rw [e140]; exact Ar143.1) (State.isArrayOf_alike hZ.alike Ar143.2.1) Ar143.2.2 hin143 (H143.at hin143 rfl) (g := (mkF m 78 #[.val (.ref rd_), .val (.ref sc_), .val (.ref bf_), .val (.long q_), .second, .val (.int m_), .val (.ref ms_), .val (.long (4 : Int64)), .second, .val (.int (2 : Int32)), .val (.long ((-2 : Int64) ||| (f_ ((u0_ &&& (255 : Int32)).toNatClampNeg)))), .second, .val (.int (1 : Int32)), .unset, .unset] [(.int (1 : Int32)), (.ref bf_), (.ref ms_), (.long (((-2 : Int64) ||| (f_ ((u0_ &&& (255 : Int32)).toNatClampNeg))) <<< ((1 : Int32) &&& 0x3f).toInt64))])) rfl rfl (hb hby d11_78)) ?_
      show Ends p e below s T140 (mkF m 79 #[.val (.ref rd_), .val (.ref sc_), .val (.ref bf_), .val (.long q_), .second, .val (.int m_), .val (.ref ms_), .val (.long (4 : Int64)), .second, .val (.int (2 : Int32)), .val (.long ((-2 : Int64) ||| (f_ ((u0_ &&& (255 : Int32)).toNatClampNeg)))), .second, .val (.int (1 : Int32)), .unset, .unset] [(.int u1_), (.ref ms_), (.long (((-2 : Int64) ||| (f_ ((u0_ &&& (255 : Int32)).toNatClampNeg))) <<< ((1 : Int32) &&& 0x3f).toInt64))]) _ _ _
      refine Ends.go (fun _ k => XS.sipush X140.here hx rfl (hb hby d11_79) k) ?_
      refine Ends.go (fun _ k => XS.iand X140.here hx rfl (hb hby d11_82) rfl k) ?_
      obtain ⟨cl144, Ar144, S144, H144⟩ := id M0
      have hin144 := inb_of (j := (u1_ &&& (255 : Int32))) S144 (own_in255 u1_)
      refine Ends.go (X140.laload hx (j := (u1_ &&& (255 : Int32))) (v := (.long (f_ ((u1_ &&& (255 : Int32)).toNatClampNeg)))) (by rw [e140]; exact Ar144.1) (State.isArrayOf_alike hZ.alike Ar144.2.1) Ar144.2.2 hin144 (H144 _ (Nat.lt_of_not_le fun y => hin144 (Or.inr y))) (g := (mkF m 83 #[.val (.ref rd_), .val (.ref sc_), .val (.ref bf_), .val (.long q_), .second, .val (.int m_), .val (.ref ms_), .val (.long (4 : Int64)), .second, .val (.int (2 : Int32)), .val (.long ((-2 : Int64) ||| (f_ ((u0_ &&& (255 : Int32)).toNatClampNeg)))), .second, .val (.int (1 : Int32)), .unset, .unset] [(.int (u1_ &&& (255 : Int32))), (.ref ms_), (.long (((-2 : Int64) ||| (f_ ((u0_ &&& (255 : Int32)).toNatClampNeg))) <<< ((1 : Int32) &&& 0x3f).toInt64))])) rfl rfl (hb hby d11_83)) ?_
      refine Ends.go (fun _ k => XS.lor X140.here hx rfl (hb hby d11_84) rfl k) ?_
      show Ends p e below s T140 (mkF m 85 #[.val (.ref rd_), .val (.ref sc_), .val (.ref bf_), .val (.long q_), .second, .val (.int m_), .val (.ref ms_), .val (.long (4 : Int64)), .second, .val (.int (2 : Int32)), .val (.long ((-2 : Int64) ||| (f_ ((u0_ &&& (255 : Int32)).toNatClampNeg)))), .second, .val (.int (1 : Int32)), .unset, .unset] [(.long ((((-2 : Int64) ||| (f_ ((u0_ &&& (255 : Int32)).toNatClampNeg))) <<< ((1 : Int32) &&& 0x3f).toInt64) ||| (f_ ((u1_ &&& (255 : Int32)).toNatClampNeg))))]) _ _ _
      refine Ends.go (fun _ k => XS.lstore X140.here hx rfl (hb hby d11_85) rfl (l' := #[.val (.ref rd_), .val (.ref sc_), .val (.ref bf_), .val (.long q_), .second, .val (.int m_), .val (.ref ms_), .val (.long (4 : Int64)), .second, .val (.int (2 : Int32)), .val (.long ((((-2 : Int64) ||| (f_ ((u0_ &&& (255 : Int32)).toNatClampNeg))) <<< ((1 : Int32) &&& 0x3f).toInt64) ||| (f_ ((u1_ &&& (255 : Int32)).toNatClampNeg)))), .second, .val (.int (1 : Int32)), .unset, .unset]) rfl k) ?_
      refine Ends.go (fun _ k => XS.iinc X140.here hx rfl (hb hby d11_87) rfl (l' := #[.val (.ref rd_), .val (.ref sc_), .val (.ref bf_), .val (.long q_), .second, .val (.int m_), .val (.ref ms_), .val (.long (4 : Int64)), .second, .val (.int (2 : Int32)), .val (.long ((((-2 : Int64) ||| (f_ ((u0_ &&& (255 : Int32)).toNatClampNeg))) <<< ((1 : Int32) &&& 0x3f).toInt64) ||| (f_ ((u1_ &&& (255 : Int32)).toNatClampNeg)))), .second, .val (.int (2 : Int32)), .unset, .unset]) rfl k) ?_
      refine Ends.go (fun _ k => XS.goto X140.here hx rfl (pc0 := 90) (pc' := 62) rfl (hb hby d11_90) (by decide) (by decide) k) ?_
      refine Ends.go (fun _ k => XS.iload X140.here hx rfl (hb hby d11_62) rfl k) ?_
      show Ends p e below s T140 (mkF m 64 #[.val (.ref rd_), .val (.ref sc_), .val (.ref bf_), .val (.long q_), .second, .val (.int m_), .val (.ref ms_), .val (.long (4 : Int64)), .second, .val (.int (2 : Int32)), .val (.long ((((-2 : Int64) ||| (f_ ((u0_ &&& (255 : Int32)).toNatClampNeg))) <<< ((1 : Int32) &&& 0x3f).toInt64) ||| (f_ ((u1_ &&& (255 : Int32)).toNatClampNeg)))), .second, .val (.int (2 : Int32)), .unset, .unset] [(.int (2 : Int32))]) _ _ _
      refine Ends.go (fun _ k => XS.iload X140.here hx rfl (hb hby d11_64) rfl k) ?_
      refine Ends.go (fun _ k => XS.icmpYes X140.here hx rfl (pc0 := 66) (pc' := 93) rfl (hb hby d11_66) rfl (flt (by decide : ¬ ((2 : Int32) < (2 : Int32)))).2.1 (by decide) (by decide) k) ?_
      refine Ends.go (fun _ k => XS.aloadN X140.here hx rfl (hb hby d11_93) rfl rfl k) ?_
      refine Ends.go (fun _ k => XS.dup X140.here hx rfl (hb hby d11_94) rfl rfl k) ?_
      show Ends p e below s T140 (mkF m 95 #[.val (.ref rd_), .val (.ref sc_), .val (.ref bf_), .val (.long q_), .second, .val (.int m_), .val (.ref ms_), .val (.long (4 : Int64)), .second, .val (.int (2 : Int32)), .val (.long ((((-2 : Int64) ||| (f_ ((u0_ &&& (255 : Int32)).toNatClampNeg))) <<< ((1 : Int32) &&& 0x3f).toInt64) ||| (f_ ((u1_ &&& (255 : Int32)).toNatClampNeg)))), .second, .val (.int (2 : Int32)), .unset, .unset] [(.ref sc_), (.ref sc_)]) _ _ _
      obtain ⟨T145, X145, e145, st145⟩ := getF X140 hx hZ hown (host := "") (Or.inl (ow hw 117 rfl)) Via.refl e140 Fd (g := (mkF m 95 #[.val (.ref rd_), .val (.ref sc_), .val (.ref bf_), .val (.long q_), .second, .val (.int m_), .val (.ref ms_), .val (.long (4 : Int64)), .second, .val (.int (2 : Int32)), .val (.long ((((-2 : Int64) ||| (f_ ((u0_ &&& (255 : Int32)).toNatClampNeg))) <<< ((1 : Int32) &&& 0x3f).toInt64) ||| (f_ ((u1_ &&& (255 : Int32)).toNatClampNeg)))), .second, .val (.int (2 : Int32)), .unset, .unset] [(.ref sc_), (.ref sc_)])) rfl rfl (hb hby d11_95)
      refine Ends.go st145 ?_
      refine Ends.go (fun _ k => XS.aloadN X145.here hx rfl (hb hby d11_98) rfl rfl k) ?_
      obtain ⟨T146, X146, e146, st146⟩ := getF X145 hx hZ hown (host := "") (Or.inl (ow hw 44 rfl)) Via.refl e145 Ft (g := (mkF m 99 #[.val (.ref rd_), .val (.ref sc_), .val (.ref bf_), .val (.long q_), .second, .val (.int m_), .val (.ref ms_), .val (.long (4 : Int64)), .second, .val (.int (2 : Int32)), .val (.long ((((-2 : Int64) ||| (f_ ((u0_ &&& (255 : Int32)).toNatClampNeg))) <<< ((1 : Int32) &&& 0x3f).toInt64) ||| (f_ ((u1_ &&& (255 : Int32)).toNatClampNeg)))), .second, .val (.int (2 : Int32)), .unset, .unset] [(.ref rd_), (.long d_), (.ref sc_)])) rfl rfl (hb hby d11_99)
      refine Ends.go st146 ?_
      obtain ⟨T147, X147, e147, st147⟩ := getF X146 hx hZ hown (Or.inr (ow hw 116 rfl)) Via.refl e146 Fk (g := (mkF m 102 #[.val (.ref rd_), .val (.ref sc_), .val (.ref bf_), .val (.long q_), .second, .val (.int m_), .val (.ref ms_), .val (.long (4 : Int64)), .second, .val (.int (2 : Int32)), .val (.long ((((-2 : Int64) ||| (f_ ((u0_ &&& (255 : Int32)).toNatClampNeg))) <<< ((1 : Int32) &&& 0x3f).toInt64) ||| (f_ ((u1_ &&& (255 : Int32)).toNatClampNeg)))), .second, .val (.int (2 : Int32)), .unset, .unset] [(.ref so_), (.long d_), (.ref sc_)])) rfl rfl (hb hby d11_102)
      refine Ends.go st147 ?_
      show Ends p e below s T147 (mkF m 105 #[.val (.ref rd_), .val (.ref sc_), .val (.ref bf_), .val (.long q_), .second, .val (.int m_), .val (.ref ms_), .val (.long (4 : Int64)), .second, .val (.int (2 : Int32)), .val (.long ((((-2 : Int64) ||| (f_ ((u0_ &&& (255 : Int32)).toNatClampNeg))) <<< ((1 : Int32) &&& 0x3f).toInt64) ||| (f_ ((u1_ &&& (255 : Int32)).toNatClampNeg)))), .second, .val (.int (2 : Int32)), .unset, .unset] [(.int (2 : Int32)), (.long d_), (.ref sc_)]) _ _ _
      refine Ends.go (fun _ k => XS.i2l X147.here hx rfl (hb hby d11_105) rfl k) ?_
      refine Ends.go (fun _ k => XS.ladd X147.here hx rfl (hb hby d11_106) rfl k) ?_
      obtain ⟨T148, h148, X148, e148, W148, st148⟩ := putF X147 hx hZ hown (host := "") (Or.inl (ow hw 117 rfl)) Via.refl e147 Fd Es (Or.inl (ow hw 118 rfl)) (ow hw 47 rfl) (ty := .long) (by decide) rfl rfl (g := (mkF m 107 #[.val (.ref rd_), .val (.ref sc_), .val (.ref bf_), .val (.long q_), .second, .val (.int m_), .val (.ref ms_), .val (.long (4 : Int64)), .second, .val (.int (2 : Int32)), .val (.long ((((-2 : Int64) ||| (f_ ((u0_ &&& (255 : Int32)).toNatClampNeg))) <<< ((1 : Int32) &&& 0x3f).toInt64) ||| (f_ ((u1_ &&& (255 : Int32)).toNatClampNeg)))), .second, .val (.int (2 : Int32)), .unset, .unset] [(.long (d_ + (2 : Int64))), (.ref sc_)])) rfl rfl (hb hby d11_107)
      refine Ends.go st148 ?_
      have Fw148 := Fd.same W148
      have K148 := K0.wr W148 (Or.inl (List.mem_of_getElem? (i := 1) rfl))
      have O148 := O0.wr W148 g_sc_
      have N148 := Fr.snoc X148 N0 g_sc_
      refine Ends.go (fun _ k => XS.iload X148.here hx rfl (hb hby d11_110) rfl k) ?_
      show Ends p e below s T148 (mkF m 112 #[.val (.ref rd_), .val (.ref sc_), .val (.ref bf_), .val (.long q_), .second, .val (.int m_), .val (.ref ms_), .val (.long (4 : Int64)), .second, .val (.int (2 : Int32)), .val (.long ((((-2 : Int64) ||| (f_ ((u0_ &&& (255 : Int32)).toNatClampNeg))) <<< ((1 : Int32) &&& 0x3f).toInt64) ||| (f_ ((u1_ &&& (255 : Int32)).toNatClampNeg)))), .second, .val (.int (2 : Int32)), .unset, .unset] [(.int m_)]) _ _ _
      refine Ends.go (fun _ k => XS.istore X148.here hx rfl (hb hby d11_112) rfl (l' := #[.val (.ref rd_), .val (.ref sc_), .val (.ref bf_), .val (.long q_), .second, .val (.int m_), .val (.ref ms_), .val (.long (4 : Int64)), .second, .val (.int (2 : Int32)), .val (.long ((((-2 : Int64) ||| (f_ ((u0_ &&& (255 : Int32)).toNatClampNeg))) <<< ((1 : Int32) &&& 0x3f).toInt64) ||| (f_ ((u1_ &&& (255 : Int32)).toNatClampNeg)))), .second, .val (.int m_), .unset, .unset]) rfl k) ?_
      refine Ends.go (fun _ k => XS.iconst X148.here hx rfl (hb hby d11_114) k) ?_
      refine Ends.go (fun _ k => XS.istore X148.here hx rfl (hb hby d11_115) rfl (l' := #[.val (.ref rd_), .val (.ref sc_), .val (.ref bf_), .val (.long q_), .second, .val (.int m_), .val (.ref ms_), .val (.long (4 : Int64)), .second, .val (.int (2 : Int32)), .val (.long ((((-2 : Int64) ||| (f_ ((u0_ &&& (255 : Int32)).toNatClampNeg))) <<< ((1 : Int32) &&& 0x3f).toInt64) ||| (f_ ((u1_ &&& (255 : Int32)).toNatClampNeg)))), .second, .val (.int m_), .val (.int (-1 : Int32)), .unset]) rfl k) ?_
      refine Ends.go (fun _ k => XS.iload X148.here hx rfl (hb hby d11_117) rfl k) ?_
      show Ends p e below s T148 (mkF m 119 #[.val (.ref rd_), .val (.ref sc_), .val (.ref bf_), .val (.long q_), .second, .val (.int m_), .val (.ref ms_), .val (.long (4 : Int64)), .second, .val (.int (2 : Int32)), .val (.long ((((-2 : Int64) ||| (f_ ((u0_ &&& (255 : Int32)).toNatClampNeg))) <<< ((1 : Int32) &&& 0x3f).toInt64) ||| (f_ ((u1_ &&& (255 : Int32)).toNatClampNeg)))), .second, .val (.int m_), .val (.int (-1 : Int32)), .unset] [(.int (2 : Int32))]) _ _ _
      refine Ends.go (fun _ k => XS.istore X148.here hx rfl (hb hby d11_119) rfl (l' := #[.val (.ref rd_), .val (.ref sc_), .val (.ref bf_), .val (.long q_), .second, .val (.int m_), .val (.ref ms_), .val (.long (4 : Int64)), .second, .val (.int (2 : Int32)), .val (.long ((((-2 : Int64) ||| (f_ ((u0_ &&& (255 : Int32)).toNatClampNeg))) <<< ((1 : Int32) &&& 0x3f).toInt64) ||| (f_ ((u1_ &&& (255 : Int32)).toNatClampNeg)))), .second, .val (.int m_), .val (.int (-1 : Int32)), .val (.int (2 : Int32))]) rfl k) ?_
      exact J121_2 _ _ _ _ _ _ _ _ X148 e148 O148 N148 K148 (Er.wr W148) (Es.wr W148) (Ft.other W148 (Or.inl ne_rd_sc_)) (Fh.other W148 (Or.inl ne_rd_sc_)) (Fe.other W148 (Or.inl ne_rd_sc_)) (Fi.other W148 (Or.inr (slot_ne (Or.inl (ow hw 92 rfl)) (Or.inl (ow hw 118 rfl)) (by decide) (t := .long) (t' := .long) (by decide) (by decide)))) Fw148 (Vb.other W148 (Ne.symm ne_sc_bf_)) (M0.other W148 (Ne.symm ne_sc_ms_)) (if_neg (fun z => hc42_138 ((lw_eq _ _).mpr z))).symm (own_two hm hu0_ hu1_) hr (own_nlt hl.1)
    · show Ends p e below s T140 (mkF m 62 #[.val (.ref rd_), .val (.ref sc_), .val (.ref bf_), .val (.long q_), .second, .val (.int m_), .val (.ref ms_), .val (.long (4 : Int64)), .second, .val (.int (3 : Int32)), .val (.long (-1 : Int64)), .second, .val (.int (1 : Int32)), .unset, .unset] []) _ _ _
      refine Ends.go (fun _ k => XS.iload X140.here hx rfl (hb hby d11_62) rfl k) ?_
      refine Ends.go (fun _ k => XS.iload X140.here hx rfl (hb hby d11_64) rfl k) ?_
      show Ends p e below s T140 (mkF m 66 #[.val (.ref rd_), .val (.ref sc_), .val (.ref bf_), .val (.long q_), .second, .val (.int m_), .val (.ref ms_), .val (.long (4 : Int64)), .second, .val (.int (3 : Int32)), .val (.long (-1 : Int64)), .second, .val (.int (1 : Int32)), .unset, .unset] [(.int (3 : Int32)), (.int (1 : Int32))]) _ _ _
      refine Ends.go (fun _ k => XS.icmpNo X140.here hx rfl (hb hby d11_66) rfl (tlt (by decide : (1 : Int32) < (3 : Int32))).2.1 k) ?_
      refine Ends.go (fun _ k => XS.lload X140.here hx rfl (hb hby d11_69) rfl k) ?_
      refine Ends.go (fun _ k => XS.iconst X140.here hx rfl (hb hby d11_71) k) ?_
      refine Ends.go (fun _ k => XS.lshl X140.here hx rfl (hb hby d11_72) rfl k) ?_
      show Ends p e below s T140 (mkF m 73 #[.val (.ref rd_), .val (.ref sc_), .val (.ref bf_), .val (.long q_), .second, .val (.int m_), .val (.ref ms_), .val (.long (4 : Int64)), .second, .val (.int (3 : Int32)), .val (.long (-1 : Int64)), .second, .val (.int (1 : Int32)), .unset, .unset] [(.long (-2 : Int64))]) _ _ _
      refine Ends.go (fun _ k => XS.aload X140.here hx rfl (hb hby d11_73) rfl rfl k) ?_
      refine Ends.go (fun _ k => XS.aloadN X140.here hx rfl (hb hby d11_75) rfl rfl k) ?_
      refine Ends.go (fun _ k => XS.iload X140.here hx rfl (hb hby d11_76) rfl k) ?_
      obtain ⟨cl149, Ar149, q149, S149, M149, H149, G149⟩ := id Vb
      have hin149 := inb_of (j := (1 : Int32)) S149 ⟨by decide, by decide⟩
      refine Ends.go (X140.baloadBytes hx (j := (1 : Int32)) (v := (.int u1_)) (by rw [e140]; exact Ar149.1) (State.isArrayOf_alike hZ.alike Ar149.2.1) Ar149.2.2 hin149 (H149.at hin149 rfl) (g := (mkF m 78 #[.val (.ref rd_), .val (.ref sc_), .val (.ref bf_), .val (.long q_), .second, .val (.int m_), .val (.ref ms_), .val (.long (4 : Int64)), .second, .val (.int (3 : Int32)), .val (.long (-1 : Int64)), .second, .val (.int (1 : Int32)), .unset, .unset] [(.int (1 : Int32)), (.ref bf_), (.ref ms_), (.long (-2 : Int64))])) rfl rfl (hb hby d11_78)) ?_
      show Ends p e below s T140 (mkF m 79 #[.val (.ref rd_), .val (.ref sc_), .val (.ref bf_), .val (.long q_), .second, .val (.int m_), .val (.ref ms_), .val (.long (4 : Int64)), .second, .val (.int (3 : Int32)), .val (.long (-1 : Int64)), .second, .val (.int (1 : Int32)), .unset, .unset] [(.int u1_), (.ref ms_), (.long (-2 : Int64))]) _ _ _
      refine Ends.go (fun _ k => XS.sipush X140.here hx rfl (hb hby d11_79) k) ?_
      refine Ends.go (fun _ k => XS.iand X140.here hx rfl (hb hby d11_82) rfl k) ?_
      obtain ⟨cl150, Ar150, S150, H150⟩ := id M0
      have hin150 := inb_of (j := (u1_ &&& (255 : Int32))) S150 (own_in255 u1_)
      refine Ends.go (X140.laload hx (j := (u1_ &&& (255 : Int32))) (v := (.long (f_ ((u1_ &&& (255 : Int32)).toNatClampNeg)))) (by rw [e140]; exact Ar150.1) (State.isArrayOf_alike hZ.alike Ar150.2.1) Ar150.2.2 hin150 (H150 _ (Nat.lt_of_not_le fun y => hin150 (Or.inr y))) (g := (mkF m 83 #[.val (.ref rd_), .val (.ref sc_), .val (.ref bf_), .val (.long q_), .second, .val (.int m_), .val (.ref ms_), .val (.long (4 : Int64)), .second, .val (.int (3 : Int32)), .val (.long (-1 : Int64)), .second, .val (.int (1 : Int32)), .unset, .unset] [(.int (u1_ &&& (255 : Int32))), (.ref ms_), (.long (-2 : Int64))])) rfl rfl (hb hby d11_83)) ?_
      refine Ends.go (fun _ k => XS.lor X140.here hx rfl (hb hby d11_84) rfl k) ?_
      show Ends p e below s T140 (mkF m 85 #[.val (.ref rd_), .val (.ref sc_), .val (.ref bf_), .val (.long q_), .second, .val (.int m_), .val (.ref ms_), .val (.long (4 : Int64)), .second, .val (.int (3 : Int32)), .val (.long (-1 : Int64)), .second, .val (.int (1 : Int32)), .unset, .unset] [(.long ((-2 : Int64) ||| (f_ ((u1_ &&& (255 : Int32)).toNatClampNeg))))]) _ _ _
      refine Ends.go (fun _ k => XS.lstore X140.here hx rfl (hb hby d11_85) rfl (l' := #[.val (.ref rd_), .val (.ref sc_), .val (.ref bf_), .val (.long q_), .second, .val (.int m_), .val (.ref ms_), .val (.long (4 : Int64)), .second, .val (.int (3 : Int32)), .val (.long ((-2 : Int64) ||| (f_ ((u1_ &&& (255 : Int32)).toNatClampNeg)))), .second, .val (.int (1 : Int32)), .unset, .unset]) rfl k) ?_
      refine Ends.go (fun _ k => XS.iinc X140.here hx rfl (hb hby d11_87) rfl (l' := #[.val (.ref rd_), .val (.ref sc_), .val (.ref bf_), .val (.long q_), .second, .val (.int m_), .val (.ref ms_), .val (.long (4 : Int64)), .second, .val (.int (3 : Int32)), .val (.long ((-2 : Int64) ||| (f_ ((u1_ &&& (255 : Int32)).toNatClampNeg)))), .second, .val (.int (2 : Int32)), .unset, .unset]) rfl k) ?_
      refine Ends.go (fun _ k => XS.goto X140.here hx rfl (pc0 := 90) (pc' := 62) rfl (hb hby d11_90) (by decide) (by decide) k) ?_
      refine Ends.go (fun _ k => XS.iload X140.here hx rfl (hb hby d11_62) rfl k) ?_
      show Ends p e below s T140 (mkF m 64 #[.val (.ref rd_), .val (.ref sc_), .val (.ref bf_), .val (.long q_), .second, .val (.int m_), .val (.ref ms_), .val (.long (4 : Int64)), .second, .val (.int (3 : Int32)), .val (.long ((-2 : Int64) ||| (f_ ((u1_ &&& (255 : Int32)).toNatClampNeg)))), .second, .val (.int (2 : Int32)), .unset, .unset] [(.int (2 : Int32))]) _ _ _
      refine Ends.go (fun _ k => XS.iload X140.here hx rfl (hb hby d11_64) rfl k) ?_
      refine Ends.go (fun _ k => XS.icmpNo X140.here hx rfl (hb hby d11_66) rfl (tlt (by decide : (2 : Int32) < (3 : Int32))).2.1 k) ?_
      refine Ends.go (fun _ k => XS.lload X140.here hx rfl (hb hby d11_69) rfl k) ?_
      refine Ends.go (fun _ k => XS.iconst X140.here hx rfl (hb hby d11_71) k) ?_
      show Ends p e below s T140 (mkF m 72 #[.val (.ref rd_), .val (.ref sc_), .val (.ref bf_), .val (.long q_), .second, .val (.int m_), .val (.ref ms_), .val (.long (4 : Int64)), .second, .val (.int (3 : Int32)), .val (.long ((-2 : Int64) ||| (f_ ((u1_ &&& (255 : Int32)).toNatClampNeg)))), .second, .val (.int (2 : Int32)), .unset, .unset] [(.int (1 : Int32)), (.long ((-2 : Int64) ||| (f_ ((u1_ &&& (255 : Int32)).toNatClampNeg))))]) _ _ _
      refine Ends.go (fun _ k => XS.lshl X140.here hx rfl (hb hby d11_72) rfl k) ?_
      refine Ends.go (fun _ k => XS.aload X140.here hx rfl (hb hby d11_73) rfl rfl k) ?_
      refine Ends.go (fun _ k => XS.aloadN X140.here hx rfl (hb hby d11_75) rfl rfl k) ?_
      refine Ends.go (fun _ k => XS.iload X140.here hx rfl (hb hby d11_76) rfl k) ?_
      show Ends p e below s T140 (mkF m 78 #[.val (.ref rd_), .val (.ref sc_), .val (.ref bf_), .val (.long q_), .second, .val (.int m_), .val (.ref ms_), .val (.long (4 : Int64)), .second, .val (.int (3 : Int32)), .val (.long ((-2 : Int64) ||| (f_ ((u1_ &&& (255 : Int32)).toNatClampNeg)))), .second, .val (.int (2 : Int32)), .unset, .unset] [(.int (2 : Int32)), (.ref bf_), (.ref ms_), (.long (((-2 : Int64) ||| (f_ ((u1_ &&& (255 : Int32)).toNatClampNeg))) <<< ((1 : Int32) &&& 0x3f).toInt64))]) _ _ _
      obtain ⟨cl151, Ar151, q151, S151, M151, H151, G151⟩ := id Vb
      have hin151 := inb_of (j := (2 : Int32)) S151 ⟨by decide, by decide⟩
      refine Ends.go (X140.baloadBytes hx (j := (2 : Int32)) (v := (.int u2_)) (by rw [e140]; exact Ar151.1) (State.isArrayOf_alike hZ.alike Ar151.2.1) Ar151.2.2 hin151 (H151.at hin151 rfl) (g := (mkF m 78 #[.val (.ref rd_), .val (.ref sc_), .val (.ref bf_), .val (.long q_), .second, .val (.int m_), .val (.ref ms_), .val (.long (4 : Int64)), .second, .val (.int (3 : Int32)), .val (.long ((-2 : Int64) ||| (f_ ((u1_ &&& (255 : Int32)).toNatClampNeg)))), .second, .val (.int (2 : Int32)), .unset, .unset] [(.int (2 : Int32)), (.ref bf_), (.ref ms_), (.long (((-2 : Int64) ||| (f_ ((u1_ &&& (255 : Int32)).toNatClampNeg))) <<< ((1 : Int32) &&& 0x3f).toInt64))])) rfl rfl (hb hby d11_78)) ?_
      refine Ends.go (fun _ k => XS.sipush X140.here hx rfl (hb hby d11_79) k) ?_
      refine Ends.go (fun _ k => XS.iand X140.here hx rfl (hb hby d11_82) rfl k) ?_
      obtain ⟨cl152, Ar152, S152, H152⟩ := id M0
      have hin152 := inb_of (j := (u2_ &&& (255 : Int32))) S152 (own_in255 u2_)
      refine Ends.go (X140.laload hx (j := (u2_ &&& (255 : Int32))) (v := (.long (f_ ((u2_ &&& (255 : Int32)).toNatClampNeg)))) (by rw [e140]; exact Ar152.1) (State.isArrayOf_alike hZ.alike Ar152.2.1) Ar152.2.2 hin152 (H152 _ (Nat.lt_of_not_le fun y => hin152 (Or.inr y))) (g := (mkF m 83 #[.val (.ref rd_), .val (.ref sc_), .val (.ref bf_), .val (.long q_), .second, .val (.int m_), .val (.ref ms_), .val (.long (4 : Int64)), .second, .val (.int (3 : Int32)), .val (.long ((-2 : Int64) ||| (f_ ((u1_ &&& (255 : Int32)).toNatClampNeg)))), .second, .val (.int (2 : Int32)), .unset, .unset] [(.int (u2_ &&& (255 : Int32))), (.ref ms_), (.long (((-2 : Int64) ||| (f_ ((u1_ &&& (255 : Int32)).toNatClampNeg))) <<< ((1 : Int32) &&& 0x3f).toInt64))])) rfl rfl (hb hby d11_83)) ?_
      show Ends p e below s T140 (mkF m 84 #[.val (.ref rd_), .val (.ref sc_), .val (.ref bf_), .val (.long q_), .second, .val (.int m_), .val (.ref ms_), .val (.long (4 : Int64)), .second, .val (.int (3 : Int32)), .val (.long ((-2 : Int64) ||| (f_ ((u1_ &&& (255 : Int32)).toNatClampNeg)))), .second, .val (.int (2 : Int32)), .unset, .unset] [(.long (f_ ((u2_ &&& (255 : Int32)).toNatClampNeg))), (.long (((-2 : Int64) ||| (f_ ((u1_ &&& (255 : Int32)).toNatClampNeg))) <<< ((1 : Int32) &&& 0x3f).toInt64))]) _ _ _
      refine Ends.go (fun _ k => XS.lor X140.here hx rfl (hb hby d11_84) rfl k) ?_
      refine Ends.go (fun _ k => XS.lstore X140.here hx rfl (hb hby d11_85) rfl (l' := #[.val (.ref rd_), .val (.ref sc_), .val (.ref bf_), .val (.long q_), .second, .val (.int m_), .val (.ref ms_), .val (.long (4 : Int64)), .second, .val (.int (3 : Int32)), .val (.long ((((-2 : Int64) ||| (f_ ((u1_ &&& (255 : Int32)).toNatClampNeg))) <<< ((1 : Int32) &&& 0x3f).toInt64) ||| (f_ ((u2_ &&& (255 : Int32)).toNatClampNeg)))), .second, .val (.int (2 : Int32)), .unset, .unset]) rfl k) ?_
      refine Ends.go (fun _ k => XS.iinc X140.here hx rfl (hb hby d11_87) rfl (l' := #[.val (.ref rd_), .val (.ref sc_), .val (.ref bf_), .val (.long q_), .second, .val (.int m_), .val (.ref ms_), .val (.long (4 : Int64)), .second, .val (.int (3 : Int32)), .val (.long ((((-2 : Int64) ||| (f_ ((u1_ &&& (255 : Int32)).toNatClampNeg))) <<< ((1 : Int32) &&& 0x3f).toInt64) ||| (f_ ((u2_ &&& (255 : Int32)).toNatClampNeg)))), .second, .val (.int (3 : Int32)), .unset, .unset]) rfl k) ?_
      refine Ends.go (fun _ k => XS.goto X140.here hx rfl (pc0 := 90) (pc' := 62) rfl (hb hby d11_90) (by decide) (by decide) k) ?_
      show Ends p e below s T140 (mkF m 62 #[.val (.ref rd_), .val (.ref sc_), .val (.ref bf_), .val (.long q_), .second, .val (.int m_), .val (.ref ms_), .val (.long (4 : Int64)), .second, .val (.int (3 : Int32)), .val (.long ((((-2 : Int64) ||| (f_ ((u1_ &&& (255 : Int32)).toNatClampNeg))) <<< ((1 : Int32) &&& 0x3f).toInt64) ||| (f_ ((u2_ &&& (255 : Int32)).toNatClampNeg)))), .second, .val (.int (3 : Int32)), .unset, .unset] []) _ _ _
      refine Ends.go (fun _ k => XS.iload X140.here hx rfl (hb hby d11_62) rfl k) ?_
      refine Ends.go (fun _ k => XS.iload X140.here hx rfl (hb hby d11_64) rfl k) ?_
      refine Ends.go (fun _ k => XS.icmpYes X140.here hx rfl (pc0 := 66) (pc' := 93) rfl (hb hby d11_66) rfl (flt (by decide : ¬ ((3 : Int32) < (3 : Int32)))).2.1 (by decide) (by decide) k) ?_
      refine Ends.go (fun _ k => XS.aloadN X140.here hx rfl (hb hby d11_93) rfl rfl k) ?_
      show Ends p e below s T140 (mkF m 94 #[.val (.ref rd_), .val (.ref sc_), .val (.ref bf_), .val (.long q_), .second, .val (.int m_), .val (.ref ms_), .val (.long (4 : Int64)), .second, .val (.int (3 : Int32)), .val (.long ((((-2 : Int64) ||| (f_ ((u1_ &&& (255 : Int32)).toNatClampNeg))) <<< ((1 : Int32) &&& 0x3f).toInt64) ||| (f_ ((u2_ &&& (255 : Int32)).toNatClampNeg)))), .second, .val (.int (3 : Int32)), .unset, .unset] [(.ref sc_)]) _ _ _
      refine Ends.go (fun _ k => XS.dup X140.here hx rfl (hb hby d11_94) rfl rfl k) ?_
      obtain ⟨T153, X153, e153, st153⟩ := getF X140 hx hZ hown (host := "") (Or.inl (ow hw 117 rfl)) Via.refl e140 Fd (g := (mkF m 95 #[.val (.ref rd_), .val (.ref sc_), .val (.ref bf_), .val (.long q_), .second, .val (.int m_), .val (.ref ms_), .val (.long (4 : Int64)), .second, .val (.int (3 : Int32)), .val (.long ((((-2 : Int64) ||| (f_ ((u1_ &&& (255 : Int32)).toNatClampNeg))) <<< ((1 : Int32) &&& 0x3f).toInt64) ||| (f_ ((u2_ &&& (255 : Int32)).toNatClampNeg)))), .second, .val (.int (3 : Int32)), .unset, .unset] [(.ref sc_), (.ref sc_)])) rfl rfl (hb hby d11_95)
      refine Ends.go st153 ?_
      refine Ends.go (fun _ k => XS.aloadN X153.here hx rfl (hb hby d11_98) rfl rfl k) ?_
      obtain ⟨T154, X154, e154, st154⟩ := getF X153 hx hZ hown (host := "") (Or.inl (ow hw 44 rfl)) Via.refl e153 Ft (g := (mkF m 99 #[.val (.ref rd_), .val (.ref sc_), .val (.ref bf_), .val (.long q_), .second, .val (.int m_), .val (.ref ms_), .val (.long (4 : Int64)), .second, .val (.int (3 : Int32)), .val (.long ((((-2 : Int64) ||| (f_ ((u1_ &&& (255 : Int32)).toNatClampNeg))) <<< ((1 : Int32) &&& 0x3f).toInt64) ||| (f_ ((u2_ &&& (255 : Int32)).toNatClampNeg)))), .second, .val (.int (3 : Int32)), .unset, .unset] [(.ref rd_), (.long d_), (.ref sc_)])) rfl rfl (hb hby d11_99)
      refine Ends.go st154 ?_
      show Ends p e below s T154 (mkF m 102 #[.val (.ref rd_), .val (.ref sc_), .val (.ref bf_), .val (.long q_), .second, .val (.int m_), .val (.ref ms_), .val (.long (4 : Int64)), .second, .val (.int (3 : Int32)), .val (.long ((((-2 : Int64) ||| (f_ ((u1_ &&& (255 : Int32)).toNatClampNeg))) <<< ((1 : Int32) &&& 0x3f).toInt64) ||| (f_ ((u2_ &&& (255 : Int32)).toNatClampNeg)))), .second, .val (.int (3 : Int32)), .unset, .unset] [(.ref so_), (.long d_), (.ref sc_)]) _ _ _
      obtain ⟨T155, X155, e155, st155⟩ := getF X154 hx hZ hown (Or.inr (ow hw 116 rfl)) Via.refl e154 Fk (g := (mkF m 102 #[.val (.ref rd_), .val (.ref sc_), .val (.ref bf_), .val (.long q_), .second, .val (.int m_), .val (.ref ms_), .val (.long (4 : Int64)), .second, .val (.int (3 : Int32)), .val (.long ((((-2 : Int64) ||| (f_ ((u1_ &&& (255 : Int32)).toNatClampNeg))) <<< ((1 : Int32) &&& 0x3f).toInt64) ||| (f_ ((u2_ &&& (255 : Int32)).toNatClampNeg)))), .second, .val (.int (3 : Int32)), .unset, .unset] [(.ref so_), (.long d_), (.ref sc_)])) rfl rfl (hb hby d11_102)
      refine Ends.go st155 ?_
      refine Ends.go (fun _ k => XS.i2l X155.here hx rfl (hb hby d11_105) rfl k) ?_
      refine Ends.go (fun _ k => XS.ladd X155.here hx rfl (hb hby d11_106) rfl k) ?_
      obtain ⟨T156, h156, X156, e156, W156, st156⟩ := putF X155 hx hZ hown (host := "") (Or.inl (ow hw 117 rfl)) Via.refl e155 Fd Es (Or.inl (ow hw 118 rfl)) (ow hw 47 rfl) (ty := .long) (by decide) rfl rfl (g := (mkF m 107 #[.val (.ref rd_), .val (.ref sc_), .val (.ref bf_), .val (.long q_), .second, .val (.int m_), .val (.ref ms_), .val (.long (4 : Int64)), .second, .val (.int (3 : Int32)), .val (.long ((((-2 : Int64) ||| (f_ ((u1_ &&& (255 : Int32)).toNatClampNeg))) <<< ((1 : Int32) &&& 0x3f).toInt64) ||| (f_ ((u2_ &&& (255 : Int32)).toNatClampNeg)))), .second, .val (.int (3 : Int32)), .unset, .unset] [(.long (d_ + (2 : Int64))), (.ref sc_)])) rfl rfl (hb hby d11_107)
      refine Ends.go st156 ?_
      have Fw156 := Fd.same W156
      have K156 := K0.wr W156 (Or.inl (List.mem_of_getElem? (i := 1) rfl))
      have O156 := O0.wr W156 g_sc_
      have N156 := Fr.snoc X156 N0 g_sc_
      show Ends p e below s T156 (mkF m 110 #[.val (.ref rd_), .val (.ref sc_), .val (.ref bf_), .val (.long q_), .second, .val (.int m_), .val (.ref ms_), .val (.long (4 : Int64)), .second, .val (.int (3 : Int32)), .val (.long ((((-2 : Int64) ||| (f_ ((u1_ &&& (255 : Int32)).toNatClampNeg))) <<< ((1 : Int32) &&& 0x3f).toInt64) ||| (f_ ((u2_ &&& (255 : Int32)).toNatClampNeg)))), .second, .val (.int (3 : Int32)), .unset, .unset] []) _ _ _
      refine Ends.go (fun _ k => XS.iload X156.here hx rfl (hb hby d11_110) rfl k) ?_
      refine Ends.go (fun _ k => XS.istore X156.here hx rfl (hb hby d11_112) rfl (l' := #[.val (.ref rd_), .val (.ref sc_), .val (.ref bf_), .val (.long q_), .second, .val (.int m_), .val (.ref ms_), .val (.long (4 : Int64)), .second, .val (.int (3 : Int32)), .val (.long ((((-2 : Int64) ||| (f_ ((u1_ &&& (255 : Int32)).toNatClampNeg))) <<< ((1 : Int32) &&& 0x3f).toInt64) ||| (f_ ((u2_ &&& (255 : Int32)).toNatClampNeg)))), .second, .val (.int m_), .unset, .unset]) rfl k) ?_
      refine Ends.go (fun _ k => XS.iconst X156.here hx rfl (hb hby d11_114) k) ?_
      refine Ends.go (fun _ k => XS.istore X156.here hx rfl (hb hby d11_115) rfl (l' := #[.val (.ref rd_), .val (.ref sc_), .val (.ref bf_), .val (.long q_), .second, .val (.int m_), .val (.ref ms_), .val (.long (4 : Int64)), .second, .val (.int (3 : Int32)), .val (.long ((((-2 : Int64) ||| (f_ ((u1_ &&& (255 : Int32)).toNatClampNeg))) <<< ((1 : Int32) &&& 0x3f).toInt64) ||| (f_ ((u2_ &&& (255 : Int32)).toNatClampNeg)))), .second, .val (.int m_), .val (.int (-1 : Int32)), .unset]) rfl k) ?_
      show Ends p e below s T156 (mkF m 117 #[.val (.ref rd_), .val (.ref sc_), .val (.ref bf_), .val (.long q_), .second, .val (.int m_), .val (.ref ms_), .val (.long (4 : Int64)), .second, .val (.int (3 : Int32)), .val (.long ((((-2 : Int64) ||| (f_ ((u1_ &&& (255 : Int32)).toNatClampNeg))) <<< ((1 : Int32) &&& 0x3f).toInt64) ||| (f_ ((u2_ &&& (255 : Int32)).toNatClampNeg)))), .second, .val (.int m_), .val (.int (-1 : Int32)), .unset] []) _ _ _
      refine Ends.go (fun _ k => XS.iload X156.here hx rfl (hb hby d11_117) rfl k) ?_
      refine Ends.go (fun _ k => XS.istore X156.here hx rfl (hb hby d11_119) rfl (l' := #[.val (.ref rd_), .val (.ref sc_), .val (.ref bf_), .val (.long q_), .second, .val (.int m_), .val (.ref ms_), .val (.long (4 : Int64)), .second, .val (.int (3 : Int32)), .val (.long ((((-2 : Int64) ||| (f_ ((u1_ &&& (255 : Int32)).toNatClampNeg))) <<< ((1 : Int32) &&& 0x3f).toInt64) ||| (f_ ((u2_ &&& (255 : Int32)).toNatClampNeg)))), .second, .val (.int m_), .val (.int (-1 : Int32)), .val (.int (3 : Int32))]) rfl k) ?_
      exact J121_3 _ _ _ _ _ _ _ _ X156 e156 O156 N156 K156 (Er.wr W156) (Es.wr W156) (Ft.other W156 (Or.inl ne_rd_sc_)) (Fh.other W156 (Or.inl ne_rd_sc_)) (Fe.other W156 (Or.inl ne_rd_sc_)) (Fi.other W156 (Or.inr (slot_ne (Or.inl (ow hw 92 rfl)) (Or.inl (ow hw 118 rfl)) (by decide) (t := .long) (t' := .long) (by decide) (by decide)))) Fw156 (Vb.other W156 (Ne.symm ne_sc_bf_)) (M0.other W156 (Ne.symm ne_sc_ms_)) (if_neg (fun z => hc42_138 ((lw_eq _ _).mpr z))).symm (own_two hm hu1_ hu2_) hr (own_nlt hl.1)
    · show Ends p e below s T140 (mkF m 62 #[.val (.ref rd_), .val (.ref sc_), .val (.ref bf_), .val (.long q_), .second, .val (.int m_), .val (.ref ms_), .val (.long (4 : Int64)), .second, .val (.int (4 : Int32)), .val (.long (-1 : Int64)), .second, .val (.int (2 : Int32)), .unset, .unset] []) _ _ _
      refine Ends.go (fun _ k => XS.iload X140.here hx rfl (hb hby d11_62) rfl k) ?_
      show Ends p e below s T140 (mkF m 64 #[.val (.ref rd_), .val (.ref sc_), .val (.ref bf_), .val (.long q_), .second, .val (.int m_), .val (.ref ms_), .val (.long (4 : Int64)), .second, .val (.int (4 : Int32)), .val (.long (-1 : Int64)), .second, .val (.int (2 : Int32)), .unset, .unset] [(.int (2 : Int32))]) _ _ _
      refine Ends.go (fun _ k => XS.iload X140.here hx rfl (hb hby d11_64) rfl k) ?_
      refine Ends.go (fun _ k => XS.icmpNo X140.here hx rfl (hb hby d11_66) rfl (tlt (by decide : (2 : Int32) < (4 : Int32))).2.1 k) ?_
      refine Ends.go (fun _ k => XS.lload X140.here hx rfl (hb hby d11_69) rfl k) ?_
      refine Ends.go (fun _ k => XS.iconst X140.here hx rfl (hb hby d11_71) k) ?_
      show Ends p e below s T140 (mkF m 72 #[.val (.ref rd_), .val (.ref sc_), .val (.ref bf_), .val (.long q_), .second, .val (.int m_), .val (.ref ms_), .val (.long (4 : Int64)), .second, .val (.int (4 : Int32)), .val (.long (-1 : Int64)), .second, .val (.int (2 : Int32)), .unset, .unset] [(.int (1 : Int32)), (.long (-1 : Int64))]) _ _ _
      refine Ends.go (fun _ k => XS.lshl X140.here hx rfl (hb hby d11_72) rfl k) ?_
      refine Ends.go (fun _ k => XS.aload X140.here hx rfl (hb hby d11_73) rfl rfl k) ?_
      refine Ends.go (fun _ k => XS.aloadN X140.here hx rfl (hb hby d11_75) rfl rfl k) ?_
      refine Ends.go (fun _ k => XS.iload X140.here hx rfl (hb hby d11_76) rfl k) ?_
      show Ends p e below s T140 (mkF m 78 #[.val (.ref rd_), .val (.ref sc_), .val (.ref bf_), .val (.long q_), .second, .val (.int m_), .val (.ref ms_), .val (.long (4 : Int64)), .second, .val (.int (4 : Int32)), .val (.long (-1 : Int64)), .second, .val (.int (2 : Int32)), .unset, .unset] [(.int (2 : Int32)), (.ref bf_), (.ref ms_), (.long (-2 : Int64))]) _ _ _
      obtain ⟨cl157, Ar157, q157, S157, M157, H157, G157⟩ := id Vb
      have hin157 := inb_of (j := (2 : Int32)) S157 ⟨by decide, by decide⟩
      refine Ends.go (X140.baloadBytes hx (j := (2 : Int32)) (v := (.int u2_)) (by rw [e140]; exact Ar157.1) (State.isArrayOf_alike hZ.alike Ar157.2.1) Ar157.2.2 hin157 (H157.at hin157 rfl) (g := (mkF m 78 #[.val (.ref rd_), .val (.ref sc_), .val (.ref bf_), .val (.long q_), .second, .val (.int m_), .val (.ref ms_), .val (.long (4 : Int64)), .second, .val (.int (4 : Int32)), .val (.long (-1 : Int64)), .second, .val (.int (2 : Int32)), .unset, .unset] [(.int (2 : Int32)), (.ref bf_), (.ref ms_), (.long (-2 : Int64))])) rfl rfl (hb hby d11_78)) ?_
      refine Ends.go (fun _ k => XS.sipush X140.here hx rfl (hb hby d11_79) k) ?_
      refine Ends.go (fun _ k => XS.iand X140.here hx rfl (hb hby d11_82) rfl k) ?_
      obtain ⟨cl158, Ar158, S158, H158⟩ := id M0
      have hin158 := inb_of (j := (u2_ &&& (255 : Int32))) S158 (own_in255 u2_)
      refine Ends.go (X140.laload hx (j := (u2_ &&& (255 : Int32))) (v := (.long (f_ ((u2_ &&& (255 : Int32)).toNatClampNeg)))) (by rw [e140]; exact Ar158.1) (State.isArrayOf_alike hZ.alike Ar158.2.1) Ar158.2.2 hin158 (H158 _ (Nat.lt_of_not_le fun y => hin158 (Or.inr y))) (g := (mkF m 83 #[.val (.ref rd_), .val (.ref sc_), .val (.ref bf_), .val (.long q_), .second, .val (.int m_), .val (.ref ms_), .val (.long (4 : Int64)), .second, .val (.int (4 : Int32)), .val (.long (-1 : Int64)), .second, .val (.int (2 : Int32)), .unset, .unset] [(.int (u2_ &&& (255 : Int32))), (.ref ms_), (.long (-2 : Int64))])) rfl rfl (hb hby d11_83)) ?_
      show Ends p e below s T140 (mkF m 84 #[.val (.ref rd_), .val (.ref sc_), .val (.ref bf_), .val (.long q_), .second, .val (.int m_), .val (.ref ms_), .val (.long (4 : Int64)), .second, .val (.int (4 : Int32)), .val (.long (-1 : Int64)), .second, .val (.int (2 : Int32)), .unset, .unset] [(.long (f_ ((u2_ &&& (255 : Int32)).toNatClampNeg))), (.long (-2 : Int64))]) _ _ _
      refine Ends.go (fun _ k => XS.lor X140.here hx rfl (hb hby d11_84) rfl k) ?_
      refine Ends.go (fun _ k => XS.lstore X140.here hx rfl (hb hby d11_85) rfl (l' := #[.val (.ref rd_), .val (.ref sc_), .val (.ref bf_), .val (.long q_), .second, .val (.int m_), .val (.ref ms_), .val (.long (4 : Int64)), .second, .val (.int (4 : Int32)), .val (.long ((-2 : Int64) ||| (f_ ((u2_ &&& (255 : Int32)).toNatClampNeg)))), .second, .val (.int (2 : Int32)), .unset, .unset]) rfl k) ?_
      refine Ends.go (fun _ k => XS.iinc X140.here hx rfl (hb hby d11_87) rfl (l' := #[.val (.ref rd_), .val (.ref sc_), .val (.ref bf_), .val (.long q_), .second, .val (.int m_), .val (.ref ms_), .val (.long (4 : Int64)), .second, .val (.int (4 : Int32)), .val (.long ((-2 : Int64) ||| (f_ ((u2_ &&& (255 : Int32)).toNatClampNeg)))), .second, .val (.int (3 : Int32)), .unset, .unset]) rfl k) ?_
      refine Ends.go (fun _ k => XS.goto X140.here hx rfl (pc0 := 90) (pc' := 62) rfl (hb hby d11_90) (by decide) (by decide) k) ?_
      show Ends p e below s T140 (mkF m 62 #[.val (.ref rd_), .val (.ref sc_), .val (.ref bf_), .val (.long q_), .second, .val (.int m_), .val (.ref ms_), .val (.long (4 : Int64)), .second, .val (.int (4 : Int32)), .val (.long ((-2 : Int64) ||| (f_ ((u2_ &&& (255 : Int32)).toNatClampNeg)))), .second, .val (.int (3 : Int32)), .unset, .unset] []) _ _ _
      refine Ends.go (fun _ k => XS.iload X140.here hx rfl (hb hby d11_62) rfl k) ?_
      refine Ends.go (fun _ k => XS.iload X140.here hx rfl (hb hby d11_64) rfl k) ?_
      refine Ends.go (fun _ k => XS.icmpNo X140.here hx rfl (hb hby d11_66) rfl (tlt (by decide : (3 : Int32) < (4 : Int32))).2.1 k) ?_
      refine Ends.go (fun _ k => XS.lload X140.here hx rfl (hb hby d11_69) rfl k) ?_
      show Ends p e below s T140 (mkF m 71 #[.val (.ref rd_), .val (.ref sc_), .val (.ref bf_), .val (.long q_), .second, .val (.int m_), .val (.ref ms_), .val (.long (4 : Int64)), .second, .val (.int (4 : Int32)), .val (.long ((-2 : Int64) ||| (f_ ((u2_ &&& (255 : Int32)).toNatClampNeg)))), .second, .val (.int (3 : Int32)), .unset, .unset] [(.long ((-2 : Int64) ||| (f_ ((u2_ &&& (255 : Int32)).toNatClampNeg))))]) _ _ _
      refine Ends.go (fun _ k => XS.iconst X140.here hx rfl (hb hby d11_71) k) ?_
      refine Ends.go (fun _ k => XS.lshl X140.here hx rfl (hb hby d11_72) rfl k) ?_
      refine Ends.go (fun _ k => XS.aload X140.here hx rfl (hb hby d11_73) rfl rfl k) ?_
      refine Ends.go (fun _ k => XS.aloadN X140.here hx rfl (hb hby d11_75) rfl rfl k) ?_
      show Ends p e below s T140 (mkF m 76 #[.val (.ref rd_), .val (.ref sc_), .val (.ref bf_), .val (.long q_), .second, .val (.int m_), .val (.ref ms_), .val (.long (4 : Int64)), .second, .val (.int (4 : Int32)), .val (.long ((-2 : Int64) ||| (f_ ((u2_ &&& (255 : Int32)).toNatClampNeg)))), .second, .val (.int (3 : Int32)), .unset, .unset] [(.ref bf_), (.ref ms_), (.long (((-2 : Int64) ||| (f_ ((u2_ &&& (255 : Int32)).toNatClampNeg))) <<< ((1 : Int32) &&& 0x3f).toInt64))]) _ _ _
      refine Ends.go (fun _ k => XS.iload X140.here hx rfl (hb hby d11_76) rfl k) ?_
      obtain ⟨cl159, Ar159, q159, S159, M159, H159, G159⟩ := id Vb
      have hin159 := inb_of (j := (3 : Int32)) S159 ⟨by decide, by decide⟩
      refine Ends.go (X140.baloadBytes hx (j := (3 : Int32)) (v := (.int u3_)) (by rw [e140]; exact Ar159.1) (State.isArrayOf_alike hZ.alike Ar159.2.1) Ar159.2.2 hin159 (H159.at hin159 rfl) (g := (mkF m 78 #[.val (.ref rd_), .val (.ref sc_), .val (.ref bf_), .val (.long q_), .second, .val (.int m_), .val (.ref ms_), .val (.long (4 : Int64)), .second, .val (.int (4 : Int32)), .val (.long ((-2 : Int64) ||| (f_ ((u2_ &&& (255 : Int32)).toNatClampNeg)))), .second, .val (.int (3 : Int32)), .unset, .unset] [(.int (3 : Int32)), (.ref bf_), (.ref ms_), (.long (((-2 : Int64) ||| (f_ ((u2_ &&& (255 : Int32)).toNatClampNeg))) <<< ((1 : Int32) &&& 0x3f).toInt64))])) rfl rfl (hb hby d11_78)) ?_
      refine Ends.go (fun _ k => XS.sipush X140.here hx rfl (hb hby d11_79) k) ?_
      refine Ends.go (fun _ k => XS.iand X140.here hx rfl (hb hby d11_82) rfl k) ?_
      show Ends p e below s T140 (mkF m 83 #[.val (.ref rd_), .val (.ref sc_), .val (.ref bf_), .val (.long q_), .second, .val (.int m_), .val (.ref ms_), .val (.long (4 : Int64)), .second, .val (.int (4 : Int32)), .val (.long ((-2 : Int64) ||| (f_ ((u2_ &&& (255 : Int32)).toNatClampNeg)))), .second, .val (.int (3 : Int32)), .unset, .unset] [(.int (u3_ &&& (255 : Int32))), (.ref ms_), (.long (((-2 : Int64) ||| (f_ ((u2_ &&& (255 : Int32)).toNatClampNeg))) <<< ((1 : Int32) &&& 0x3f).toInt64))]) _ _ _
      obtain ⟨cl160, Ar160, S160, H160⟩ := id M0
      have hin160 := inb_of (j := (u3_ &&& (255 : Int32))) S160 (own_in255 u3_)
      refine Ends.go (X140.laload hx (j := (u3_ &&& (255 : Int32))) (v := (.long (f_ ((u3_ &&& (255 : Int32)).toNatClampNeg)))) (by rw [e140]; exact Ar160.1) (State.isArrayOf_alike hZ.alike Ar160.2.1) Ar160.2.2 hin160 (H160 _ (Nat.lt_of_not_le fun y => hin160 (Or.inr y))) (g := (mkF m 83 #[.val (.ref rd_), .val (.ref sc_), .val (.ref bf_), .val (.long q_), .second, .val (.int m_), .val (.ref ms_), .val (.long (4 : Int64)), .second, .val (.int (4 : Int32)), .val (.long ((-2 : Int64) ||| (f_ ((u2_ &&& (255 : Int32)).toNatClampNeg)))), .second, .val (.int (3 : Int32)), .unset, .unset] [(.int (u3_ &&& (255 : Int32))), (.ref ms_), (.long (((-2 : Int64) ||| (f_ ((u2_ &&& (255 : Int32)).toNatClampNeg))) <<< ((1 : Int32) &&& 0x3f).toInt64))])) rfl rfl (hb hby d11_83)) ?_
      refine Ends.go (fun _ k => XS.lor X140.here hx rfl (hb hby d11_84) rfl k) ?_
      refine Ends.go (fun _ k => XS.lstore X140.here hx rfl (hb hby d11_85) rfl (l' := #[.val (.ref rd_), .val (.ref sc_), .val (.ref bf_), .val (.long q_), .second, .val (.int m_), .val (.ref ms_), .val (.long (4 : Int64)), .second, .val (.int (4 : Int32)), .val (.long ((((-2 : Int64) ||| (f_ ((u2_ &&& (255 : Int32)).toNatClampNeg))) <<< ((1 : Int32) &&& 0x3f).toInt64) ||| (f_ ((u3_ &&& (255 : Int32)).toNatClampNeg)))), .second, .val (.int (3 : Int32)), .unset, .unset]) rfl k) ?_
      refine Ends.go (fun _ k => XS.iinc X140.here hx rfl (hb hby d11_87) rfl (l' := #[.val (.ref rd_), .val (.ref sc_), .val (.ref bf_), .val (.long q_), .second, .val (.int m_), .val (.ref ms_), .val (.long (4 : Int64)), .second, .val (.int (4 : Int32)), .val (.long ((((-2 : Int64) ||| (f_ ((u2_ &&& (255 : Int32)).toNatClampNeg))) <<< ((1 : Int32) &&& 0x3f).toInt64) ||| (f_ ((u3_ &&& (255 : Int32)).toNatClampNeg)))), .second, .val (.int (4 : Int32)), .unset, .unset]) rfl k) ?_
      show Ends p e below s T140 (mkF m 90 #[.val (.ref rd_), .val (.ref sc_), .val (.ref bf_), .val (.long q_), .second, .val (.int m_), .val (.ref ms_), .val (.long (4 : Int64)), .second, .val (.int (4 : Int32)), .val (.long ((((-2 : Int64) ||| (f_ ((u2_ &&& (255 : Int32)).toNatClampNeg))) <<< ((1 : Int32) &&& 0x3f).toInt64) ||| (f_ ((u3_ &&& (255 : Int32)).toNatClampNeg)))), .second, .val (.int (4 : Int32)), .unset, .unset] []) _ _ _
      refine Ends.go (fun _ k => XS.goto X140.here hx rfl (pc0 := 90) (pc' := 62) rfl (hb hby d11_90) (by decide) (by decide) k) ?_
      refine Ends.go (fun _ k => XS.iload X140.here hx rfl (hb hby d11_62) rfl k) ?_
      refine Ends.go (fun _ k => XS.iload X140.here hx rfl (hb hby d11_64) rfl k) ?_
      refine Ends.go (fun _ k => XS.icmpYes X140.here hx rfl (pc0 := 66) (pc' := 93) rfl (hb hby d11_66) rfl (flt (by decide : ¬ ((4 : Int32) < (4 : Int32)))).2.1 (by decide) (by decide) k) ?_
      show Ends p e below s T140 (mkF m 93 #[.val (.ref rd_), .val (.ref sc_), .val (.ref bf_), .val (.long q_), .second, .val (.int m_), .val (.ref ms_), .val (.long (4 : Int64)), .second, .val (.int (4 : Int32)), .val (.long ((((-2 : Int64) ||| (f_ ((u2_ &&& (255 : Int32)).toNatClampNeg))) <<< ((1 : Int32) &&& 0x3f).toInt64) ||| (f_ ((u3_ &&& (255 : Int32)).toNatClampNeg)))), .second, .val (.int (4 : Int32)), .unset, .unset] []) _ _ _
      refine Ends.go (fun _ k => XS.aloadN X140.here hx rfl (hb hby d11_93) rfl rfl k) ?_
      refine Ends.go (fun _ k => XS.dup X140.here hx rfl (hb hby d11_94) rfl rfl k) ?_
      obtain ⟨T161, X161, e161, st161⟩ := getF X140 hx hZ hown (host := "") (Or.inl (ow hw 117 rfl)) Via.refl e140 Fd (g := (mkF m 95 #[.val (.ref rd_), .val (.ref sc_), .val (.ref bf_), .val (.long q_), .second, .val (.int m_), .val (.ref ms_), .val (.long (4 : Int64)), .second, .val (.int (4 : Int32)), .val (.long ((((-2 : Int64) ||| (f_ ((u2_ &&& (255 : Int32)).toNatClampNeg))) <<< ((1 : Int32) &&& 0x3f).toInt64) ||| (f_ ((u3_ &&& (255 : Int32)).toNatClampNeg)))), .second, .val (.int (4 : Int32)), .unset, .unset] [(.ref sc_), (.ref sc_)])) rfl rfl (hb hby d11_95)
      refine Ends.go st161 ?_
      refine Ends.go (fun _ k => XS.aloadN X161.here hx rfl (hb hby d11_98) rfl rfl k) ?_
      show Ends p e below s T161 (mkF m 99 #[.val (.ref rd_), .val (.ref sc_), .val (.ref bf_), .val (.long q_), .second, .val (.int m_), .val (.ref ms_), .val (.long (4 : Int64)), .second, .val (.int (4 : Int32)), .val (.long ((((-2 : Int64) ||| (f_ ((u2_ &&& (255 : Int32)).toNatClampNeg))) <<< ((1 : Int32) &&& 0x3f).toInt64) ||| (f_ ((u3_ &&& (255 : Int32)).toNatClampNeg)))), .second, .val (.int (4 : Int32)), .unset, .unset] [(.ref rd_), (.long d_), (.ref sc_)]) _ _ _
      obtain ⟨T162, X162, e162, st162⟩ := getF X161 hx hZ hown (host := "") (Or.inl (ow hw 44 rfl)) Via.refl e161 Ft (g := (mkF m 99 #[.val (.ref rd_), .val (.ref sc_), .val (.ref bf_), .val (.long q_), .second, .val (.int m_), .val (.ref ms_), .val (.long (4 : Int64)), .second, .val (.int (4 : Int32)), .val (.long ((((-2 : Int64) ||| (f_ ((u2_ &&& (255 : Int32)).toNatClampNeg))) <<< ((1 : Int32) &&& 0x3f).toInt64) ||| (f_ ((u3_ &&& (255 : Int32)).toNatClampNeg)))), .second, .val (.int (4 : Int32)), .unset, .unset] [(.ref rd_), (.long d_), (.ref sc_)])) rfl rfl (hb hby d11_99)
      refine Ends.go st162 ?_
      obtain ⟨T163, X163, e163, st163⟩ := getF X162 hx hZ hown (Or.inr (ow hw 116 rfl)) Via.refl e162 Fk (g := (mkF m 102 #[.val (.ref rd_), .val (.ref sc_), .val (.ref bf_), .val (.long q_), .second, .val (.int m_), .val (.ref ms_), .val (.long (4 : Int64)), .second, .val (.int (4 : Int32)), .val (.long ((((-2 : Int64) ||| (f_ ((u2_ &&& (255 : Int32)).toNatClampNeg))) <<< ((1 : Int32) &&& 0x3f).toInt64) ||| (f_ ((u3_ &&& (255 : Int32)).toNatClampNeg)))), .second, .val (.int (4 : Int32)), .unset, .unset] [(.ref so_), (.long d_), (.ref sc_)])) rfl rfl (hb hby d11_102)
      refine Ends.go st163 ?_
      refine Ends.go (fun _ k => XS.i2l X163.here hx rfl (hb hby d11_105) rfl k) ?_
      refine Ends.go (fun _ k => XS.ladd X163.here hx rfl (hb hby d11_106) rfl k) ?_
      show Ends p e below s T163 (mkF m 107 #[.val (.ref rd_), .val (.ref sc_), .val (.ref bf_), .val (.long q_), .second, .val (.int m_), .val (.ref ms_), .val (.long (4 : Int64)), .second, .val (.int (4 : Int32)), .val (.long ((((-2 : Int64) ||| (f_ ((u2_ &&& (255 : Int32)).toNatClampNeg))) <<< ((1 : Int32) &&& 0x3f).toInt64) ||| (f_ ((u3_ &&& (255 : Int32)).toNatClampNeg)))), .second, .val (.int (4 : Int32)), .unset, .unset] [(.long (d_ + (2 : Int64))), (.ref sc_)]) _ _ _
      obtain ⟨T164, h164, X164, e164, W164, st164⟩ := putF X163 hx hZ hown (host := "") (Or.inl (ow hw 117 rfl)) Via.refl e163 Fd Es (Or.inl (ow hw 118 rfl)) (ow hw 47 rfl) (ty := .long) (by decide) rfl rfl (g := (mkF m 107 #[.val (.ref rd_), .val (.ref sc_), .val (.ref bf_), .val (.long q_), .second, .val (.int m_), .val (.ref ms_), .val (.long (4 : Int64)), .second, .val (.int (4 : Int32)), .val (.long ((((-2 : Int64) ||| (f_ ((u2_ &&& (255 : Int32)).toNatClampNeg))) <<< ((1 : Int32) &&& 0x3f).toInt64) ||| (f_ ((u3_ &&& (255 : Int32)).toNatClampNeg)))), .second, .val (.int (4 : Int32)), .unset, .unset] [(.long (d_ + (2 : Int64))), (.ref sc_)])) rfl rfl (hb hby d11_107)
      refine Ends.go st164 ?_
      have Fw164 := Fd.same W164
      have K164 := K0.wr W164 (Or.inl (List.mem_of_getElem? (i := 1) rfl))
      have O164 := O0.wr W164 g_sc_
      have N164 := Fr.snoc X164 N0 g_sc_
      refine Ends.go (fun _ k => XS.iload X164.here hx rfl (hb hby d11_110) rfl k) ?_
      refine Ends.go (fun _ k => XS.istore X164.here hx rfl (hb hby d11_112) rfl (l' := #[.val (.ref rd_), .val (.ref sc_), .val (.ref bf_), .val (.long q_), .second, .val (.int m_), .val (.ref ms_), .val (.long (4 : Int64)), .second, .val (.int (4 : Int32)), .val (.long ((((-2 : Int64) ||| (f_ ((u2_ &&& (255 : Int32)).toNatClampNeg))) <<< ((1 : Int32) &&& 0x3f).toInt64) ||| (f_ ((u3_ &&& (255 : Int32)).toNatClampNeg)))), .second, .val (.int m_), .unset, .unset]) rfl k) ?_
      refine Ends.go (fun _ k => XS.iconst X164.here hx rfl (hb hby d11_114) k) ?_
      show Ends p e below s T164 (mkF m 115 #[.val (.ref rd_), .val (.ref sc_), .val (.ref bf_), .val (.long q_), .second, .val (.int m_), .val (.ref ms_), .val (.long (4 : Int64)), .second, .val (.int (4 : Int32)), .val (.long ((((-2 : Int64) ||| (f_ ((u2_ &&& (255 : Int32)).toNatClampNeg))) <<< ((1 : Int32) &&& 0x3f).toInt64) ||| (f_ ((u3_ &&& (255 : Int32)).toNatClampNeg)))), .second, .val (.int m_), .unset, .unset] [(.int (-1 : Int32))]) _ _ _
      refine Ends.go (fun _ k => XS.istore X164.here hx rfl (hb hby d11_115) rfl (l' := #[.val (.ref rd_), .val (.ref sc_), .val (.ref bf_), .val (.long q_), .second, .val (.int m_), .val (.ref ms_), .val (.long (4 : Int64)), .second, .val (.int (4 : Int32)), .val (.long ((((-2 : Int64) ||| (f_ ((u2_ &&& (255 : Int32)).toNatClampNeg))) <<< ((1 : Int32) &&& 0x3f).toInt64) ||| (f_ ((u3_ &&& (255 : Int32)).toNatClampNeg)))), .second, .val (.int m_), .val (.int (-1 : Int32)), .unset]) rfl k) ?_
      refine Ends.go (fun _ k => XS.iload X164.here hx rfl (hb hby d11_117) rfl k) ?_
      refine Ends.go (fun _ k => XS.istore X164.here hx rfl (hb hby d11_119) rfl (l' := #[.val (.ref rd_), .val (.ref sc_), .val (.ref bf_), .val (.long q_), .second, .val (.int m_), .val (.ref ms_), .val (.long (4 : Int64)), .second, .val (.int (4 : Int32)), .val (.long ((((-2 : Int64) ||| (f_ ((u2_ &&& (255 : Int32)).toNatClampNeg))) <<< ((1 : Int32) &&& 0x3f).toInt64) ||| (f_ ((u3_ &&& (255 : Int32)).toNatClampNeg)))), .second, .val (.int m_), .val (.int (-1 : Int32)), .val (.int (4 : Int32))]) rfl k) ?_
      exact J121_4 _ _ _ _ _ _ _ _ X164 e164 O164 N164 K164 (Er.wr W164) (Es.wr W164) (Ft.other W164 (Or.inl ne_rd_sc_)) (Fh.other W164 (Or.inl ne_rd_sc_)) (Fe.other W164 (Or.inl ne_rd_sc_)) (Fi.other W164 (Or.inr (slot_ne (Or.inl (ow hw 92 rfl)) (Or.inl (ow hw 118 rfl)) (by decide) (t := .long) (t' := .long) (by decide) (by decide)))) Fw164 (Vb.other W164 (Ne.symm ne_sc_bf_)) (M0.other W164 (Ne.symm ne_sc_ms_)) (if_neg (fun z => hc42_138 ((lw_eq _ _).mpr z))).symm (own_two hm hu2_ hu3_) hr (own_nlt hl.1)
    · show Ends p e below s T140 (mkF m 62 #[.val (.ref rd_), .val (.ref sc_), .val (.ref bf_), .val (.long q_), .second, .val (.int m_), .val (.ref ms_), .val (.long (4 : Int64)), .second, .val (.int (5 : Int32)), .val (.long (-1 : Int64)), .second, .val (.int (3 : Int32)), .unset, .unset] []) _ _ _
      refine Ends.go (fun _ k => XS.iload X140.here hx rfl (hb hby d11_62) rfl k) ?_
      refine Ends.go (fun _ k => XS.iload X140.here hx rfl (hb hby d11_64) rfl k) ?_
      refine Ends.go (fun _ k => XS.icmpNo X140.here hx rfl (hb hby d11_66) rfl (tlt (by decide : (3 : Int32) < (5 : Int32))).2.1 k) ?_
      refine Ends.go (fun _ k => XS.lload X140.here hx rfl (hb hby d11_69) rfl k) ?_
      show Ends p e below s T140 (mkF m 71 #[.val (.ref rd_), .val (.ref sc_), .val (.ref bf_), .val (.long q_), .second, .val (.int m_), .val (.ref ms_), .val (.long (4 : Int64)), .second, .val (.int (5 : Int32)), .val (.long (-1 : Int64)), .second, .val (.int (3 : Int32)), .unset, .unset] [(.long (-1 : Int64))]) _ _ _
      refine Ends.go (fun _ k => XS.iconst X140.here hx rfl (hb hby d11_71) k) ?_
      refine Ends.go (fun _ k => XS.lshl X140.here hx rfl (hb hby d11_72) rfl k) ?_
      refine Ends.go (fun _ k => XS.aload X140.here hx rfl (hb hby d11_73) rfl rfl k) ?_
      refine Ends.go (fun _ k => XS.aloadN X140.here hx rfl (hb hby d11_75) rfl rfl k) ?_
      show Ends p e below s T140 (mkF m 76 #[.val (.ref rd_), .val (.ref sc_), .val (.ref bf_), .val (.long q_), .second, .val (.int m_), .val (.ref ms_), .val (.long (4 : Int64)), .second, .val (.int (5 : Int32)), .val (.long (-1 : Int64)), .second, .val (.int (3 : Int32)), .unset, .unset] [(.ref bf_), (.ref ms_), (.long (-2 : Int64))]) _ _ _
      refine Ends.go (fun _ k => XS.iload X140.here hx rfl (hb hby d11_76) rfl k) ?_
      obtain ⟨cl165, Ar165, q165, S165, M165, H165, G165⟩ := id Vb
      have hin165 := inb_of (j := (3 : Int32)) S165 ⟨by decide, by decide⟩
      refine Ends.go (X140.baloadBytes hx (j := (3 : Int32)) (v := (.int u3_)) (by rw [e140]; exact Ar165.1) (State.isArrayOf_alike hZ.alike Ar165.2.1) Ar165.2.2 hin165 (H165.at hin165 rfl) (g := (mkF m 78 #[.val (.ref rd_), .val (.ref sc_), .val (.ref bf_), .val (.long q_), .second, .val (.int m_), .val (.ref ms_), .val (.long (4 : Int64)), .second, .val (.int (5 : Int32)), .val (.long (-1 : Int64)), .second, .val (.int (3 : Int32)), .unset, .unset] [(.int (3 : Int32)), (.ref bf_), (.ref ms_), (.long (-2 : Int64))])) rfl rfl (hb hby d11_78)) ?_
      refine Ends.go (fun _ k => XS.sipush X140.here hx rfl (hb hby d11_79) k) ?_
      refine Ends.go (fun _ k => XS.iand X140.here hx rfl (hb hby d11_82) rfl k) ?_
      show Ends p e below s T140 (mkF m 83 #[.val (.ref rd_), .val (.ref sc_), .val (.ref bf_), .val (.long q_), .second, .val (.int m_), .val (.ref ms_), .val (.long (4 : Int64)), .second, .val (.int (5 : Int32)), .val (.long (-1 : Int64)), .second, .val (.int (3 : Int32)), .unset, .unset] [(.int (u3_ &&& (255 : Int32))), (.ref ms_), (.long (-2 : Int64))]) _ _ _
      obtain ⟨cl166, Ar166, S166, H166⟩ := id M0
      have hin166 := inb_of (j := (u3_ &&& (255 : Int32))) S166 (own_in255 u3_)
      refine Ends.go (X140.laload hx (j := (u3_ &&& (255 : Int32))) (v := (.long (f_ ((u3_ &&& (255 : Int32)).toNatClampNeg)))) (by rw [e140]; exact Ar166.1) (State.isArrayOf_alike hZ.alike Ar166.2.1) Ar166.2.2 hin166 (H166 _ (Nat.lt_of_not_le fun y => hin166 (Or.inr y))) (g := (mkF m 83 #[.val (.ref rd_), .val (.ref sc_), .val (.ref bf_), .val (.long q_), .second, .val (.int m_), .val (.ref ms_), .val (.long (4 : Int64)), .second, .val (.int (5 : Int32)), .val (.long (-1 : Int64)), .second, .val (.int (3 : Int32)), .unset, .unset] [(.int (u3_ &&& (255 : Int32))), (.ref ms_), (.long (-2 : Int64))])) rfl rfl (hb hby d11_83)) ?_
      refine Ends.go (fun _ k => XS.lor X140.here hx rfl (hb hby d11_84) rfl k) ?_
      refine Ends.go (fun _ k => XS.lstore X140.here hx rfl (hb hby d11_85) rfl (l' := #[.val (.ref rd_), .val (.ref sc_), .val (.ref bf_), .val (.long q_), .second, .val (.int m_), .val (.ref ms_), .val (.long (4 : Int64)), .second, .val (.int (5 : Int32)), .val (.long ((-2 : Int64) ||| (f_ ((u3_ &&& (255 : Int32)).toNatClampNeg)))), .second, .val (.int (3 : Int32)), .unset, .unset]) rfl k) ?_
      refine Ends.go (fun _ k => XS.iinc X140.here hx rfl (hb hby d11_87) rfl (l' := #[.val (.ref rd_), .val (.ref sc_), .val (.ref bf_), .val (.long q_), .second, .val (.int m_), .val (.ref ms_), .val (.long (4 : Int64)), .second, .val (.int (5 : Int32)), .val (.long ((-2 : Int64) ||| (f_ ((u3_ &&& (255 : Int32)).toNatClampNeg)))), .second, .val (.int (4 : Int32)), .unset, .unset]) rfl k) ?_
      show Ends p e below s T140 (mkF m 90 #[.val (.ref rd_), .val (.ref sc_), .val (.ref bf_), .val (.long q_), .second, .val (.int m_), .val (.ref ms_), .val (.long (4 : Int64)), .second, .val (.int (5 : Int32)), .val (.long ((-2 : Int64) ||| (f_ ((u3_ &&& (255 : Int32)).toNatClampNeg)))), .second, .val (.int (4 : Int32)), .unset, .unset] []) _ _ _
      refine Ends.go (fun _ k => XS.goto X140.here hx rfl (pc0 := 90) (pc' := 62) rfl (hb hby d11_90) (by decide) (by decide) k) ?_
      refine Ends.go (fun _ k => XS.iload X140.here hx rfl (hb hby d11_62) rfl k) ?_
      refine Ends.go (fun _ k => XS.iload X140.here hx rfl (hb hby d11_64) rfl k) ?_
      refine Ends.go (fun _ k => XS.icmpNo X140.here hx rfl (hb hby d11_66) rfl (tlt (by decide : (4 : Int32) < (5 : Int32))).2.1 k) ?_
      show Ends p e below s T140 (mkF m 69 #[.val (.ref rd_), .val (.ref sc_), .val (.ref bf_), .val (.long q_), .second, .val (.int m_), .val (.ref ms_), .val (.long (4 : Int64)), .second, .val (.int (5 : Int32)), .val (.long ((-2 : Int64) ||| (f_ ((u3_ &&& (255 : Int32)).toNatClampNeg)))), .second, .val (.int (4 : Int32)), .unset, .unset] []) _ _ _
      refine Ends.go (fun _ k => XS.lload X140.here hx rfl (hb hby d11_69) rfl k) ?_
      refine Ends.go (fun _ k => XS.iconst X140.here hx rfl (hb hby d11_71) k) ?_
      refine Ends.go (fun _ k => XS.lshl X140.here hx rfl (hb hby d11_72) rfl k) ?_
      refine Ends.go (fun _ k => XS.aload X140.here hx rfl (hb hby d11_73) rfl rfl k) ?_
      show Ends p e below s T140 (mkF m 75 #[.val (.ref rd_), .val (.ref sc_), .val (.ref bf_), .val (.long q_), .second, .val (.int m_), .val (.ref ms_), .val (.long (4 : Int64)), .second, .val (.int (5 : Int32)), .val (.long ((-2 : Int64) ||| (f_ ((u3_ &&& (255 : Int32)).toNatClampNeg)))), .second, .val (.int (4 : Int32)), .unset, .unset] [(.ref ms_), (.long (((-2 : Int64) ||| (f_ ((u3_ &&& (255 : Int32)).toNatClampNeg))) <<< ((1 : Int32) &&& 0x3f).toInt64))]) _ _ _
      refine Ends.go (fun _ k => XS.aloadN X140.here hx rfl (hb hby d11_75) rfl rfl k) ?_
      refine Ends.go (fun _ k => XS.iload X140.here hx rfl (hb hby d11_76) rfl k) ?_
      obtain ⟨cl167, Ar167, q167, S167, M167, H167, G167⟩ := id Vb
      have hin167 := inb_of (j := (4 : Int32)) S167 ⟨by decide, by decide⟩
      refine Ends.go (X140.baloadBytes hx (j := (4 : Int32)) (v := (.int u4_)) (by rw [e140]; exact Ar167.1) (State.isArrayOf_alike hZ.alike Ar167.2.1) Ar167.2.2 hin167 (H167.at hin167 rfl) (g := (mkF m 78 #[.val (.ref rd_), .val (.ref sc_), .val (.ref bf_), .val (.long q_), .second, .val (.int m_), .val (.ref ms_), .val (.long (4 : Int64)), .second, .val (.int (5 : Int32)), .val (.long ((-2 : Int64) ||| (f_ ((u3_ &&& (255 : Int32)).toNatClampNeg)))), .second, .val (.int (4 : Int32)), .unset, .unset] [(.int (4 : Int32)), (.ref bf_), (.ref ms_), (.long (((-2 : Int64) ||| (f_ ((u3_ &&& (255 : Int32)).toNatClampNeg))) <<< ((1 : Int32) &&& 0x3f).toInt64))])) rfl rfl (hb hby d11_78)) ?_
      refine Ends.go (fun _ k => XS.sipush X140.here hx rfl (hb hby d11_79) k) ?_
      show Ends p e below s T140 (mkF m 82 #[.val (.ref rd_), .val (.ref sc_), .val (.ref bf_), .val (.long q_), .second, .val (.int m_), .val (.ref ms_), .val (.long (4 : Int64)), .second, .val (.int (5 : Int32)), .val (.long ((-2 : Int64) ||| (f_ ((u3_ &&& (255 : Int32)).toNatClampNeg)))), .second, .val (.int (4 : Int32)), .unset, .unset] [(.int (255 : Int32)), (.int u4_), (.ref ms_), (.long (((-2 : Int64) ||| (f_ ((u3_ &&& (255 : Int32)).toNatClampNeg))) <<< ((1 : Int32) &&& 0x3f).toInt64))]) _ _ _
      refine Ends.go (fun _ k => XS.iand X140.here hx rfl (hb hby d11_82) rfl k) ?_
      obtain ⟨cl168, Ar168, S168, H168⟩ := id M0
      have hin168 := inb_of (j := (u4_ &&& (255 : Int32))) S168 (own_in255 u4_)
      refine Ends.go (X140.laload hx (j := (u4_ &&& (255 : Int32))) (v := (.long (f_ ((u4_ &&& (255 : Int32)).toNatClampNeg)))) (by rw [e140]; exact Ar168.1) (State.isArrayOf_alike hZ.alike Ar168.2.1) Ar168.2.2 hin168 (H168 _ (Nat.lt_of_not_le fun y => hin168 (Or.inr y))) (g := (mkF m 83 #[.val (.ref rd_), .val (.ref sc_), .val (.ref bf_), .val (.long q_), .second, .val (.int m_), .val (.ref ms_), .val (.long (4 : Int64)), .second, .val (.int (5 : Int32)), .val (.long ((-2 : Int64) ||| (f_ ((u3_ &&& (255 : Int32)).toNatClampNeg)))), .second, .val (.int (4 : Int32)), .unset, .unset] [(.int (u4_ &&& (255 : Int32))), (.ref ms_), (.long (((-2 : Int64) ||| (f_ ((u3_ &&& (255 : Int32)).toNatClampNeg))) <<< ((1 : Int32) &&& 0x3f).toInt64))])) rfl rfl (hb hby d11_83)) ?_
      refine Ends.go (fun _ k => XS.lor X140.here hx rfl (hb hby d11_84) rfl k) ?_
      refine Ends.go (fun _ k => XS.lstore X140.here hx rfl (hb hby d11_85) rfl (l' := #[.val (.ref rd_), .val (.ref sc_), .val (.ref bf_), .val (.long q_), .second, .val (.int m_), .val (.ref ms_), .val (.long (4 : Int64)), .second, .val (.int (5 : Int32)), .val (.long ((((-2 : Int64) ||| (f_ ((u3_ &&& (255 : Int32)).toNatClampNeg))) <<< ((1 : Int32) &&& 0x3f).toInt64) ||| (f_ ((u4_ &&& (255 : Int32)).toNatClampNeg)))), .second, .val (.int (4 : Int32)), .unset, .unset]) rfl k) ?_
      show Ends p e below s T140 (mkF m 87 #[.val (.ref rd_), .val (.ref sc_), .val (.ref bf_), .val (.long q_), .second, .val (.int m_), .val (.ref ms_), .val (.long (4 : Int64)), .second, .val (.int (5 : Int32)), .val (.long ((((-2 : Int64) ||| (f_ ((u3_ &&& (255 : Int32)).toNatClampNeg))) <<< ((1 : Int32) &&& 0x3f).toInt64) ||| (f_ ((u4_ &&& (255 : Int32)).toNatClampNeg)))), .second, .val (.int (4 : Int32)), .unset, .unset] []) _ _ _
      refine Ends.go (fun _ k => XS.iinc X140.here hx rfl (hb hby d11_87) rfl (l' := #[.val (.ref rd_), .val (.ref sc_), .val (.ref bf_), .val (.long q_), .second, .val (.int m_), .val (.ref ms_), .val (.long (4 : Int64)), .second, .val (.int (5 : Int32)), .val (.long ((((-2 : Int64) ||| (f_ ((u3_ &&& (255 : Int32)).toNatClampNeg))) <<< ((1 : Int32) &&& 0x3f).toInt64) ||| (f_ ((u4_ &&& (255 : Int32)).toNatClampNeg)))), .second, .val (.int (5 : Int32)), .unset, .unset]) rfl k) ?_
      refine Ends.go (fun _ k => XS.goto X140.here hx rfl (pc0 := 90) (pc' := 62) rfl (hb hby d11_90) (by decide) (by decide) k) ?_
      refine Ends.go (fun _ k => XS.iload X140.here hx rfl (hb hby d11_62) rfl k) ?_
      refine Ends.go (fun _ k => XS.iload X140.here hx rfl (hb hby d11_64) rfl k) ?_
      show Ends p e below s T140 (mkF m 66 #[.val (.ref rd_), .val (.ref sc_), .val (.ref bf_), .val (.long q_), .second, .val (.int m_), .val (.ref ms_), .val (.long (4 : Int64)), .second, .val (.int (5 : Int32)), .val (.long ((((-2 : Int64) ||| (f_ ((u3_ &&& (255 : Int32)).toNatClampNeg))) <<< ((1 : Int32) &&& 0x3f).toInt64) ||| (f_ ((u4_ &&& (255 : Int32)).toNatClampNeg)))), .second, .val (.int (5 : Int32)), .unset, .unset] [(.int (5 : Int32)), (.int (5 : Int32))]) _ _ _
      refine Ends.go (fun _ k => XS.icmpYes X140.here hx rfl (pc0 := 66) (pc' := 93) rfl (hb hby d11_66) rfl (flt (by decide : ¬ ((5 : Int32) < (5 : Int32)))).2.1 (by decide) (by decide) k) ?_
      refine Ends.go (fun _ k => XS.aloadN X140.here hx rfl (hb hby d11_93) rfl rfl k) ?_
      refine Ends.go (fun _ k => XS.dup X140.here hx rfl (hb hby d11_94) rfl rfl k) ?_
      obtain ⟨T169, X169, e169, st169⟩ := getF X140 hx hZ hown (host := "") (Or.inl (ow hw 117 rfl)) Via.refl e140 Fd (g := (mkF m 95 #[.val (.ref rd_), .val (.ref sc_), .val (.ref bf_), .val (.long q_), .second, .val (.int m_), .val (.ref ms_), .val (.long (4 : Int64)), .second, .val (.int (5 : Int32)), .val (.long ((((-2 : Int64) ||| (f_ ((u3_ &&& (255 : Int32)).toNatClampNeg))) <<< ((1 : Int32) &&& 0x3f).toInt64) ||| (f_ ((u4_ &&& (255 : Int32)).toNatClampNeg)))), .second, .val (.int (5 : Int32)), .unset, .unset] [(.ref sc_), (.ref sc_)])) rfl rfl (hb hby d11_95)
      refine Ends.go st169 ?_
      show Ends p e below s T169 (mkF m 98 #[.val (.ref rd_), .val (.ref sc_), .val (.ref bf_), .val (.long q_), .second, .val (.int m_), .val (.ref ms_), .val (.long (4 : Int64)), .second, .val (.int (5 : Int32)), .val (.long ((((-2 : Int64) ||| (f_ ((u3_ &&& (255 : Int32)).toNatClampNeg))) <<< ((1 : Int32) &&& 0x3f).toInt64) ||| (f_ ((u4_ &&& (255 : Int32)).toNatClampNeg)))), .second, .val (.int (5 : Int32)), .unset, .unset] [(.long d_), (.ref sc_)]) _ _ _
      refine Ends.go (fun _ k => XS.aloadN X169.here hx rfl (hb hby d11_98) rfl rfl k) ?_
      obtain ⟨T170, X170, e170, st170⟩ := getF X169 hx hZ hown (host := "") (Or.inl (ow hw 44 rfl)) Via.refl e169 Ft (g := (mkF m 99 #[.val (.ref rd_), .val (.ref sc_), .val (.ref bf_), .val (.long q_), .second, .val (.int m_), .val (.ref ms_), .val (.long (4 : Int64)), .second, .val (.int (5 : Int32)), .val (.long ((((-2 : Int64) ||| (f_ ((u3_ &&& (255 : Int32)).toNatClampNeg))) <<< ((1 : Int32) &&& 0x3f).toInt64) ||| (f_ ((u4_ &&& (255 : Int32)).toNatClampNeg)))), .second, .val (.int (5 : Int32)), .unset, .unset] [(.ref rd_), (.long d_), (.ref sc_)])) rfl rfl (hb hby d11_99)
      refine Ends.go st170 ?_
      obtain ⟨T171, X171, e171, st171⟩ := getF X170 hx hZ hown (Or.inr (ow hw 116 rfl)) Via.refl e170 Fk (g := (mkF m 102 #[.val (.ref rd_), .val (.ref sc_), .val (.ref bf_), .val (.long q_), .second, .val (.int m_), .val (.ref ms_), .val (.long (4 : Int64)), .second, .val (.int (5 : Int32)), .val (.long ((((-2 : Int64) ||| (f_ ((u3_ &&& (255 : Int32)).toNatClampNeg))) <<< ((1 : Int32) &&& 0x3f).toInt64) ||| (f_ ((u4_ &&& (255 : Int32)).toNatClampNeg)))), .second, .val (.int (5 : Int32)), .unset, .unset] [(.ref so_), (.long d_), (.ref sc_)])) rfl rfl (hb hby d11_102)
      refine Ends.go st171 ?_
      refine Ends.go (fun _ k => XS.i2l X171.here hx rfl (hb hby d11_105) rfl k) ?_
      show Ends p e below s T171 (mkF m 106 #[.val (.ref rd_), .val (.ref sc_), .val (.ref bf_), .val (.long q_), .second, .val (.int m_), .val (.ref ms_), .val (.long (4 : Int64)), .second, .val (.int (5 : Int32)), .val (.long ((((-2 : Int64) ||| (f_ ((u3_ &&& (255 : Int32)).toNatClampNeg))) <<< ((1 : Int32) &&& 0x3f).toInt64) ||| (f_ ((u4_ &&& (255 : Int32)).toNatClampNeg)))), .second, .val (.int (5 : Int32)), .unset, .unset] [(.long (2 : Int64)), (.long d_), (.ref sc_)]) _ _ _
      refine Ends.go (fun _ k => XS.ladd X171.here hx rfl (hb hby d11_106) rfl k) ?_
      obtain ⟨T172, h172, X172, e172, W172, st172⟩ := putF X171 hx hZ hown (host := "") (Or.inl (ow hw 117 rfl)) Via.refl e171 Fd Es (Or.inl (ow hw 118 rfl)) (ow hw 47 rfl) (ty := .long) (by decide) rfl rfl (g := (mkF m 107 #[.val (.ref rd_), .val (.ref sc_), .val (.ref bf_), .val (.long q_), .second, .val (.int m_), .val (.ref ms_), .val (.long (4 : Int64)), .second, .val (.int (5 : Int32)), .val (.long ((((-2 : Int64) ||| (f_ ((u3_ &&& (255 : Int32)).toNatClampNeg))) <<< ((1 : Int32) &&& 0x3f).toInt64) ||| (f_ ((u4_ &&& (255 : Int32)).toNatClampNeg)))), .second, .val (.int (5 : Int32)), .unset, .unset] [(.long (d_ + (2 : Int64))), (.ref sc_)])) rfl rfl (hb hby d11_107)
      refine Ends.go st172 ?_
      have Fw172 := Fd.same W172
      have K172 := K0.wr W172 (Or.inl (List.mem_of_getElem? (i := 1) rfl))
      have O172 := O0.wr W172 g_sc_
      have N172 := Fr.snoc X172 N0 g_sc_
      refine Ends.go (fun _ k => XS.iload X172.here hx rfl (hb hby d11_110) rfl k) ?_
      refine Ends.go (fun _ k => XS.istore X172.here hx rfl (hb hby d11_112) rfl (l' := #[.val (.ref rd_), .val (.ref sc_), .val (.ref bf_), .val (.long q_), .second, .val (.int m_), .val (.ref ms_), .val (.long (4 : Int64)), .second, .val (.int (5 : Int32)), .val (.long ((((-2 : Int64) ||| (f_ ((u3_ &&& (255 : Int32)).toNatClampNeg))) <<< ((1 : Int32) &&& 0x3f).toInt64) ||| (f_ ((u4_ &&& (255 : Int32)).toNatClampNeg)))), .second, .val (.int m_), .unset, .unset]) rfl k) ?_
      show Ends p e below s T172 (mkF m 114 #[.val (.ref rd_), .val (.ref sc_), .val (.ref bf_), .val (.long q_), .second, .val (.int m_), .val (.ref ms_), .val (.long (4 : Int64)), .second, .val (.int (5 : Int32)), .val (.long ((((-2 : Int64) ||| (f_ ((u3_ &&& (255 : Int32)).toNatClampNeg))) <<< ((1 : Int32) &&& 0x3f).toInt64) ||| (f_ ((u4_ &&& (255 : Int32)).toNatClampNeg)))), .second, .val (.int m_), .unset, .unset] []) _ _ _
      refine Ends.go (fun _ k => XS.iconst X172.here hx rfl (hb hby d11_114) k) ?_
      refine Ends.go (fun _ k => XS.istore X172.here hx rfl (hb hby d11_115) rfl (l' := #[.val (.ref rd_), .val (.ref sc_), .val (.ref bf_), .val (.long q_), .second, .val (.int m_), .val (.ref ms_), .val (.long (4 : Int64)), .second, .val (.int (5 : Int32)), .val (.long ((((-2 : Int64) ||| (f_ ((u3_ &&& (255 : Int32)).toNatClampNeg))) <<< ((1 : Int32) &&& 0x3f).toInt64) ||| (f_ ((u4_ &&& (255 : Int32)).toNatClampNeg)))), .second, .val (.int m_), .val (.int (-1 : Int32)), .unset]) rfl k) ?_
      refine Ends.go (fun _ k => XS.iload X172.here hx rfl (hb hby d11_117) rfl k) ?_
      refine Ends.go (fun _ k => XS.istore X172.here hx rfl (hb hby d11_119) rfl (l' := #[.val (.ref rd_), .val (.ref sc_), .val (.ref bf_), .val (.long q_), .second, .val (.int m_), .val (.ref ms_), .val (.long (4 : Int64)), .second, .val (.int (5 : Int32)), .val (.long ((((-2 : Int64) ||| (f_ ((u3_ &&& (255 : Int32)).toNatClampNeg))) <<< ((1 : Int32) &&& 0x3f).toInt64) ||| (f_ ((u4_ &&& (255 : Int32)).toNatClampNeg)))), .second, .val (.int m_), .val (.int (-1 : Int32)), .val (.int (5 : Int32))]) rfl k) ?_
      show Ends p e below s T172 (mkF m 121 #[.val (.ref rd_), .val (.ref sc_), .val (.ref bf_), .val (.long q_), .second, .val (.int m_), .val (.ref ms_), .val (.long (4 : Int64)), .second, .val (.int (5 : Int32)), .val (.long ((((-2 : Int64) ||| (f_ ((u3_ &&& (255 : Int32)).toNatClampNeg))) <<< ((1 : Int32) &&& 0x3f).toInt64) ||| (f_ ((u4_ &&& (255 : Int32)).toNatClampNeg)))), .second, .val (.int m_), .val (.int (-1 : Int32)), .val (.int (5 : Int32))] []) _ _ _
      exact J121_5 _ _ _ _ _ _ _ _ X172 e172 O172 N172 K172 (Er.wr W172) (Es.wr W172) (Ft.other W172 (Or.inl ne_rd_sc_)) (Fh.other W172 (Or.inl ne_rd_sc_)) (Fe.other W172 (Or.inl ne_rd_sc_)) (Fi.other W172 (Or.inr (slot_ne (Or.inl (ow hw 92 rfl)) (Or.inl (ow hw 118 rfl)) (by decide) (t := .long) (t' := .long) (by decide) (by decide)))) Fw172 (Vb.other W172 (Ne.symm ne_sc_bf_)) (M0.other W172 (Ne.symm ne_sc_ms_)) (if_neg (fun z => hc42_138 ((lw_eq _ _).mpr z))).symm (own_two hm hu3_ hu4_) hr (own_nlt hl.1)
    · show Ends p e below s T140 (mkF m 62 #[.val (.ref rd_), .val (.ref sc_), .val (.ref bf_), .val (.long q_), .second, .val (.int m_), .val (.ref ms_), .val (.long (4 : Int64)), .second, .val (.int (6 : Int32)), .val (.long (-1 : Int64)), .second, .val (.int (4 : Int32)), .unset, .unset] []) _ _ _
      refine Ends.go (fun _ k => XS.iload X140.here hx rfl (hb hby d11_62) rfl k) ?_
      refine Ends.go (fun _ k => XS.iload X140.here hx rfl (hb hby d11_64) rfl k) ?_
      refine Ends.go (fun _ k => XS.icmpNo X140.here hx rfl (hb hby d11_66) rfl (tlt (by decide : (4 : Int32) < (6 : Int32))).2.1 k) ?_
      show Ends p e below s T140 (mkF m 69 #[.val (.ref rd_), .val (.ref sc_), .val (.ref bf_), .val (.long q_), .second, .val (.int m_), .val (.ref ms_), .val (.long (4 : Int64)), .second, .val (.int (6 : Int32)), .val (.long (-1 : Int64)), .second, .val (.int (4 : Int32)), .unset, .unset] []) _ _ _
      refine Ends.go (fun _ k => XS.lload X140.here hx rfl (hb hby d11_69) rfl k) ?_
      refine Ends.go (fun _ k => XS.iconst X140.here hx rfl (hb hby d11_71) k) ?_
      refine Ends.go (fun _ k => XS.lshl X140.here hx rfl (hb hby d11_72) rfl k) ?_
      refine Ends.go (fun _ k => XS.aload X140.here hx rfl (hb hby d11_73) rfl rfl k) ?_
      show Ends p e below s T140 (mkF m 75 #[.val (.ref rd_), .val (.ref sc_), .val (.ref bf_), .val (.long q_), .second, .val (.int m_), .val (.ref ms_), .val (.long (4 : Int64)), .second, .val (.int (6 : Int32)), .val (.long (-1 : Int64)), .second, .val (.int (4 : Int32)), .unset, .unset] [(.ref ms_), (.long (-2 : Int64))]) _ _ _
      refine Ends.go (fun _ k => XS.aloadN X140.here hx rfl (hb hby d11_75) rfl rfl k) ?_
      refine Ends.go (fun _ k => XS.iload X140.here hx rfl (hb hby d11_76) rfl k) ?_
      obtain ⟨cl173, Ar173, q173, S173, M173, H173, G173⟩ := id Vb
      have hin173 := inb_of (j := (4 : Int32)) S173 ⟨by decide, by decide⟩
      refine Ends.go (X140.baloadBytes hx (j := (4 : Int32)) (v := (.int u4_)) (by rw [e140]; exact Ar173.1) (State.isArrayOf_alike hZ.alike Ar173.2.1) Ar173.2.2 hin173 (H173.at hin173 rfl) (g := (mkF m 78 #[.val (.ref rd_), .val (.ref sc_), .val (.ref bf_), .val (.long q_), .second, .val (.int m_), .val (.ref ms_), .val (.long (4 : Int64)), .second, .val (.int (6 : Int32)), .val (.long (-1 : Int64)), .second, .val (.int (4 : Int32)), .unset, .unset] [(.int (4 : Int32)), (.ref bf_), (.ref ms_), (.long (-2 : Int64))])) rfl rfl (hb hby d11_78)) ?_
      refine Ends.go (fun _ k => XS.sipush X140.here hx rfl (hb hby d11_79) k) ?_
      show Ends p e below s T140 (mkF m 82 #[.val (.ref rd_), .val (.ref sc_), .val (.ref bf_), .val (.long q_), .second, .val (.int m_), .val (.ref ms_), .val (.long (4 : Int64)), .second, .val (.int (6 : Int32)), .val (.long (-1 : Int64)), .second, .val (.int (4 : Int32)), .unset, .unset] [(.int (255 : Int32)), (.int u4_), (.ref ms_), (.long (-2 : Int64))]) _ _ _
      refine Ends.go (fun _ k => XS.iand X140.here hx rfl (hb hby d11_82) rfl k) ?_
      obtain ⟨cl174, Ar174, S174, H174⟩ := id M0
      have hin174 := inb_of (j := (u4_ &&& (255 : Int32))) S174 (own_in255 u4_)
      refine Ends.go (X140.laload hx (j := (u4_ &&& (255 : Int32))) (v := (.long (f_ ((u4_ &&& (255 : Int32)).toNatClampNeg)))) (by rw [e140]; exact Ar174.1) (State.isArrayOf_alike hZ.alike Ar174.2.1) Ar174.2.2 hin174 (H174 _ (Nat.lt_of_not_le fun y => hin174 (Or.inr y))) (g := (mkF m 83 #[.val (.ref rd_), .val (.ref sc_), .val (.ref bf_), .val (.long q_), .second, .val (.int m_), .val (.ref ms_), .val (.long (4 : Int64)), .second, .val (.int (6 : Int32)), .val (.long (-1 : Int64)), .second, .val (.int (4 : Int32)), .unset, .unset] [(.int (u4_ &&& (255 : Int32))), (.ref ms_), (.long (-2 : Int64))])) rfl rfl (hb hby d11_83)) ?_
      refine Ends.go (fun _ k => XS.lor X140.here hx rfl (hb hby d11_84) rfl k) ?_
      refine Ends.go (fun _ k => XS.lstore X140.here hx rfl (hb hby d11_85) rfl (l' := #[.val (.ref rd_), .val (.ref sc_), .val (.ref bf_), .val (.long q_), .second, .val (.int m_), .val (.ref ms_), .val (.long (4 : Int64)), .second, .val (.int (6 : Int32)), .val (.long ((-2 : Int64) ||| (f_ ((u4_ &&& (255 : Int32)).toNatClampNeg)))), .second, .val (.int (4 : Int32)), .unset, .unset]) rfl k) ?_
      show Ends p e below s T140 (mkF m 87 #[.val (.ref rd_), .val (.ref sc_), .val (.ref bf_), .val (.long q_), .second, .val (.int m_), .val (.ref ms_), .val (.long (4 : Int64)), .second, .val (.int (6 : Int32)), .val (.long ((-2 : Int64) ||| (f_ ((u4_ &&& (255 : Int32)).toNatClampNeg)))), .second, .val (.int (4 : Int32)), .unset, .unset] []) _ _ _
      refine Ends.go (fun _ k => XS.iinc X140.here hx rfl (hb hby d11_87) rfl (l' := #[.val (.ref rd_), .val (.ref sc_), .val (.ref bf_), .val (.long q_), .second, .val (.int m_), .val (.ref ms_), .val (.long (4 : Int64)), .second, .val (.int (6 : Int32)), .val (.long ((-2 : Int64) ||| (f_ ((u4_ &&& (255 : Int32)).toNatClampNeg)))), .second, .val (.int (5 : Int32)), .unset, .unset]) rfl k) ?_
      refine Ends.go (fun _ k => XS.goto X140.here hx rfl (pc0 := 90) (pc' := 62) rfl (hb hby d11_90) (by decide) (by decide) k) ?_
      refine Ends.go (fun _ k => XS.iload X140.here hx rfl (hb hby d11_62) rfl k) ?_
      refine Ends.go (fun _ k => XS.iload X140.here hx rfl (hb hby d11_64) rfl k) ?_
      show Ends p e below s T140 (mkF m 66 #[.val (.ref rd_), .val (.ref sc_), .val (.ref bf_), .val (.long q_), .second, .val (.int m_), .val (.ref ms_), .val (.long (4 : Int64)), .second, .val (.int (6 : Int32)), .val (.long ((-2 : Int64) ||| (f_ ((u4_ &&& (255 : Int32)).toNatClampNeg)))), .second, .val (.int (5 : Int32)), .unset, .unset] [(.int (6 : Int32)), (.int (5 : Int32))]) _ _ _
      refine Ends.go (fun _ k => XS.icmpNo X140.here hx rfl (hb hby d11_66) rfl (tlt (by decide : (5 : Int32) < (6 : Int32))).2.1 k) ?_
      refine Ends.go (fun _ k => XS.lload X140.here hx rfl (hb hby d11_69) rfl k) ?_
      refine Ends.go (fun _ k => XS.iconst X140.here hx rfl (hb hby d11_71) k) ?_
      refine Ends.go (fun _ k => XS.lshl X140.here hx rfl (hb hby d11_72) rfl k) ?_
      show Ends p e below s T140 (mkF m 73 #[.val (.ref rd_), .val (.ref sc_), .val (.ref bf_), .val (.long q_), .second, .val (.int m_), .val (.ref ms_), .val (.long (4 : Int64)), .second, .val (.int (6 : Int32)), .val (.long ((-2 : Int64) ||| (f_ ((u4_ &&& (255 : Int32)).toNatClampNeg)))), .second, .val (.int (5 : Int32)), .unset, .unset] [(.long (((-2 : Int64) ||| (f_ ((u4_ &&& (255 : Int32)).toNatClampNeg))) <<< ((1 : Int32) &&& 0x3f).toInt64))]) _ _ _
      refine Ends.go (fun _ k => XS.aload X140.here hx rfl (hb hby d11_73) rfl rfl k) ?_
      refine Ends.go (fun _ k => XS.aloadN X140.here hx rfl (hb hby d11_75) rfl rfl k) ?_
      refine Ends.go (fun _ k => XS.iload X140.here hx rfl (hb hby d11_76) rfl k) ?_
      obtain ⟨cl175, Ar175, q175, S175, M175, H175, G175⟩ := id Vb
      have hin175 := inb_of (j := (5 : Int32)) S175 ⟨by decide, by decide⟩
      refine Ends.go (X140.baloadBytes hx (j := (5 : Int32)) (v := (.int u5_)) (by rw [e140]; exact Ar175.1) (State.isArrayOf_alike hZ.alike Ar175.2.1) Ar175.2.2 hin175 (H175.at hin175 rfl) (g := (mkF m 78 #[.val (.ref rd_), .val (.ref sc_), .val (.ref bf_), .val (.long q_), .second, .val (.int m_), .val (.ref ms_), .val (.long (4 : Int64)), .second, .val (.int (6 : Int32)), .val (.long ((-2 : Int64) ||| (f_ ((u4_ &&& (255 : Int32)).toNatClampNeg)))), .second, .val (.int (5 : Int32)), .unset, .unset] [(.int (5 : Int32)), (.ref bf_), (.ref ms_), (.long (((-2 : Int64) ||| (f_ ((u4_ &&& (255 : Int32)).toNatClampNeg))) <<< ((1 : Int32) &&& 0x3f).toInt64))])) rfl rfl (hb hby d11_78)) ?_
      show Ends p e below s T140 (mkF m 79 #[.val (.ref rd_), .val (.ref sc_), .val (.ref bf_), .val (.long q_), .second, .val (.int m_), .val (.ref ms_), .val (.long (4 : Int64)), .second, .val (.int (6 : Int32)), .val (.long ((-2 : Int64) ||| (f_ ((u4_ &&& (255 : Int32)).toNatClampNeg)))), .second, .val (.int (5 : Int32)), .unset, .unset] [(.int u5_), (.ref ms_), (.long (((-2 : Int64) ||| (f_ ((u4_ &&& (255 : Int32)).toNatClampNeg))) <<< ((1 : Int32) &&& 0x3f).toInt64))]) _ _ _
      refine Ends.go (fun _ k => XS.sipush X140.here hx rfl (hb hby d11_79) k) ?_
      refine Ends.go (fun _ k => XS.iand X140.here hx rfl (hb hby d11_82) rfl k) ?_
      obtain ⟨cl176, Ar176, S176, H176⟩ := id M0
      have hin176 := inb_of (j := (u5_ &&& (255 : Int32))) S176 (own_in255 u5_)
      refine Ends.go (X140.laload hx (j := (u5_ &&& (255 : Int32))) (v := (.long (f_ ((u5_ &&& (255 : Int32)).toNatClampNeg)))) (by rw [e140]; exact Ar176.1) (State.isArrayOf_alike hZ.alike Ar176.2.1) Ar176.2.2 hin176 (H176 _ (Nat.lt_of_not_le fun y => hin176 (Or.inr y))) (g := (mkF m 83 #[.val (.ref rd_), .val (.ref sc_), .val (.ref bf_), .val (.long q_), .second, .val (.int m_), .val (.ref ms_), .val (.long (4 : Int64)), .second, .val (.int (6 : Int32)), .val (.long ((-2 : Int64) ||| (f_ ((u4_ &&& (255 : Int32)).toNatClampNeg)))), .second, .val (.int (5 : Int32)), .unset, .unset] [(.int (u5_ &&& (255 : Int32))), (.ref ms_), (.long (((-2 : Int64) ||| (f_ ((u4_ &&& (255 : Int32)).toNatClampNeg))) <<< ((1 : Int32) &&& 0x3f).toInt64))])) rfl rfl (hb hby d11_83)) ?_
      refine Ends.go (fun _ k => XS.lor X140.here hx rfl (hb hby d11_84) rfl k) ?_
      show Ends p e below s T140 (mkF m 85 #[.val (.ref rd_), .val (.ref sc_), .val (.ref bf_), .val (.long q_), .second, .val (.int m_), .val (.ref ms_), .val (.long (4 : Int64)), .second, .val (.int (6 : Int32)), .val (.long ((-2 : Int64) ||| (f_ ((u4_ &&& (255 : Int32)).toNatClampNeg)))), .second, .val (.int (5 : Int32)), .unset, .unset] [(.long ((((-2 : Int64) ||| (f_ ((u4_ &&& (255 : Int32)).toNatClampNeg))) <<< ((1 : Int32) &&& 0x3f).toInt64) ||| (f_ ((u5_ &&& (255 : Int32)).toNatClampNeg))))]) _ _ _
      refine Ends.go (fun _ k => XS.lstore X140.here hx rfl (hb hby d11_85) rfl (l' := #[.val (.ref rd_), .val (.ref sc_), .val (.ref bf_), .val (.long q_), .second, .val (.int m_), .val (.ref ms_), .val (.long (4 : Int64)), .second, .val (.int (6 : Int32)), .val (.long ((((-2 : Int64) ||| (f_ ((u4_ &&& (255 : Int32)).toNatClampNeg))) <<< ((1 : Int32) &&& 0x3f).toInt64) ||| (f_ ((u5_ &&& (255 : Int32)).toNatClampNeg)))), .second, .val (.int (5 : Int32)), .unset, .unset]) rfl k) ?_
      refine Ends.go (fun _ k => XS.iinc X140.here hx rfl (hb hby d11_87) rfl (l' := #[.val (.ref rd_), .val (.ref sc_), .val (.ref bf_), .val (.long q_), .second, .val (.int m_), .val (.ref ms_), .val (.long (4 : Int64)), .second, .val (.int (6 : Int32)), .val (.long ((((-2 : Int64) ||| (f_ ((u4_ &&& (255 : Int32)).toNatClampNeg))) <<< ((1 : Int32) &&& 0x3f).toInt64) ||| (f_ ((u5_ &&& (255 : Int32)).toNatClampNeg)))), .second, .val (.int (6 : Int32)), .unset, .unset]) rfl k) ?_
      refine Ends.go (fun _ k => XS.goto X140.here hx rfl (pc0 := 90) (pc' := 62) rfl (hb hby d11_90) (by decide) (by decide) k) ?_
      refine Ends.go (fun _ k => XS.iload X140.here hx rfl (hb hby d11_62) rfl k) ?_
      show Ends p e below s T140 (mkF m 64 #[.val (.ref rd_), .val (.ref sc_), .val (.ref bf_), .val (.long q_), .second, .val (.int m_), .val (.ref ms_), .val (.long (4 : Int64)), .second, .val (.int (6 : Int32)), .val (.long ((((-2 : Int64) ||| (f_ ((u4_ &&& (255 : Int32)).toNatClampNeg))) <<< ((1 : Int32) &&& 0x3f).toInt64) ||| (f_ ((u5_ &&& (255 : Int32)).toNatClampNeg)))), .second, .val (.int (6 : Int32)), .unset, .unset] [(.int (6 : Int32))]) _ _ _
      refine Ends.go (fun _ k => XS.iload X140.here hx rfl (hb hby d11_64) rfl k) ?_
      refine Ends.go (fun _ k => XS.icmpYes X140.here hx rfl (pc0 := 66) (pc' := 93) rfl (hb hby d11_66) rfl (flt (by decide : ¬ ((6 : Int32) < (6 : Int32)))).2.1 (by decide) (by decide) k) ?_
      refine Ends.go (fun _ k => XS.aloadN X140.here hx rfl (hb hby d11_93) rfl rfl k) ?_
      refine Ends.go (fun _ k => XS.dup X140.here hx rfl (hb hby d11_94) rfl rfl k) ?_
      show Ends p e below s T140 (mkF m 95 #[.val (.ref rd_), .val (.ref sc_), .val (.ref bf_), .val (.long q_), .second, .val (.int m_), .val (.ref ms_), .val (.long (4 : Int64)), .second, .val (.int (6 : Int32)), .val (.long ((((-2 : Int64) ||| (f_ ((u4_ &&& (255 : Int32)).toNatClampNeg))) <<< ((1 : Int32) &&& 0x3f).toInt64) ||| (f_ ((u5_ &&& (255 : Int32)).toNatClampNeg)))), .second, .val (.int (6 : Int32)), .unset, .unset] [(.ref sc_), (.ref sc_)]) _ _ _
      obtain ⟨T177, X177, e177, st177⟩ := getF X140 hx hZ hown (host := "") (Or.inl (ow hw 117 rfl)) Via.refl e140 Fd (g := (mkF m 95 #[.val (.ref rd_), .val (.ref sc_), .val (.ref bf_), .val (.long q_), .second, .val (.int m_), .val (.ref ms_), .val (.long (4 : Int64)), .second, .val (.int (6 : Int32)), .val (.long ((((-2 : Int64) ||| (f_ ((u4_ &&& (255 : Int32)).toNatClampNeg))) <<< ((1 : Int32) &&& 0x3f).toInt64) ||| (f_ ((u5_ &&& (255 : Int32)).toNatClampNeg)))), .second, .val (.int (6 : Int32)), .unset, .unset] [(.ref sc_), (.ref sc_)])) rfl rfl (hb hby d11_95)
      refine Ends.go st177 ?_
      refine Ends.go (fun _ k => XS.aloadN X177.here hx rfl (hb hby d11_98) rfl rfl k) ?_
      obtain ⟨T178, X178, e178, st178⟩ := getF X177 hx hZ hown (host := "") (Or.inl (ow hw 44 rfl)) Via.refl e177 Ft (g := (mkF m 99 #[.val (.ref rd_), .val (.ref sc_), .val (.ref bf_), .val (.long q_), .second, .val (.int m_), .val (.ref ms_), .val (.long (4 : Int64)), .second, .val (.int (6 : Int32)), .val (.long ((((-2 : Int64) ||| (f_ ((u4_ &&& (255 : Int32)).toNatClampNeg))) <<< ((1 : Int32) &&& 0x3f).toInt64) ||| (f_ ((u5_ &&& (255 : Int32)).toNatClampNeg)))), .second, .val (.int (6 : Int32)), .unset, .unset] [(.ref rd_), (.long d_), (.ref sc_)])) rfl rfl (hb hby d11_99)
      refine Ends.go st178 ?_
      obtain ⟨T179, X179, e179, st179⟩ := getF X178 hx hZ hown (Or.inr (ow hw 116 rfl)) Via.refl e178 Fk (g := (mkF m 102 #[.val (.ref rd_), .val (.ref sc_), .val (.ref bf_), .val (.long q_), .second, .val (.int m_), .val (.ref ms_), .val (.long (4 : Int64)), .second, .val (.int (6 : Int32)), .val (.long ((((-2 : Int64) ||| (f_ ((u4_ &&& (255 : Int32)).toNatClampNeg))) <<< ((1 : Int32) &&& 0x3f).toInt64) ||| (f_ ((u5_ &&& (255 : Int32)).toNatClampNeg)))), .second, .val (.int (6 : Int32)), .unset, .unset] [(.ref so_), (.long d_), (.ref sc_)])) rfl rfl (hb hby d11_102)
      refine Ends.go st179 ?_
      show Ends p e below s T179 (mkF m 105 #[.val (.ref rd_), .val (.ref sc_), .val (.ref bf_), .val (.long q_), .second, .val (.int m_), .val (.ref ms_), .val (.long (4 : Int64)), .second, .val (.int (6 : Int32)), .val (.long ((((-2 : Int64) ||| (f_ ((u4_ &&& (255 : Int32)).toNatClampNeg))) <<< ((1 : Int32) &&& 0x3f).toInt64) ||| (f_ ((u5_ &&& (255 : Int32)).toNatClampNeg)))), .second, .val (.int (6 : Int32)), .unset, .unset] [(.int (2 : Int32)), (.long d_), (.ref sc_)]) _ _ _
      refine Ends.go (fun _ k => XS.i2l X179.here hx rfl (hb hby d11_105) rfl k) ?_
      refine Ends.go (fun _ k => XS.ladd X179.here hx rfl (hb hby d11_106) rfl k) ?_
      obtain ⟨T180, h180, X180, e180, W180, st180⟩ := putF X179 hx hZ hown (host := "") (Or.inl (ow hw 117 rfl)) Via.refl e179 Fd Es (Or.inl (ow hw 118 rfl)) (ow hw 47 rfl) (ty := .long) (by decide) rfl rfl (g := (mkF m 107 #[.val (.ref rd_), .val (.ref sc_), .val (.ref bf_), .val (.long q_), .second, .val (.int m_), .val (.ref ms_), .val (.long (4 : Int64)), .second, .val (.int (6 : Int32)), .val (.long ((((-2 : Int64) ||| (f_ ((u4_ &&& (255 : Int32)).toNatClampNeg))) <<< ((1 : Int32) &&& 0x3f).toInt64) ||| (f_ ((u5_ &&& (255 : Int32)).toNatClampNeg)))), .second, .val (.int (6 : Int32)), .unset, .unset] [(.long (d_ + (2 : Int64))), (.ref sc_)])) rfl rfl (hb hby d11_107)
      refine Ends.go st180 ?_
      have Fw180 := Fd.same W180
      have K180 := K0.wr W180 (Or.inl (List.mem_of_getElem? (i := 1) rfl))
      have O180 := O0.wr W180 g_sc_
      have N180 := Fr.snoc X180 N0 g_sc_
      refine Ends.go (fun _ k => XS.iload X180.here hx rfl (hb hby d11_110) rfl k) ?_
      show Ends p e below s T180 (mkF m 112 #[.val (.ref rd_), .val (.ref sc_), .val (.ref bf_), .val (.long q_), .second, .val (.int m_), .val (.ref ms_), .val (.long (4 : Int64)), .second, .val (.int (6 : Int32)), .val (.long ((((-2 : Int64) ||| (f_ ((u4_ &&& (255 : Int32)).toNatClampNeg))) <<< ((1 : Int32) &&& 0x3f).toInt64) ||| (f_ ((u5_ &&& (255 : Int32)).toNatClampNeg)))), .second, .val (.int (6 : Int32)), .unset, .unset] [(.int m_)]) _ _ _
      refine Ends.go (fun _ k => XS.istore X180.here hx rfl (hb hby d11_112) rfl (l' := #[.val (.ref rd_), .val (.ref sc_), .val (.ref bf_), .val (.long q_), .second, .val (.int m_), .val (.ref ms_), .val (.long (4 : Int64)), .second, .val (.int (6 : Int32)), .val (.long ((((-2 : Int64) ||| (f_ ((u4_ &&& (255 : Int32)).toNatClampNeg))) <<< ((1 : Int32) &&& 0x3f).toInt64) ||| (f_ ((u5_ &&& (255 : Int32)).toNatClampNeg)))), .second, .val (.int m_), .unset, .unset]) rfl k) ?_
      refine Ends.go (fun _ k => XS.iconst X180.here hx rfl (hb hby d11_114) k) ?_
      refine Ends.go (fun _ k => XS.istore X180.here hx rfl (hb hby d11_115) rfl (l' := #[.val (.ref rd_), .val (.ref sc_), .val (.ref bf_), .val (.long q_), .second, .val (.int m_), .val (.ref ms_), .val (.long (4 : Int64)), .second, .val (.int (6 : Int32)), .val (.long ((((-2 : Int64) ||| (f_ ((u4_ &&& (255 : Int32)).toNatClampNeg))) <<< ((1 : Int32) &&& 0x3f).toInt64) ||| (f_ ((u5_ &&& (255 : Int32)).toNatClampNeg)))), .second, .val (.int m_), .val (.int (-1 : Int32)), .unset]) rfl k) ?_
      refine Ends.go (fun _ k => XS.iload X180.here hx rfl (hb hby d11_117) rfl k) ?_
      show Ends p e below s T180 (mkF m 119 #[.val (.ref rd_), .val (.ref sc_), .val (.ref bf_), .val (.long q_), .second, .val (.int m_), .val (.ref ms_), .val (.long (4 : Int64)), .second, .val (.int (6 : Int32)), .val (.long ((((-2 : Int64) ||| (f_ ((u4_ &&& (255 : Int32)).toNatClampNeg))) <<< ((1 : Int32) &&& 0x3f).toInt64) ||| (f_ ((u5_ &&& (255 : Int32)).toNatClampNeg)))), .second, .val (.int m_), .val (.int (-1 : Int32)), .unset] [(.int (6 : Int32))]) _ _ _
      refine Ends.go (fun _ k => XS.istore X180.here hx rfl (hb hby d11_119) rfl (l' := #[.val (.ref rd_), .val (.ref sc_), .val (.ref bf_), .val (.long q_), .second, .val (.int m_), .val (.ref ms_), .val (.long (4 : Int64)), .second, .val (.int (6 : Int32)), .val (.long ((((-2 : Int64) ||| (f_ ((u4_ &&& (255 : Int32)).toNatClampNeg))) <<< ((1 : Int32) &&& 0x3f).toInt64) ||| (f_ ((u5_ &&& (255 : Int32)).toNatClampNeg)))), .second, .val (.int m_), .val (.int (-1 : Int32)), .val (.int (6 : Int32))]) rfl k) ?_
      exact J121_6 _ _ _ _ _ _ _ _ X180 e180 O180 N180 K180 (Er.wr W180) (Es.wr W180) (Ft.other W180 (Or.inl ne_rd_sc_)) (Fh.other W180 (Or.inl ne_rd_sc_)) (Fe.other W180 (Or.inl ne_rd_sc_)) (Fi.other W180 (Or.inr (slot_ne (Or.inl (ow hw 92 rfl)) (Or.inl (ow hw 118 rfl)) (by decide) (t := .long) (t' := .long) (by decide) (by decide)))) Fw180 (Vb.other W180 (Ne.symm ne_sc_bf_)) (M0.other W180 (Ne.symm ne_sc_ms_)) (if_neg (fun z => hc42_138 ((lw_eq _ _).mpr z))).symm (own_two hm hu4_ hu5_) hr (own_nlt hl.1)
    · show Ends p e below s T140 (mkF m 62 #[.val (.ref rd_), .val (.ref sc_), .val (.ref bf_), .val (.long q_), .second, .val (.int m_), .val (.ref ms_), .val (.long (4 : Int64)), .second, .val (.int (7 : Int32)), .val (.long (-1 : Int64)), .second, .val (.int (5 : Int32)), .unset, .unset] []) _ _ _
      refine Ends.go (fun _ k => XS.iload X140.here hx rfl (hb hby d11_62) rfl k) ?_
      refine Ends.go (fun _ k => XS.iload X140.here hx rfl (hb hby d11_64) rfl k) ?_
      show Ends p e below s T140 (mkF m 66 #[.val (.ref rd_), .val (.ref sc_), .val (.ref bf_), .val (.long q_), .second, .val (.int m_), .val (.ref ms_), .val (.long (4 : Int64)), .second, .val (.int (7 : Int32)), .val (.long (-1 : Int64)), .second, .val (.int (5 : Int32)), .unset, .unset] [(.int (7 : Int32)), (.int (5 : Int32))]) _ _ _
      refine Ends.go (fun _ k => XS.icmpNo X140.here hx rfl (hb hby d11_66) rfl (tlt (by decide : (5 : Int32) < (7 : Int32))).2.1 k) ?_
      refine Ends.go (fun _ k => XS.lload X140.here hx rfl (hb hby d11_69) rfl k) ?_
      refine Ends.go (fun _ k => XS.iconst X140.here hx rfl (hb hby d11_71) k) ?_
      refine Ends.go (fun _ k => XS.lshl X140.here hx rfl (hb hby d11_72) rfl k) ?_
      show Ends p e below s T140 (mkF m 73 #[.val (.ref rd_), .val (.ref sc_), .val (.ref bf_), .val (.long q_), .second, .val (.int m_), .val (.ref ms_), .val (.long (4 : Int64)), .second, .val (.int (7 : Int32)), .val (.long (-1 : Int64)), .second, .val (.int (5 : Int32)), .unset, .unset] [(.long (-2 : Int64))]) _ _ _
      refine Ends.go (fun _ k => XS.aload X140.here hx rfl (hb hby d11_73) rfl rfl k) ?_
      refine Ends.go (fun _ k => XS.aloadN X140.here hx rfl (hb hby d11_75) rfl rfl k) ?_
      refine Ends.go (fun _ k => XS.iload X140.here hx rfl (hb hby d11_76) rfl k) ?_
      obtain ⟨cl181, Ar181, q181, S181, M181, H181, G181⟩ := id Vb
      have hin181 := inb_of (j := (5 : Int32)) S181 ⟨by decide, by decide⟩
      refine Ends.go (X140.baloadBytes hx (j := (5 : Int32)) (v := (.int u5_)) (by rw [e140]; exact Ar181.1) (State.isArrayOf_alike hZ.alike Ar181.2.1) Ar181.2.2 hin181 (H181.at hin181 rfl) (g := (mkF m 78 #[.val (.ref rd_), .val (.ref sc_), .val (.ref bf_), .val (.long q_), .second, .val (.int m_), .val (.ref ms_), .val (.long (4 : Int64)), .second, .val (.int (7 : Int32)), .val (.long (-1 : Int64)), .second, .val (.int (5 : Int32)), .unset, .unset] [(.int (5 : Int32)), (.ref bf_), (.ref ms_), (.long (-2 : Int64))])) rfl rfl (hb hby d11_78)) ?_
      show Ends p e below s T140 (mkF m 79 #[.val (.ref rd_), .val (.ref sc_), .val (.ref bf_), .val (.long q_), .second, .val (.int m_), .val (.ref ms_), .val (.long (4 : Int64)), .second, .val (.int (7 : Int32)), .val (.long (-1 : Int64)), .second, .val (.int (5 : Int32)), .unset, .unset] [(.int u5_), (.ref ms_), (.long (-2 : Int64))]) _ _ _
      refine Ends.go (fun _ k => XS.sipush X140.here hx rfl (hb hby d11_79) k) ?_
      refine Ends.go (fun _ k => XS.iand X140.here hx rfl (hb hby d11_82) rfl k) ?_
      obtain ⟨cl182, Ar182, S182, H182⟩ := id M0
      have hin182 := inb_of (j := (u5_ &&& (255 : Int32))) S182 (own_in255 u5_)
      refine Ends.go (X140.laload hx (j := (u5_ &&& (255 : Int32))) (v := (.long (f_ ((u5_ &&& (255 : Int32)).toNatClampNeg)))) (by rw [e140]; exact Ar182.1) (State.isArrayOf_alike hZ.alike Ar182.2.1) Ar182.2.2 hin182 (H182 _ (Nat.lt_of_not_le fun y => hin182 (Or.inr y))) (g := (mkF m 83 #[.val (.ref rd_), .val (.ref sc_), .val (.ref bf_), .val (.long q_), .second, .val (.int m_), .val (.ref ms_), .val (.long (4 : Int64)), .second, .val (.int (7 : Int32)), .val (.long (-1 : Int64)), .second, .val (.int (5 : Int32)), .unset, .unset] [(.int (u5_ &&& (255 : Int32))), (.ref ms_), (.long (-2 : Int64))])) rfl rfl (hb hby d11_83)) ?_
      refine Ends.go (fun _ k => XS.lor X140.here hx rfl (hb hby d11_84) rfl k) ?_
      show Ends p e below s T140 (mkF m 85 #[.val (.ref rd_), .val (.ref sc_), .val (.ref bf_), .val (.long q_), .second, .val (.int m_), .val (.ref ms_), .val (.long (4 : Int64)), .second, .val (.int (7 : Int32)), .val (.long (-1 : Int64)), .second, .val (.int (5 : Int32)), .unset, .unset] [(.long ((-2 : Int64) ||| (f_ ((u5_ &&& (255 : Int32)).toNatClampNeg))))]) _ _ _
      refine Ends.go (fun _ k => XS.lstore X140.here hx rfl (hb hby d11_85) rfl (l' := #[.val (.ref rd_), .val (.ref sc_), .val (.ref bf_), .val (.long q_), .second, .val (.int m_), .val (.ref ms_), .val (.long (4 : Int64)), .second, .val (.int (7 : Int32)), .val (.long ((-2 : Int64) ||| (f_ ((u5_ &&& (255 : Int32)).toNatClampNeg)))), .second, .val (.int (5 : Int32)), .unset, .unset]) rfl k) ?_
      refine Ends.go (fun _ k => XS.iinc X140.here hx rfl (hb hby d11_87) rfl (l' := #[.val (.ref rd_), .val (.ref sc_), .val (.ref bf_), .val (.long q_), .second, .val (.int m_), .val (.ref ms_), .val (.long (4 : Int64)), .second, .val (.int (7 : Int32)), .val (.long ((-2 : Int64) ||| (f_ ((u5_ &&& (255 : Int32)).toNatClampNeg)))), .second, .val (.int (6 : Int32)), .unset, .unset]) rfl k) ?_
      refine Ends.go (fun _ k => XS.goto X140.here hx rfl (pc0 := 90) (pc' := 62) rfl (hb hby d11_90) (by decide) (by decide) k) ?_
      refine Ends.go (fun _ k => XS.iload X140.here hx rfl (hb hby d11_62) rfl k) ?_
      show Ends p e below s T140 (mkF m 64 #[.val (.ref rd_), .val (.ref sc_), .val (.ref bf_), .val (.long q_), .second, .val (.int m_), .val (.ref ms_), .val (.long (4 : Int64)), .second, .val (.int (7 : Int32)), .val (.long ((-2 : Int64) ||| (f_ ((u5_ &&& (255 : Int32)).toNatClampNeg)))), .second, .val (.int (6 : Int32)), .unset, .unset] [(.int (6 : Int32))]) _ _ _
      refine Ends.go (fun _ k => XS.iload X140.here hx rfl (hb hby d11_64) rfl k) ?_
      refine Ends.go (fun _ k => XS.icmpNo X140.here hx rfl (hb hby d11_66) rfl (tlt (by decide : (6 : Int32) < (7 : Int32))).2.1 k) ?_
      refine Ends.go (fun _ k => XS.lload X140.here hx rfl (hb hby d11_69) rfl k) ?_
      refine Ends.go (fun _ k => XS.iconst X140.here hx rfl (hb hby d11_71) k) ?_
      show Ends p e below s T140 (mkF m 72 #[.val (.ref rd_), .val (.ref sc_), .val (.ref bf_), .val (.long q_), .second, .val (.int m_), .val (.ref ms_), .val (.long (4 : Int64)), .second, .val (.int (7 : Int32)), .val (.long ((-2 : Int64) ||| (f_ ((u5_ &&& (255 : Int32)).toNatClampNeg)))), .second, .val (.int (6 : Int32)), .unset, .unset] [(.int (1 : Int32)), (.long ((-2 : Int64) ||| (f_ ((u5_ &&& (255 : Int32)).toNatClampNeg))))]) _ _ _
      refine Ends.go (fun _ k => XS.lshl X140.here hx rfl (hb hby d11_72) rfl k) ?_
      refine Ends.go (fun _ k => XS.aload X140.here hx rfl (hb hby d11_73) rfl rfl k) ?_
      refine Ends.go (fun _ k => XS.aloadN X140.here hx rfl (hb hby d11_75) rfl rfl k) ?_
      refine Ends.go (fun _ k => XS.iload X140.here hx rfl (hb hby d11_76) rfl k) ?_
      show Ends p e below s T140 (mkF m 78 #[.val (.ref rd_), .val (.ref sc_), .val (.ref bf_), .val (.long q_), .second, .val (.int m_), .val (.ref ms_), .val (.long (4 : Int64)), .second, .val (.int (7 : Int32)), .val (.long ((-2 : Int64) ||| (f_ ((u5_ &&& (255 : Int32)).toNatClampNeg)))), .second, .val (.int (6 : Int32)), .unset, .unset] [(.int (6 : Int32)), (.ref bf_), (.ref ms_), (.long (((-2 : Int64) ||| (f_ ((u5_ &&& (255 : Int32)).toNatClampNeg))) <<< ((1 : Int32) &&& 0x3f).toInt64))]) _ _ _
      obtain ⟨cl183, Ar183, q183, S183, M183, H183, G183⟩ := id Vb
      have hin183 := inb_of (j := (6 : Int32)) S183 ⟨by decide, by decide⟩
      refine Ends.go (X140.baloadBytes hx (j := (6 : Int32)) (v := (.int u6_)) (by rw [e140]; exact Ar183.1) (State.isArrayOf_alike hZ.alike Ar183.2.1) Ar183.2.2 hin183 (H183.at hin183 rfl) (g := (mkF m 78 #[.val (.ref rd_), .val (.ref sc_), .val (.ref bf_), .val (.long q_), .second, .val (.int m_), .val (.ref ms_), .val (.long (4 : Int64)), .second, .val (.int (7 : Int32)), .val (.long ((-2 : Int64) ||| (f_ ((u5_ &&& (255 : Int32)).toNatClampNeg)))), .second, .val (.int (6 : Int32)), .unset, .unset] [(.int (6 : Int32)), (.ref bf_), (.ref ms_), (.long (((-2 : Int64) ||| (f_ ((u5_ &&& (255 : Int32)).toNatClampNeg))) <<< ((1 : Int32) &&& 0x3f).toInt64))])) rfl rfl (hb hby d11_78)) ?_
      refine Ends.go (fun _ k => XS.sipush X140.here hx rfl (hb hby d11_79) k) ?_
      refine Ends.go (fun _ k => XS.iand X140.here hx rfl (hb hby d11_82) rfl k) ?_
      obtain ⟨cl184, Ar184, S184, H184⟩ := id M0
      have hin184 := inb_of (j := (u6_ &&& (255 : Int32))) S184 (own_in255 u6_)
      refine Ends.go (X140.laload hx (j := (u6_ &&& (255 : Int32))) (v := (.long (f_ ((u6_ &&& (255 : Int32)).toNatClampNeg)))) (by rw [e140]; exact Ar184.1) (State.isArrayOf_alike hZ.alike Ar184.2.1) Ar184.2.2 hin184 (H184 _ (Nat.lt_of_not_le fun y => hin184 (Or.inr y))) (g := (mkF m 83 #[.val (.ref rd_), .val (.ref sc_), .val (.ref bf_), .val (.long q_), .second, .val (.int m_), .val (.ref ms_), .val (.long (4 : Int64)), .second, .val (.int (7 : Int32)), .val (.long ((-2 : Int64) ||| (f_ ((u5_ &&& (255 : Int32)).toNatClampNeg)))), .second, .val (.int (6 : Int32)), .unset, .unset] [(.int (u6_ &&& (255 : Int32))), (.ref ms_), (.long (((-2 : Int64) ||| (f_ ((u5_ &&& (255 : Int32)).toNatClampNeg))) <<< ((1 : Int32) &&& 0x3f).toInt64))])) rfl rfl (hb hby d11_83)) ?_
      show Ends p e below s T140 (mkF m 84 #[.val (.ref rd_), .val (.ref sc_), .val (.ref bf_), .val (.long q_), .second, .val (.int m_), .val (.ref ms_), .val (.long (4 : Int64)), .second, .val (.int (7 : Int32)), .val (.long ((-2 : Int64) ||| (f_ ((u5_ &&& (255 : Int32)).toNatClampNeg)))), .second, .val (.int (6 : Int32)), .unset, .unset] [(.long (f_ ((u6_ &&& (255 : Int32)).toNatClampNeg))), (.long (((-2 : Int64) ||| (f_ ((u5_ &&& (255 : Int32)).toNatClampNeg))) <<< ((1 : Int32) &&& 0x3f).toInt64))]) _ _ _
      refine Ends.go (fun _ k => XS.lor X140.here hx rfl (hb hby d11_84) rfl k) ?_
      refine Ends.go (fun _ k => XS.lstore X140.here hx rfl (hb hby d11_85) rfl (l' := #[.val (.ref rd_), .val (.ref sc_), .val (.ref bf_), .val (.long q_), .second, .val (.int m_), .val (.ref ms_), .val (.long (4 : Int64)), .second, .val (.int (7 : Int32)), .val (.long ((((-2 : Int64) ||| (f_ ((u5_ &&& (255 : Int32)).toNatClampNeg))) <<< ((1 : Int32) &&& 0x3f).toInt64) ||| (f_ ((u6_ &&& (255 : Int32)).toNatClampNeg)))), .second, .val (.int (6 : Int32)), .unset, .unset]) rfl k) ?_
      refine Ends.go (fun _ k => XS.iinc X140.here hx rfl (hb hby d11_87) rfl (l' := #[.val (.ref rd_), .val (.ref sc_), .val (.ref bf_), .val (.long q_), .second, .val (.int m_), .val (.ref ms_), .val (.long (4 : Int64)), .second, .val (.int (7 : Int32)), .val (.long ((((-2 : Int64) ||| (f_ ((u5_ &&& (255 : Int32)).toNatClampNeg))) <<< ((1 : Int32) &&& 0x3f).toInt64) ||| (f_ ((u6_ &&& (255 : Int32)).toNatClampNeg)))), .second, .val (.int (7 : Int32)), .unset, .unset]) rfl k) ?_
      refine Ends.go (fun _ k => XS.goto X140.here hx rfl (pc0 := 90) (pc' := 62) rfl (hb hby d11_90) (by decide) (by decide) k) ?_
      show Ends p e below s T140 (mkF m 62 #[.val (.ref rd_), .val (.ref sc_), .val (.ref bf_), .val (.long q_), .second, .val (.int m_), .val (.ref ms_), .val (.long (4 : Int64)), .second, .val (.int (7 : Int32)), .val (.long ((((-2 : Int64) ||| (f_ ((u5_ &&& (255 : Int32)).toNatClampNeg))) <<< ((1 : Int32) &&& 0x3f).toInt64) ||| (f_ ((u6_ &&& (255 : Int32)).toNatClampNeg)))), .second, .val (.int (7 : Int32)), .unset, .unset] []) _ _ _
      refine Ends.go (fun _ k => XS.iload X140.here hx rfl (hb hby d11_62) rfl k) ?_
      refine Ends.go (fun _ k => XS.iload X140.here hx rfl (hb hby d11_64) rfl k) ?_
      refine Ends.go (fun _ k => XS.icmpYes X140.here hx rfl (pc0 := 66) (pc' := 93) rfl (hb hby d11_66) rfl (flt (by decide : ¬ ((7 : Int32) < (7 : Int32)))).2.1 (by decide) (by decide) k) ?_
      refine Ends.go (fun _ k => XS.aloadN X140.here hx rfl (hb hby d11_93) rfl rfl k) ?_
      show Ends p e below s T140 (mkF m 94 #[.val (.ref rd_), .val (.ref sc_), .val (.ref bf_), .val (.long q_), .second, .val (.int m_), .val (.ref ms_), .val (.long (4 : Int64)), .second, .val (.int (7 : Int32)), .val (.long ((((-2 : Int64) ||| (f_ ((u5_ &&& (255 : Int32)).toNatClampNeg))) <<< ((1 : Int32) &&& 0x3f).toInt64) ||| (f_ ((u6_ &&& (255 : Int32)).toNatClampNeg)))), .second, .val (.int (7 : Int32)), .unset, .unset] [(.ref sc_)]) _ _ _
      refine Ends.go (fun _ k => XS.dup X140.here hx rfl (hb hby d11_94) rfl rfl k) ?_
      obtain ⟨T185, X185, e185, st185⟩ := getF X140 hx hZ hown (host := "") (Or.inl (ow hw 117 rfl)) Via.refl e140 Fd (g := (mkF m 95 #[.val (.ref rd_), .val (.ref sc_), .val (.ref bf_), .val (.long q_), .second, .val (.int m_), .val (.ref ms_), .val (.long (4 : Int64)), .second, .val (.int (7 : Int32)), .val (.long ((((-2 : Int64) ||| (f_ ((u5_ &&& (255 : Int32)).toNatClampNeg))) <<< ((1 : Int32) &&& 0x3f).toInt64) ||| (f_ ((u6_ &&& (255 : Int32)).toNatClampNeg)))), .second, .val (.int (7 : Int32)), .unset, .unset] [(.ref sc_), (.ref sc_)])) rfl rfl (hb hby d11_95)
      refine Ends.go st185 ?_
      refine Ends.go (fun _ k => XS.aloadN X185.here hx rfl (hb hby d11_98) rfl rfl k) ?_
      obtain ⟨T186, X186, e186, st186⟩ := getF X185 hx hZ hown (host := "") (Or.inl (ow hw 44 rfl)) Via.refl e185 Ft (g := (mkF m 99 #[.val (.ref rd_), .val (.ref sc_), .val (.ref bf_), .val (.long q_), .second, .val (.int m_), .val (.ref ms_), .val (.long (4 : Int64)), .second, .val (.int (7 : Int32)), .val (.long ((((-2 : Int64) ||| (f_ ((u5_ &&& (255 : Int32)).toNatClampNeg))) <<< ((1 : Int32) &&& 0x3f).toInt64) ||| (f_ ((u6_ &&& (255 : Int32)).toNatClampNeg)))), .second, .val (.int (7 : Int32)), .unset, .unset] [(.ref rd_), (.long d_), (.ref sc_)])) rfl rfl (hb hby d11_99)
      refine Ends.go st186 ?_
      show Ends p e below s T186 (mkF m 102 #[.val (.ref rd_), .val (.ref sc_), .val (.ref bf_), .val (.long q_), .second, .val (.int m_), .val (.ref ms_), .val (.long (4 : Int64)), .second, .val (.int (7 : Int32)), .val (.long ((((-2 : Int64) ||| (f_ ((u5_ &&& (255 : Int32)).toNatClampNeg))) <<< ((1 : Int32) &&& 0x3f).toInt64) ||| (f_ ((u6_ &&& (255 : Int32)).toNatClampNeg)))), .second, .val (.int (7 : Int32)), .unset, .unset] [(.ref so_), (.long d_), (.ref sc_)]) _ _ _
      obtain ⟨T187, X187, e187, st187⟩ := getF X186 hx hZ hown (Or.inr (ow hw 116 rfl)) Via.refl e186 Fk (g := (mkF m 102 #[.val (.ref rd_), .val (.ref sc_), .val (.ref bf_), .val (.long q_), .second, .val (.int m_), .val (.ref ms_), .val (.long (4 : Int64)), .second, .val (.int (7 : Int32)), .val (.long ((((-2 : Int64) ||| (f_ ((u5_ &&& (255 : Int32)).toNatClampNeg))) <<< ((1 : Int32) &&& 0x3f).toInt64) ||| (f_ ((u6_ &&& (255 : Int32)).toNatClampNeg)))), .second, .val (.int (7 : Int32)), .unset, .unset] [(.ref so_), (.long d_), (.ref sc_)])) rfl rfl (hb hby d11_102)
      refine Ends.go st187 ?_
      refine Ends.go (fun _ k => XS.i2l X187.here hx rfl (hb hby d11_105) rfl k) ?_
      refine Ends.go (fun _ k => XS.ladd X187.here hx rfl (hb hby d11_106) rfl k) ?_
      obtain ⟨T188, h188, X188, e188, W188, st188⟩ := putF X187 hx hZ hown (host := "") (Or.inl (ow hw 117 rfl)) Via.refl e187 Fd Es (Or.inl (ow hw 118 rfl)) (ow hw 47 rfl) (ty := .long) (by decide) rfl rfl (g := (mkF m 107 #[.val (.ref rd_), .val (.ref sc_), .val (.ref bf_), .val (.long q_), .second, .val (.int m_), .val (.ref ms_), .val (.long (4 : Int64)), .second, .val (.int (7 : Int32)), .val (.long ((((-2 : Int64) ||| (f_ ((u5_ &&& (255 : Int32)).toNatClampNeg))) <<< ((1 : Int32) &&& 0x3f).toInt64) ||| (f_ ((u6_ &&& (255 : Int32)).toNatClampNeg)))), .second, .val (.int (7 : Int32)), .unset, .unset] [(.long (d_ + (2 : Int64))), (.ref sc_)])) rfl rfl (hb hby d11_107)
      refine Ends.go st188 ?_
      have Fw188 := Fd.same W188
      have K188 := K0.wr W188 (Or.inl (List.mem_of_getElem? (i := 1) rfl))
      have O188 := O0.wr W188 g_sc_
      have N188 := Fr.snoc X188 N0 g_sc_
      show Ends p e below s T188 (mkF m 110 #[.val (.ref rd_), .val (.ref sc_), .val (.ref bf_), .val (.long q_), .second, .val (.int m_), .val (.ref ms_), .val (.long (4 : Int64)), .second, .val (.int (7 : Int32)), .val (.long ((((-2 : Int64) ||| (f_ ((u5_ &&& (255 : Int32)).toNatClampNeg))) <<< ((1 : Int32) &&& 0x3f).toInt64) ||| (f_ ((u6_ &&& (255 : Int32)).toNatClampNeg)))), .second, .val (.int (7 : Int32)), .unset, .unset] []) _ _ _
      refine Ends.go (fun _ k => XS.iload X188.here hx rfl (hb hby d11_110) rfl k) ?_
      refine Ends.go (fun _ k => XS.istore X188.here hx rfl (hb hby d11_112) rfl (l' := #[.val (.ref rd_), .val (.ref sc_), .val (.ref bf_), .val (.long q_), .second, .val (.int m_), .val (.ref ms_), .val (.long (4 : Int64)), .second, .val (.int (7 : Int32)), .val (.long ((((-2 : Int64) ||| (f_ ((u5_ &&& (255 : Int32)).toNatClampNeg))) <<< ((1 : Int32) &&& 0x3f).toInt64) ||| (f_ ((u6_ &&& (255 : Int32)).toNatClampNeg)))), .second, .val (.int m_), .unset, .unset]) rfl k) ?_
      refine Ends.go (fun _ k => XS.iconst X188.here hx rfl (hb hby d11_114) k) ?_
      refine Ends.go (fun _ k => XS.istore X188.here hx rfl (hb hby d11_115) rfl (l' := #[.val (.ref rd_), .val (.ref sc_), .val (.ref bf_), .val (.long q_), .second, .val (.int m_), .val (.ref ms_), .val (.long (4 : Int64)), .second, .val (.int (7 : Int32)), .val (.long ((((-2 : Int64) ||| (f_ ((u5_ &&& (255 : Int32)).toNatClampNeg))) <<< ((1 : Int32) &&& 0x3f).toInt64) ||| (f_ ((u6_ &&& (255 : Int32)).toNatClampNeg)))), .second, .val (.int m_), .val (.int (-1 : Int32)), .unset]) rfl k) ?_
      show Ends p e below s T188 (mkF m 117 #[.val (.ref rd_), .val (.ref sc_), .val (.ref bf_), .val (.long q_), .second, .val (.int m_), .val (.ref ms_), .val (.long (4 : Int64)), .second, .val (.int (7 : Int32)), .val (.long ((((-2 : Int64) ||| (f_ ((u5_ &&& (255 : Int32)).toNatClampNeg))) <<< ((1 : Int32) &&& 0x3f).toInt64) ||| (f_ ((u6_ &&& (255 : Int32)).toNatClampNeg)))), .second, .val (.int m_), .val (.int (-1 : Int32)), .unset] []) _ _ _
      refine Ends.go (fun _ k => XS.iload X188.here hx rfl (hb hby d11_117) rfl k) ?_
      refine Ends.go (fun _ k => XS.istore X188.here hx rfl (hb hby d11_119) rfl (l' := #[.val (.ref rd_), .val (.ref sc_), .val (.ref bf_), .val (.long q_), .second, .val (.int m_), .val (.ref ms_), .val (.long (4 : Int64)), .second, .val (.int (7 : Int32)), .val (.long ((((-2 : Int64) ||| (f_ ((u5_ &&& (255 : Int32)).toNatClampNeg))) <<< ((1 : Int32) &&& 0x3f).toInt64) ||| (f_ ((u6_ &&& (255 : Int32)).toNatClampNeg)))), .second, .val (.int m_), .val (.int (-1 : Int32)), .val (.int (7 : Int32))]) rfl k) ?_
      exact J121_7 _ _ _ _ _ _ _ _ X188 e188 O188 N188 K188 (Er.wr W188) (Es.wr W188) (Ft.other W188 (Or.inl ne_rd_sc_)) (Fh.other W188 (Or.inl ne_rd_sc_)) (Fe.other W188 (Or.inl ne_rd_sc_)) (Fi.other W188 (Or.inr (slot_ne (Or.inl (ow hw 92 rfl)) (Or.inl (ow hw 118 rfl)) (by decide) (t := .long) (t' := .long) (by decide) (by decide)))) Fw188 (Vb.other W188 (Ne.symm ne_sc_bf_)) (M0.other W188 (Ne.symm ne_sc_ms_)) (if_neg (fun z => hc42_138 ((lw_eq _ _).mpr z))).symm (own_two hm hu5_ hu6_) hr (own_nlt hl.1)
    · show Ends p e below s T140 (mkF m 62 #[.val (.ref rd_), .val (.ref sc_), .val (.ref bf_), .val (.long q_), .second, .val (.int m_), .val (.ref ms_), .val (.long (4 : Int64)), .second, .val (.int (8 : Int32)), .val (.long (-1 : Int64)), .second, .val (.int (6 : Int32)), .unset, .unset] []) _ _ _
      refine Ends.go (fun _ k => XS.iload X140.here hx rfl (hb hby d11_62) rfl k) ?_
      show Ends p e below s T140 (mkF m 64 #[.val (.ref rd_), .val (.ref sc_), .val (.ref bf_), .val (.long q_), .second, .val (.int m_), .val (.ref ms_), .val (.long (4 : Int64)), .second, .val (.int (8 : Int32)), .val (.long (-1 : Int64)), .second, .val (.int (6 : Int32)), .unset, .unset] [(.int (6 : Int32))]) _ _ _
      refine Ends.go (fun _ k => XS.iload X140.here hx rfl (hb hby d11_64) rfl k) ?_
      refine Ends.go (fun _ k => XS.icmpNo X140.here hx rfl (hb hby d11_66) rfl (tlt (by decide : (6 : Int32) < (8 : Int32))).2.1 k) ?_
      refine Ends.go (fun _ k => XS.lload X140.here hx rfl (hb hby d11_69) rfl k) ?_
      refine Ends.go (fun _ k => XS.iconst X140.here hx rfl (hb hby d11_71) k) ?_
      show Ends p e below s T140 (mkF m 72 #[.val (.ref rd_), .val (.ref sc_), .val (.ref bf_), .val (.long q_), .second, .val (.int m_), .val (.ref ms_), .val (.long (4 : Int64)), .second, .val (.int (8 : Int32)), .val (.long (-1 : Int64)), .second, .val (.int (6 : Int32)), .unset, .unset] [(.int (1 : Int32)), (.long (-1 : Int64))]) _ _ _
      refine Ends.go (fun _ k => XS.lshl X140.here hx rfl (hb hby d11_72) rfl k) ?_
      refine Ends.go (fun _ k => XS.aload X140.here hx rfl (hb hby d11_73) rfl rfl k) ?_
      refine Ends.go (fun _ k => XS.aloadN X140.here hx rfl (hb hby d11_75) rfl rfl k) ?_
      refine Ends.go (fun _ k => XS.iload X140.here hx rfl (hb hby d11_76) rfl k) ?_
      show Ends p e below s T140 (mkF m 78 #[.val (.ref rd_), .val (.ref sc_), .val (.ref bf_), .val (.long q_), .second, .val (.int m_), .val (.ref ms_), .val (.long (4 : Int64)), .second, .val (.int (8 : Int32)), .val (.long (-1 : Int64)), .second, .val (.int (6 : Int32)), .unset, .unset] [(.int (6 : Int32)), (.ref bf_), (.ref ms_), (.long (-2 : Int64))]) _ _ _
      obtain ⟨cl189, Ar189, q189, S189, M189, H189, G189⟩ := id Vb
      have hin189 := inb_of (j := (6 : Int32)) S189 ⟨by decide, by decide⟩
      refine Ends.go (X140.baloadBytes hx (j := (6 : Int32)) (v := (.int u6_)) (by rw [e140]; exact Ar189.1) (State.isArrayOf_alike hZ.alike Ar189.2.1) Ar189.2.2 hin189 (H189.at hin189 rfl) (g := (mkF m 78 #[.val (.ref rd_), .val (.ref sc_), .val (.ref bf_), .val (.long q_), .second, .val (.int m_), .val (.ref ms_), .val (.long (4 : Int64)), .second, .val (.int (8 : Int32)), .val (.long (-1 : Int64)), .second, .val (.int (6 : Int32)), .unset, .unset] [(.int (6 : Int32)), (.ref bf_), (.ref ms_), (.long (-2 : Int64))])) rfl rfl (hb hby d11_78)) ?_
      refine Ends.go (fun _ k => XS.sipush X140.here hx rfl (hb hby d11_79) k) ?_
      refine Ends.go (fun _ k => XS.iand X140.here hx rfl (hb hby d11_82) rfl k) ?_
      obtain ⟨cl190, Ar190, S190, H190⟩ := id M0
      have hin190 := inb_of (j := (u6_ &&& (255 : Int32))) S190 (own_in255 u6_)
      refine Ends.go (X140.laload hx (j := (u6_ &&& (255 : Int32))) (v := (.long (f_ ((u6_ &&& (255 : Int32)).toNatClampNeg)))) (by rw [e140]; exact Ar190.1) (State.isArrayOf_alike hZ.alike Ar190.2.1) Ar190.2.2 hin190 (H190 _ (Nat.lt_of_not_le fun y => hin190 (Or.inr y))) (g := (mkF m 83 #[.val (.ref rd_), .val (.ref sc_), .val (.ref bf_), .val (.long q_), .second, .val (.int m_), .val (.ref ms_), .val (.long (4 : Int64)), .second, .val (.int (8 : Int32)), .val (.long (-1 : Int64)), .second, .val (.int (6 : Int32)), .unset, .unset] [(.int (u6_ &&& (255 : Int32))), (.ref ms_), (.long (-2 : Int64))])) rfl rfl (hb hby d11_83)) ?_
      show Ends p e below s T140 (mkF m 84 #[.val (.ref rd_), .val (.ref sc_), .val (.ref bf_), .val (.long q_), .second, .val (.int m_), .val (.ref ms_), .val (.long (4 : Int64)), .second, .val (.int (8 : Int32)), .val (.long (-1 : Int64)), .second, .val (.int (6 : Int32)), .unset, .unset] [(.long (f_ ((u6_ &&& (255 : Int32)).toNatClampNeg))), (.long (-2 : Int64))]) _ _ _
      refine Ends.go (fun _ k => XS.lor X140.here hx rfl (hb hby d11_84) rfl k) ?_
      refine Ends.go (fun _ k => XS.lstore X140.here hx rfl (hb hby d11_85) rfl (l' := #[.val (.ref rd_), .val (.ref sc_), .val (.ref bf_), .val (.long q_), .second, .val (.int m_), .val (.ref ms_), .val (.long (4 : Int64)), .second, .val (.int (8 : Int32)), .val (.long ((-2 : Int64) ||| (f_ ((u6_ &&& (255 : Int32)).toNatClampNeg)))), .second, .val (.int (6 : Int32)), .unset, .unset]) rfl k) ?_
      refine Ends.go (fun _ k => XS.iinc X140.here hx rfl (hb hby d11_87) rfl (l' := #[.val (.ref rd_), .val (.ref sc_), .val (.ref bf_), .val (.long q_), .second, .val (.int m_), .val (.ref ms_), .val (.long (4 : Int64)), .second, .val (.int (8 : Int32)), .val (.long ((-2 : Int64) ||| (f_ ((u6_ &&& (255 : Int32)).toNatClampNeg)))), .second, .val (.int (7 : Int32)), .unset, .unset]) rfl k) ?_
      refine Ends.go (fun _ k => XS.goto X140.here hx rfl (pc0 := 90) (pc' := 62) rfl (hb hby d11_90) (by decide) (by decide) k) ?_
      show Ends p e below s T140 (mkF m 62 #[.val (.ref rd_), .val (.ref sc_), .val (.ref bf_), .val (.long q_), .second, .val (.int m_), .val (.ref ms_), .val (.long (4 : Int64)), .second, .val (.int (8 : Int32)), .val (.long ((-2 : Int64) ||| (f_ ((u6_ &&& (255 : Int32)).toNatClampNeg)))), .second, .val (.int (7 : Int32)), .unset, .unset] []) _ _ _
      refine Ends.go (fun _ k => XS.iload X140.here hx rfl (hb hby d11_62) rfl k) ?_
      refine Ends.go (fun _ k => XS.iload X140.here hx rfl (hb hby d11_64) rfl k) ?_
      refine Ends.go (fun _ k => XS.icmpNo X140.here hx rfl (hb hby d11_66) rfl (tlt (by decide : (7 : Int32) < (8 : Int32))).2.1 k) ?_
      refine Ends.go (fun _ k => XS.lload X140.here hx rfl (hb hby d11_69) rfl k) ?_
      show Ends p e below s T140 (mkF m 71 #[.val (.ref rd_), .val (.ref sc_), .val (.ref bf_), .val (.long q_), .second, .val (.int m_), .val (.ref ms_), .val (.long (4 : Int64)), .second, .val (.int (8 : Int32)), .val (.long ((-2 : Int64) ||| (f_ ((u6_ &&& (255 : Int32)).toNatClampNeg)))), .second, .val (.int (7 : Int32)), .unset, .unset] [(.long ((-2 : Int64) ||| (f_ ((u6_ &&& (255 : Int32)).toNatClampNeg))))]) _ _ _
      refine Ends.go (fun _ k => XS.iconst X140.here hx rfl (hb hby d11_71) k) ?_
      refine Ends.go (fun _ k => XS.lshl X140.here hx rfl (hb hby d11_72) rfl k) ?_
      refine Ends.go (fun _ k => XS.aload X140.here hx rfl (hb hby d11_73) rfl rfl k) ?_
      refine Ends.go (fun _ k => XS.aloadN X140.here hx rfl (hb hby d11_75) rfl rfl k) ?_
      show Ends p e below s T140 (mkF m 76 #[.val (.ref rd_), .val (.ref sc_), .val (.ref bf_), .val (.long q_), .second, .val (.int m_), .val (.ref ms_), .val (.long (4 : Int64)), .second, .val (.int (8 : Int32)), .val (.long ((-2 : Int64) ||| (f_ ((u6_ &&& (255 : Int32)).toNatClampNeg)))), .second, .val (.int (7 : Int32)), .unset, .unset] [(.ref bf_), (.ref ms_), (.long (((-2 : Int64) ||| (f_ ((u6_ &&& (255 : Int32)).toNatClampNeg))) <<< ((1 : Int32) &&& 0x3f).toInt64))]) _ _ _
      refine Ends.go (fun _ k => XS.iload X140.here hx rfl (hb hby d11_76) rfl k) ?_
      obtain ⟨cl191, Ar191, q191, S191, M191, H191, G191⟩ := id Vb
      have hin191 := inb_of (j := (7 : Int32)) S191 ⟨by decide, by decide⟩
      refine Ends.go (X140.baloadBytes hx (j := (7 : Int32)) (v := (.int u7_)) (by rw [e140]; exact Ar191.1) (State.isArrayOf_alike hZ.alike Ar191.2.1) Ar191.2.2 hin191 (H191.at hin191 rfl) (g := (mkF m 78 #[.val (.ref rd_), .val (.ref sc_), .val (.ref bf_), .val (.long q_), .second, .val (.int m_), .val (.ref ms_), .val (.long (4 : Int64)), .second, .val (.int (8 : Int32)), .val (.long ((-2 : Int64) ||| (f_ ((u6_ &&& (255 : Int32)).toNatClampNeg)))), .second, .val (.int (7 : Int32)), .unset, .unset] [(.int (7 : Int32)), (.ref bf_), (.ref ms_), (.long (((-2 : Int64) ||| (f_ ((u6_ &&& (255 : Int32)).toNatClampNeg))) <<< ((1 : Int32) &&& 0x3f).toInt64))])) rfl rfl (hb hby d11_78)) ?_
      refine Ends.go (fun _ k => XS.sipush X140.here hx rfl (hb hby d11_79) k) ?_
      refine Ends.go (fun _ k => XS.iand X140.here hx rfl (hb hby d11_82) rfl k) ?_
      show Ends p e below s T140 (mkF m 83 #[.val (.ref rd_), .val (.ref sc_), .val (.ref bf_), .val (.long q_), .second, .val (.int m_), .val (.ref ms_), .val (.long (4 : Int64)), .second, .val (.int (8 : Int32)), .val (.long ((-2 : Int64) ||| (f_ ((u6_ &&& (255 : Int32)).toNatClampNeg)))), .second, .val (.int (7 : Int32)), .unset, .unset] [(.int (u7_ &&& (255 : Int32))), (.ref ms_), (.long (((-2 : Int64) ||| (f_ ((u6_ &&& (255 : Int32)).toNatClampNeg))) <<< ((1 : Int32) &&& 0x3f).toInt64))]) _ _ _
      obtain ⟨cl192, Ar192, S192, H192⟩ := id M0
      have hin192 := inb_of (j := (u7_ &&& (255 : Int32))) S192 (own_in255 u7_)
      refine Ends.go (X140.laload hx (j := (u7_ &&& (255 : Int32))) (v := (.long (f_ ((u7_ &&& (255 : Int32)).toNatClampNeg)))) (by rw [e140]; exact Ar192.1) (State.isArrayOf_alike hZ.alike Ar192.2.1) Ar192.2.2 hin192 (H192 _ (Nat.lt_of_not_le fun y => hin192 (Or.inr y))) (g := (mkF m 83 #[.val (.ref rd_), .val (.ref sc_), .val (.ref bf_), .val (.long q_), .second, .val (.int m_), .val (.ref ms_), .val (.long (4 : Int64)), .second, .val (.int (8 : Int32)), .val (.long ((-2 : Int64) ||| (f_ ((u6_ &&& (255 : Int32)).toNatClampNeg)))), .second, .val (.int (7 : Int32)), .unset, .unset] [(.int (u7_ &&& (255 : Int32))), (.ref ms_), (.long (((-2 : Int64) ||| (f_ ((u6_ &&& (255 : Int32)).toNatClampNeg))) <<< ((1 : Int32) &&& 0x3f).toInt64))])) rfl rfl (hb hby d11_83)) ?_
      refine Ends.go (fun _ k => XS.lor X140.here hx rfl (hb hby d11_84) rfl k) ?_
      refine Ends.go (fun _ k => XS.lstore X140.here hx rfl (hb hby d11_85) rfl (l' := #[.val (.ref rd_), .val (.ref sc_), .val (.ref bf_), .val (.long q_), .second, .val (.int m_), .val (.ref ms_), .val (.long (4 : Int64)), .second, .val (.int (8 : Int32)), .val (.long ((((-2 : Int64) ||| (f_ ((u6_ &&& (255 : Int32)).toNatClampNeg))) <<< ((1 : Int32) &&& 0x3f).toInt64) ||| (f_ ((u7_ &&& (255 : Int32)).toNatClampNeg)))), .second, .val (.int (7 : Int32)), .unset, .unset]) rfl k) ?_
      refine Ends.go (fun _ k => XS.iinc X140.here hx rfl (hb hby d11_87) rfl (l' := #[.val (.ref rd_), .val (.ref sc_), .val (.ref bf_), .val (.long q_), .second, .val (.int m_), .val (.ref ms_), .val (.long (4 : Int64)), .second, .val (.int (8 : Int32)), .val (.long ((((-2 : Int64) ||| (f_ ((u6_ &&& (255 : Int32)).toNatClampNeg))) <<< ((1 : Int32) &&& 0x3f).toInt64) ||| (f_ ((u7_ &&& (255 : Int32)).toNatClampNeg)))), .second, .val (.int (8 : Int32)), .unset, .unset]) rfl k) ?_
      show Ends p e below s T140 (mkF m 90 #[.val (.ref rd_), .val (.ref sc_), .val (.ref bf_), .val (.long q_), .second, .val (.int m_), .val (.ref ms_), .val (.long (4 : Int64)), .second, .val (.int (8 : Int32)), .val (.long ((((-2 : Int64) ||| (f_ ((u6_ &&& (255 : Int32)).toNatClampNeg))) <<< ((1 : Int32) &&& 0x3f).toInt64) ||| (f_ ((u7_ &&& (255 : Int32)).toNatClampNeg)))), .second, .val (.int (8 : Int32)), .unset, .unset] []) _ _ _
      refine Ends.go (fun _ k => XS.goto X140.here hx rfl (pc0 := 90) (pc' := 62) rfl (hb hby d11_90) (by decide) (by decide) k) ?_
      refine Ends.go (fun _ k => XS.iload X140.here hx rfl (hb hby d11_62) rfl k) ?_
      refine Ends.go (fun _ k => XS.iload X140.here hx rfl (hb hby d11_64) rfl k) ?_
      refine Ends.go (fun _ k => XS.icmpYes X140.here hx rfl (pc0 := 66) (pc' := 93) rfl (hb hby d11_66) rfl (flt (by decide : ¬ ((8 : Int32) < (8 : Int32)))).2.1 (by decide) (by decide) k) ?_
      show Ends p e below s T140 (mkF m 93 #[.val (.ref rd_), .val (.ref sc_), .val (.ref bf_), .val (.long q_), .second, .val (.int m_), .val (.ref ms_), .val (.long (4 : Int64)), .second, .val (.int (8 : Int32)), .val (.long ((((-2 : Int64) ||| (f_ ((u6_ &&& (255 : Int32)).toNatClampNeg))) <<< ((1 : Int32) &&& 0x3f).toInt64) ||| (f_ ((u7_ &&& (255 : Int32)).toNatClampNeg)))), .second, .val (.int (8 : Int32)), .unset, .unset] []) _ _ _
      refine Ends.go (fun _ k => XS.aloadN X140.here hx rfl (hb hby d11_93) rfl rfl k) ?_
      refine Ends.go (fun _ k => XS.dup X140.here hx rfl (hb hby d11_94) rfl rfl k) ?_
      obtain ⟨T193, X193, e193, st193⟩ := getF X140 hx hZ hown (host := "") (Or.inl (ow hw 117 rfl)) Via.refl e140 Fd (g := (mkF m 95 #[.val (.ref rd_), .val (.ref sc_), .val (.ref bf_), .val (.long q_), .second, .val (.int m_), .val (.ref ms_), .val (.long (4 : Int64)), .second, .val (.int (8 : Int32)), .val (.long ((((-2 : Int64) ||| (f_ ((u6_ &&& (255 : Int32)).toNatClampNeg))) <<< ((1 : Int32) &&& 0x3f).toInt64) ||| (f_ ((u7_ &&& (255 : Int32)).toNatClampNeg)))), .second, .val (.int (8 : Int32)), .unset, .unset] [(.ref sc_), (.ref sc_)])) rfl rfl (hb hby d11_95)
      refine Ends.go st193 ?_
      refine Ends.go (fun _ k => XS.aloadN X193.here hx rfl (hb hby d11_98) rfl rfl k) ?_
      show Ends p e below s T193 (mkF m 99 #[.val (.ref rd_), .val (.ref sc_), .val (.ref bf_), .val (.long q_), .second, .val (.int m_), .val (.ref ms_), .val (.long (4 : Int64)), .second, .val (.int (8 : Int32)), .val (.long ((((-2 : Int64) ||| (f_ ((u6_ &&& (255 : Int32)).toNatClampNeg))) <<< ((1 : Int32) &&& 0x3f).toInt64) ||| (f_ ((u7_ &&& (255 : Int32)).toNatClampNeg)))), .second, .val (.int (8 : Int32)), .unset, .unset] [(.ref rd_), (.long d_), (.ref sc_)]) _ _ _
      obtain ⟨T194, X194, e194, st194⟩ := getF X193 hx hZ hown (host := "") (Or.inl (ow hw 44 rfl)) Via.refl e193 Ft (g := (mkF m 99 #[.val (.ref rd_), .val (.ref sc_), .val (.ref bf_), .val (.long q_), .second, .val (.int m_), .val (.ref ms_), .val (.long (4 : Int64)), .second, .val (.int (8 : Int32)), .val (.long ((((-2 : Int64) ||| (f_ ((u6_ &&& (255 : Int32)).toNatClampNeg))) <<< ((1 : Int32) &&& 0x3f).toInt64) ||| (f_ ((u7_ &&& (255 : Int32)).toNatClampNeg)))), .second, .val (.int (8 : Int32)), .unset, .unset] [(.ref rd_), (.long d_), (.ref sc_)])) rfl rfl (hb hby d11_99)
      refine Ends.go st194 ?_
      obtain ⟨T195, X195, e195, st195⟩ := getF X194 hx hZ hown (Or.inr (ow hw 116 rfl)) Via.refl e194 Fk (g := (mkF m 102 #[.val (.ref rd_), .val (.ref sc_), .val (.ref bf_), .val (.long q_), .second, .val (.int m_), .val (.ref ms_), .val (.long (4 : Int64)), .second, .val (.int (8 : Int32)), .val (.long ((((-2 : Int64) ||| (f_ ((u6_ &&& (255 : Int32)).toNatClampNeg))) <<< ((1 : Int32) &&& 0x3f).toInt64) ||| (f_ ((u7_ &&& (255 : Int32)).toNatClampNeg)))), .second, .val (.int (8 : Int32)), .unset, .unset] [(.ref so_), (.long d_), (.ref sc_)])) rfl rfl (hb hby d11_102)
      refine Ends.go st195 ?_
      refine Ends.go (fun _ k => XS.i2l X195.here hx rfl (hb hby d11_105) rfl k) ?_
      refine Ends.go (fun _ k => XS.ladd X195.here hx rfl (hb hby d11_106) rfl k) ?_
      show Ends p e below s T195 (mkF m 107 #[.val (.ref rd_), .val (.ref sc_), .val (.ref bf_), .val (.long q_), .second, .val (.int m_), .val (.ref ms_), .val (.long (4 : Int64)), .second, .val (.int (8 : Int32)), .val (.long ((((-2 : Int64) ||| (f_ ((u6_ &&& (255 : Int32)).toNatClampNeg))) <<< ((1 : Int32) &&& 0x3f).toInt64) ||| (f_ ((u7_ &&& (255 : Int32)).toNatClampNeg)))), .second, .val (.int (8 : Int32)), .unset, .unset] [(.long (d_ + (2 : Int64))), (.ref sc_)]) _ _ _
      obtain ⟨T196, h196, X196, e196, W196, st196⟩ := putF X195 hx hZ hown (host := "") (Or.inl (ow hw 117 rfl)) Via.refl e195 Fd Es (Or.inl (ow hw 118 rfl)) (ow hw 47 rfl) (ty := .long) (by decide) rfl rfl (g := (mkF m 107 #[.val (.ref rd_), .val (.ref sc_), .val (.ref bf_), .val (.long q_), .second, .val (.int m_), .val (.ref ms_), .val (.long (4 : Int64)), .second, .val (.int (8 : Int32)), .val (.long ((((-2 : Int64) ||| (f_ ((u6_ &&& (255 : Int32)).toNatClampNeg))) <<< ((1 : Int32) &&& 0x3f).toInt64) ||| (f_ ((u7_ &&& (255 : Int32)).toNatClampNeg)))), .second, .val (.int (8 : Int32)), .unset, .unset] [(.long (d_ + (2 : Int64))), (.ref sc_)])) rfl rfl (hb hby d11_107)
      refine Ends.go st196 ?_
      have Fw196 := Fd.same W196
      have K196 := K0.wr W196 (Or.inl (List.mem_of_getElem? (i := 1) rfl))
      have O196 := O0.wr W196 g_sc_
      have N196 := Fr.snoc X196 N0 g_sc_
      refine Ends.go (fun _ k => XS.iload X196.here hx rfl (hb hby d11_110) rfl k) ?_
      refine Ends.go (fun _ k => XS.istore X196.here hx rfl (hb hby d11_112) rfl (l' := #[.val (.ref rd_), .val (.ref sc_), .val (.ref bf_), .val (.long q_), .second, .val (.int m_), .val (.ref ms_), .val (.long (4 : Int64)), .second, .val (.int (8 : Int32)), .val (.long ((((-2 : Int64) ||| (f_ ((u6_ &&& (255 : Int32)).toNatClampNeg))) <<< ((1 : Int32) &&& 0x3f).toInt64) ||| (f_ ((u7_ &&& (255 : Int32)).toNatClampNeg)))), .second, .val (.int m_), .unset, .unset]) rfl k) ?_
      refine Ends.go (fun _ k => XS.iconst X196.here hx rfl (hb hby d11_114) k) ?_
      show Ends p e below s T196 (mkF m 115 #[.val (.ref rd_), .val (.ref sc_), .val (.ref bf_), .val (.long q_), .second, .val (.int m_), .val (.ref ms_), .val (.long (4 : Int64)), .second, .val (.int (8 : Int32)), .val (.long ((((-2 : Int64) ||| (f_ ((u6_ &&& (255 : Int32)).toNatClampNeg))) <<< ((1 : Int32) &&& 0x3f).toInt64) ||| (f_ ((u7_ &&& (255 : Int32)).toNatClampNeg)))), .second, .val (.int m_), .unset, .unset] [(.int (-1 : Int32))]) _ _ _
      refine Ends.go (fun _ k => XS.istore X196.here hx rfl (hb hby d11_115) rfl (l' := #[.val (.ref rd_), .val (.ref sc_), .val (.ref bf_), .val (.long q_), .second, .val (.int m_), .val (.ref ms_), .val (.long (4 : Int64)), .second, .val (.int (8 : Int32)), .val (.long ((((-2 : Int64) ||| (f_ ((u6_ &&& (255 : Int32)).toNatClampNeg))) <<< ((1 : Int32) &&& 0x3f).toInt64) ||| (f_ ((u7_ &&& (255 : Int32)).toNatClampNeg)))), .second, .val (.int m_), .val (.int (-1 : Int32)), .unset]) rfl k) ?_
      refine Ends.go (fun _ k => XS.iload X196.here hx rfl (hb hby d11_117) rfl k) ?_
      refine Ends.go (fun _ k => XS.istore X196.here hx rfl (hb hby d11_119) rfl (l' := #[.val (.ref rd_), .val (.ref sc_), .val (.ref bf_), .val (.long q_), .second, .val (.int m_), .val (.ref ms_), .val (.long (4 : Int64)), .second, .val (.int (8 : Int32)), .val (.long ((((-2 : Int64) ||| (f_ ((u6_ &&& (255 : Int32)).toNatClampNeg))) <<< ((1 : Int32) &&& 0x3f).toInt64) ||| (f_ ((u7_ &&& (255 : Int32)).toNatClampNeg)))), .second, .val (.int m_), .val (.int (-1 : Int32)), .val (.int (8 : Int32))]) rfl k) ?_
      exact J121_8 _ _ _ _ _ _ _ _ X196 e196 O196 N196 K196 (Er.wr W196) (Es.wr W196) (Ft.other W196 (Or.inl ne_rd_sc_)) (Fh.other W196 (Or.inl ne_rd_sc_)) (Fe.other W196 (Or.inl ne_rd_sc_)) (Fi.other W196 (Or.inr (slot_ne (Or.inl (ow hw 92 rfl)) (Or.inl (ow hw 118 rfl)) (by decide) (t := .long) (t' := .long) (by decide) (by decide)))) Fw196 (Vb.other W196 (Ne.symm ne_sc_bf_)) (M0.other W196 (Ne.symm ne_sc_ms_)) (if_neg (fun z => hc42_138 ((lw_eq _ _).mpr z))).symm (own_two hm hu6_ hu7_) hr (own_nlt hl.1)
theorem d7_0 : decode prog_47_method_1_code 0 = .ok (.aload_n 0, 1) := by decide +kernel
theorem d7_1 : decode prog_47_method_1_code 1 = .ok (.invokespecial 1, 3) := by decide +kernel
theorem d7_4 : decode prog_47_method_1_code 4 = .ok (.aload_n 0, 1) := by decide +kernel
theorem d7_5 : decode prog_47_method_1_code 5 = .ok (.ldc2_w 7, 3) := by decide +kernel
theorem d7_8 : decode prog_47_method_1_code 8 = .ok (.putfield 9, 3) := by decide +kernel
theorem d7_11 : decode prog_47_method_1_code 11 = .ok (.aload_n 0, 1) := by decide +kernel
theorem d7_12 : decode prog_47_method_1_code 12 = .ok (.aload_n 1, 1) := by decide +kernel
theorem d7_13 : decode prog_47_method_1_code 13 = .ok (.putfield 15, 3) := by decide +kernel
theorem d7_16 : decode prog_47_method_1_code 16 = .ok (.return_, 1) := by decide +kernel
theorem pn7 : plainName "com/example/sindano/sindano/boyermoore/ShiftOr$Reading" = true := by first | (simp [plainName, overriddenIn]; done) | decide +kernel
theorem pdx_2 : parseMethodDescriptor "(IIBB)B" = some ⟨[.int, .int, .byte, .byte], some .byte⟩ := by decide +kernel
theorem pdx_3 : parseMethodDescriptor "([B[BII)I" = some ⟨[(.array .byte), (.array .byte), .int, .int], some .int⟩ := by decide +kernel
theorem pdx_4 : parseMethodDescriptor "([B)V" = some ⟨[(.array .byte)], none⟩ := by decide +kernel
theorem ef7_rr (m : MethodId) (x0 : Addr) (x1 : Addr) : entryFrame m #[(.ref x0), (.ref x1)] 2 = mkF m 0 #[.val (.ref x0), .val (.ref x1)] [] := by first | (simp [entryFrame, mkF, argsToLocals, Value.category]; done) | rfl
set_option maxRecDepth 65536 in
set_option maxHeartbeats 40000000 in
theorem rx7_225 (l : Launch) (Z : State) (a0 : Array Value) (hw : ∀ d ∈ tables_1, d.before a0 Z = true) (ws : List Jvm.Cond) (n0 : Nat) (h0 : Heap) (O0 : Old Z n0 h0)  (b224 : Addr) (b222 : Addr) (PE_b224 : Exa Z h0 b224 "com/example/sindano/sindano/boyermoore/ShiftOr$Reading") (PF_b224_through : Fld Z h0 b224 "com/example/sindano/sindano/boyermoore/ShiftOr$Reading" "through" "J" (.long (0 : Int64))) (PF_b224_table : Fld Z h0 b224 "com/example/sindano/sindano/boyermoore/ShiftOr$Reading" "table" "Lcom/example/sindano/sindano/boyermoore/ShiftOr;" .null) (PF_b224_ending : Fld Z h0 b224 "com/example/sindano/sindano/boyermoore/ShiftOr$Reading" "ending" "J" (.long (0 : Int64))) (g_b224 : n0 ≤ b224) :
    Meets1 l (⟨"com/example/sindano/sindano/boyermoore/ShiftOr$Reading", "<init>", "(Lcom/example/sindano/sindano/boyermoore/ShiftOr;)V"⟩ : MethodName) prog_47_method_1_code 2 none ws ({ frames := 1, cells := 0, slots := 0, locals := 12 } : Room) #[(.ref b224), (.ref b222)] Z h0 (fun v h L => v = none ∧ Fr n0 L ∧ Keep h0 h [b224] ∧ Fld Z h b224 "com/example/sindano/sindano/boyermoore/ShiftOr$Reading" "through" "J" (.long (-1 : Int64)) ∧ Fld Z h b224 "com/example/sindano/sindano/boyermoore/ShiftOr$Reading" "table" "Lcom/example/sindano/sindano/boyermoore/ShiftOr;" (.ref b222) ∧ Fld Z h b224 "com/example/sindano/sindano/boyermoore/ShiftOr$Reading" "ending" "J" (.long (0 : Int64))) := by
  refine MetFree.of_bodySF (plainFor_of_name pn7) hisR ?_
  intro p e s m args below meth c s₁ Bd hml0 hP hK
  obtain ⟨rfl, hZ, hh⟩ := hP
  have hx := Bd.exec
  have hby := Bd.bytes
  have hml : c.maxLocals = 2 := hml0
  have hown : s.vm.findClass "com/example/sindano/sindano/boyermoore/ShiftOr$Reading" = some m.cls := findClass_of_methodNamed Bd.named
  have hnm := (name_of_methodNamed Bd.named Bd.method).1
  have X0 : Stand p l e ({ frames := 1, cells := 0, slots := 0, locals := 12 } : Room) s m #[(.ref b224), (.ref b222)] below meth c s₁ [] 0 0 := Stand.of_body Bd
  have e0 : s₁.heap = h0 := by rw [← hh, Bd.state]; rfl
  have N0 := Fr.nil n0
  have Z0 := own_old_le O0
  show Ends p e below s s₁ (entryFrame m #[(.ref b224), (.ref b222)] 2) ({ frames := 1, cells := 0, slots := 0, locals := 12 } : Room).cells ({ frames := 1, cells := 0, slots := 0, locals := 12 } : Room).slots (fun v h L => v = none ∧ Fr n0 L ∧ Keep h0 h [b224] ∧ Fld Z h b224 "com/example/sindano/sindano/boyermoore/ShiftOr$Reading" "through" "J" (.long (-1 : Int64)) ∧ Fld Z h b224 "com/example/sindano/sindano/boyermoore/ShiftOr$Reading" "table" "Lcom/example/sindano/sindano/boyermoore/ShiftOr;" (.ref b222) ∧ Fld Z h b224 "com/example/sindano/sindano/boyermoore/ShiftOr$Reading" "ending" "J" (.long (0 : Int64)))
  refine Ends.go (fun _ k => castTop (ef7_rr m b224 b222) k) ?_
  have K0 := Keep.refl h0 [b224]
  show Ends p e below s s₁ (mkF m 0 #[.val (.ref b224), .val (.ref b222)] []) _ _ _
  refine Ends.go (fun _ k => XS.aloadN X0.here hx rfl (hb hby d7_0) rfl rfl k) ?_
  obtain ⟨T226, X226, e226, st226⟩ := initO X0 hx hZ hown (ow hw 40 rfl) (ow hw 20 rfl) (ow hw 21 rfl) e0 (g := (mkF m 1 #[.val (.ref b224), .val (.ref b222)] [(.ref b224)])) rfl (by rw [hml]; rfl) rfl (hb hby d7_1) (by decide) (W := 0) (by show 2 * 0 + _ ≤ _; exact Nat.le_of_eq rfl) (by decide)
  refine Ends.go st226 ?_
  refine Ends.go (fun _ k => XS.aloadN X226.here hx rfl (hb hby d7_4) rfl rfl k) ?_
  show Ends p e below s T226 (mkF m 5 #[.val (.ref b224), .val (.ref b222)] [(.ref b224)]) _ _ _
  refine Ends.go (X226.ldc2Long hx hown (mvT hZ (ow hw 41 rfl)) (g := (mkF m 5 #[.val (.ref b224), .val (.ref b222)] [(.ref b224)])) rfl (hb hby d7_5)) ?_
  obtain ⟨T227, h227, X227, e227, W227, st227⟩ := putF X226 hx hZ hown (host := "") (Or.inl (ow hw 42 rfl)) Via.refl e226 PF_b224_through PE_b224 (Or.inl (ow hw 43 rfl)) (ow hw 35 rfl) (ty := .long) (by decide) rfl rfl (g := (mkF m 8 #[.val (.ref b224), .val (.ref b222)] [(.long (-1 : Int64)), (.ref b224)])) rfl rfl (hb hby d7_8)
  refine Ends.go st227 ?_
  have Fw227 := PF_b224_through.same W227
  have K227 := K0.wr W227 (Or.inl (List.mem_of_getElem? (i := 0) rfl))
  have O227 := O0.wr W227 g_b224
  have N227 := Fr.snoc X227 N0 g_b224
  refine Ends.go (fun _ k => XS.aloadN X227.here hx rfl (hb hby d7_11) rfl rfl k) ?_
  refine Ends.go (fun _ k => XS.aloadN X227.here hx rfl (hb hby d7_12) rfl rfl k) ?_
  show Ends p e below s T227 (mkF m 13 #[.val (.ref b224), .val (.ref b222)] [(.ref b222), (.ref b224)]) _ _ _
  obtain ⟨T228, h228, X228, e228, W228, st228⟩ := putF X227 hx hZ hown (host := "") (Or.inl (ow hw 44 rfl)) Via.refl e227 (PF_b224_table.other W227 (Or.inr (slot_ne (Or.inr (ow hw 45 rfl)) (Or.inl (ow hw 43 rfl)) (by decide) (t := (.object "com/example/sindano/sindano/boyermoore/ShiftOr")) (t' := .long) (by decide) (by decide)))) (PE_b224.wr W227) (Or.inr ⟨(ow hw 45 rfl), rfl, hnm⟩) (ow hw 35 rfl) (ty := (.object "com/example/sindano/sindano/boyermoore/ShiftOr")) (by decide) rfl rfl (g := (mkF m 13 #[.val (.ref b224), .val (.ref b222)] [(.ref b222), (.ref b224)])) rfl rfl (hb hby d7_13)
  refine Ends.go st228 ?_
  have Fw228 := (PF_b224_table.other W227 (Or.inr (slot_ne (Or.inr (ow hw 45 rfl)) (Or.inl (ow hw 43 rfl)) (by decide) (t := (.object "com/example/sindano/sindano/boyermoore/ShiftOr")) (t' := .long) (by decide) (by decide)))).same W228
  have K228 := K227.wr W228 (Or.inl (List.mem_of_getElem? (i := 0) rfl))
  have O228 := O227.wr W228 g_b224
  have N228 := Fr.snoc X228 N227 g_b224
  refine Ends.retV X228 hx Bd.notSynchronized Bd.returns (hb hby d7_16) (by decide) (by decide) ?_
  rw [e228]
  exact ⟨rfl, N228, K228, (Fw227.other W228 (Or.inr (slot_ne (Or.inl (ow hw 43 rfl)) (Or.inr (ow hw 45 rfl)) (by decide) (t := .long) (t' := (.object "com/example/sindano/sindano/boyermoore/ShiftOr")) (by decide) (by decide)))), Fw228, ((PF_b224_ending.other W227 (Or.inr (slot_ne (Or.inl (ow hw 115 rfl)) (Or.inl (ow hw 43 rfl)) (by decide) (t := .long) (t' := .long) (by decide) (by decide)))).other W228 (Or.inr (slot_ne (Or.inl (ow hw 115 rfl)) (Or.inr (ow hw 45 rfl)) (by decide) (t := .long) (t' := (.object "com/example/sindano/sindano/boyermoore/ShiftOr")) (by decide) (by decide))))⟩

theorem d8_0 : decode prog_51_method_1_code 0 = .ok (.aload_n 0, 1) := by decide +kernel
theorem d8_1 : decode prog_51_method_1_code 1 = .ok (.invokespecial 3, 3) := by decide +kernel
theorem d8_4 : decode prog_51_method_1_code 4 = .ok (.aload_n 0, 1) := by decide +kernel
theorem d8_5 : decode prog_51_method_1_code 5 = .ok (.iload_n 1, 1) := by decide +kernel
theorem d8_6 : decode prog_51_method_1_code 6 = .ok (.putfield 9, 3) := by decide +kernel
theorem d8_9 : decode prog_51_method_1_code 9 = .ok (.aload_n 0, 1) := by decide +kernel
theorem d8_10 : decode prog_51_method_1_code 10 = .ok (.aload_n 2, 1) := by decide +kernel
theorem d8_11 : decode prog_51_method_1_code 11 = .ok (.putfield 15, 3) := by decide +kernel
theorem d8_14 : decode prog_51_method_1_code 14 = .ok (.aload_n 0, 1) := by decide +kernel
theorem d8_15 : decode prog_51_method_1_code 15 = .ok (.aload_n 3, 1) := by decide +kernel
theorem d8_16 : decode prog_51_method_1_code 16 = .ok (.putfield 19, 3) := by decide +kernel
theorem d8_19 : decode prog_51_method_1_code 19 = .ok (.aload_n 0, 1) := by decide +kernel
theorem d8_20 : decode prog_51_method_1_code 20 = .ok (.iload 4, 2) := by decide +kernel
theorem d8_22 : decode prog_51_method_1_code 22 = .ok (.putfield 22, 3) := by decide +kernel
theorem d8_25 : decode prog_51_method_1_code 25 = .ok (.aload_n 0, 1) := by decide +kernel
theorem d8_26 : decode prog_51_method_1_code 26 = .ok (.iload_n 1, 1) := by decide +kernel
theorem d8_27 : decode prog_51_method_1_code 27 = .ok (.sipush 16384, 3) := by decide +kernel
theorem d8_30 : decode prog_51_method_1_code 30 = .ok (.iload_n 1, 1) := by decide +kernel
theorem d8_31 : decode prog_51_method_1_code 31 = .ok (.iadd, 1) := by decide +kernel
theorem d8_32 : decode prog_51_method_1_code 32 = .ok (.iconst 1, 1) := by decide +kernel
theorem d8_33 : decode prog_51_method_1_code 33 = .ok (.isub, 1) := by decide +kernel
theorem d8_34 : decode prog_51_method_1_code 34 = .ok (.iload_n 1, 1) := by decide +kernel
theorem d8_35 : decode prog_51_method_1_code 35 = .ok (.idiv, 1) := by decide +kernel
theorem d8_36 : decode prog_51_method_1_code 36 = .ok (.imul, 1) := by decide +kernel
theorem d8_37 : decode prog_51_method_1_code 37 = .ok (.putfield 26, 3) := by decide +kernel
theorem d8_40 : decode prog_51_method_1_code 40 = .ok (.aload_n 0, 1) := by decide +kernel
theorem d8_41 : decode prog_51_method_1_code 41 = .ok (.aload_n 0, 1) := by decide +kernel
theorem d8_42 : decode prog_51_method_1_code 42 = .ok (.getfield 26, 3) := by decide +kernel
theorem d8_45 : decode prog_51_method_1_code 45 = .ok (.iload_n 1, 1) := by decide +kernel
theorem d8_46 : decode prog_51_method_1_code 46 = .ok (.idiv, 1) := by decide +kernel
theorem d8_47 : decode prog_51_method_1_code 47 = .ok (.putfield 29, 3) := by decide +kernel
theorem d8_50 : decode prog_51_method_1_code 50 = .ok (.aload_n 0, 1) := by decide +kernel
theorem d8_51 : decode prog_51_method_1_code 51 = .ok (.aload_n 2, 1) := by decide +kernel
theorem d8_52 : decode prog_51_method_1_code 52 = .ok (.ifnonnull 9, 3) := by decide +kernel
theorem d8_55 : decode prog_51_method_1_code 55 = .ok (.ldc2_w 32, 3) := by decide +kernel
theorem d8_58 : decode prog_51_method_1_code 58 = .ok (.goto 14, 3) := by decide +kernel
theorem d8_72 : decode prog_51_method_1_code 72 = .ok (.putfield 40, 3) := by decide +kernel
theorem d8_75 : decode prog_51_method_1_code 75 = .ok (.aload_n 0, 1) := by decide +kernel
theorem d8_76 : decode prog_51_method_1_code 76 = .ok (.aload_n 0, 1) := by decide +kernel
theorem d8_77 : decode prog_51_method_1_code 77 = .ok (.getfield 26, 3) := by decide +kernel
theorem d8_80 : decode prog_51_method_1_code 80 = .ok (.iconst 4, 1) := by decide +kernel
theorem d8_81 : decode prog_51_method_1_code 81 = .ok (.idiv, 1) := by decide +kernel
theorem d8_82 : decode prog_51_method_1_code 82 = .ok (.putfield 44, 3) := by decide +kernel
theorem d8_85 : decode prog_51_method_1_code 85 = .ok (.aload_n 0, 1) := by decide +kernel
theorem d8_86 : decode prog_51_method_1_code 86 = .ok (.aload_n 0, 1) := by decide +kernel
theorem d8_87 : decode prog_51_method_1_code 87 = .ok (.getfield 26, 3) := by decide +kernel
theorem d8_90 : decode prog_51_method_1_code 90 = .ok (.iconst 2, 1) := by decide +kernel
theorem d8_91 : decode prog_51_method_1_code 91 = .ok (.idiv, 1) := by decide +kernel
theorem d8_92 : decode prog_51_method_1_code 92 = .ok (.putfield 47, 3) := by decide +kernel
theorem d8_95 : decode prog_51_method_1_code 95 = .ok (.return_, 1) := by decide +kernel
theorem pn8 : plainName "com/example/sindano/sindano/boyermoore/Stretches$Plan" = true := by first | (simp [plainName, overriddenIn]; done) | decide +kernel
theorem pdx_5 : parseMethodDescriptor "(Lcom/example/sindano/sindano/boyermoore/ShiftOr;)V" = some ⟨[(.object "com/example/sindano/sindano/boyermoore/ShiftOr")], none⟩ := by decide +kernel
theorem ef8_rinni (m : MethodId) (x0 : Addr) (x1 : Int32) (x4 : Int32) : entryFrame m #[(.ref x0), (.int x1), .null, .null, (.int x4)] 5 = mkF m 0 #[.val (.ref x0), .val (.int x1), .val .null, .val .null, .val (.int x4)] [] := by first | (simp [entryFrame, mkF, argsToLocals, Value.category]; done) | rfl
set_option maxRecDepth 65536 in
set_option maxHeartbeats 40000000 in
theorem rx8_232 (l : Launch) (Z : State) (a0 : Array Value) (hw : ∀ d ∈ tables_1, d.before a0 Z = true) (ws : List Jvm.Cond) (n0 : Nat) (h0 : Heap) (O0 : Old Z n0 h0)  (b231 : Addr) (PE_b231 : Exa Z h0 b231 "com/example/sindano/sindano/boyermoore/Stretches$Plan") (PF_b231_patternLength : Fld Z h0 b231 "com/example/sindano/sindano/boyermoore/Stretches$Plan" "patternLength" "I" (.int (0 : Int32))) (PF_b231_form : Fld Z h0 b231 "com/example/sindano/sindano/boyermoore/Stretches$Plan" "form" "Lcom/example/sindano/sindano/boyermoore/Stretches$FastForm;" .null) (PF_b231_opening : Fld Z h0 b231 "com/example/sindano/sindano/boyermoore/Stretches$Plan" "opening" "Lcom/example/sindano/sindano/boyermoore/Stretches$FastForm;" .null) (PF_b231_exact : Fld Z h0 b231 "com/example/sindano/sindano/boyermoore/Stretches$Plan" "exact" "Z" (.int (0 : Int32))) (PF_b231_length : Fld Z h0 b231 "com/example/sindano/sindano/boyermoore/Stretches$Plan" "length" "I" (.int (0 : Int32))) (PF_b231_fullSkips : Fld Z h0 b231 "com/example/sindano/sindano/boyermoore/Stretches$Plan" "fullSkips" "I" (.int (0 : Int32))) (PF_b231_wholeBudget : Fld Z h0 b231 "com/example/sindano/sindano/boyermoore/Stretches$Plan" "wholeBudget" "J" (.long (0 : Int64))) (PF_b231_slowClassic : Fld Z h0 b231 "com/example/sindano/sindano/boyermoore/Stretches$Plan" "slowClassic" "I" (.int (0 : Int32))) (PF_b231_slowerThanExact : Fld Z h0 b231 "com/example/sindano/sindano/boyermoore/Stretches$Plan" "slowerThanExact" "I" (.int (0 : Int32))) (g_b231 : n0 ≤ b231) :
    Meets1 l (⟨"com/example/sindano/sindano/boyermoore/Stretches$Plan", "<init>", "(ILcom/example/sindano/sindano/boyermoore/Stretches$FastForm;Lcom/example/sindano/sindano/boyermoore/Stretches$FastForm;Z)V"⟩ : MethodName) prog_51_method_1_code 5 none ws ({ frames := 1, cells := 0, slots := 0, locals := 12 } : Room) #[(.ref b231), (.int (3 : Int32)), .null, .null, (.int (0 : Int32))] Z h0 (fun v h L => v = none ∧ Fr n0 L ∧ Keep h0 h [b231] ∧ Fld Z h b231 "com/example/sindano/sindano/boyermoore/Stretches$Plan" "patternLength" "I" (.int (3 : Int32)) ∧ Fld Z h b231 "com/example/sindano/sindano/boyermoore/Stretches$Plan" "form" "Lcom/example/sindano/sindano/boyermoore/Stretches$FastForm;" .null ∧ Fld Z h b231 "com/example/sindano/sindano/boyermoore/Stretches$Plan" "opening" "Lcom/example/sindano/sindano/boyermoore/Stretches$FastForm;" .null ∧ Fld Z h b231 "com/example/sindano/sindano/boyermoore/Stretches$Plan" "exact" "Z" (.int (0 : Int32)) ∧ Fld Z h b231 "com/example/sindano/sindano/boyermoore/Stretches$Plan" "length" "I" (.int (16386 : Int32)) ∧ Fld Z h b231 "com/example/sindano/sindano/boyermoore/Stretches$Plan" "fullSkips" "I" (.int (5462 : Int32)) ∧ Fld Z h b231 "com/example/sindano/sindano/boyermoore/Stretches$Plan" "wholeBudget" "J" (.long (-1 : Int64)) ∧ Fld Z h b231 "com/example/sindano/sindano/boyermoore/Stretches$Plan" "slowClassic" "I" (.int (4096 : Int32)) ∧ Fld Z h b231 "com/example/sindano/sindano/boyermoore/Stretches$Plan" "slowerThanExact" "I" (.int (8193 : Int32))) := by
  refine MetFree.of_bodySF (plainFor_of_name pn8) hisR ?_
  intro p e s m args below meth c s₁ Bd hml0 hP hK
  obtain ⟨rfl, hZ, hh⟩ := hP
  have hx := Bd.exec
  have hby := Bd.bytes
  have hml : c.maxLocals = 5 := hml0
  have hown : s.vm.findClass "com/example/sindano/sindano/boyermoore/Stretches$Plan" = some m.cls := findClass_of_methodNamed Bd.named
  have hnm := (name_of_methodNamed Bd.named Bd.method).1
  have X0 : Stand p l e ({ frames := 1, cells := 0, slots := 0, locals := 12 } : Room) s m #[(.ref b231), (.int (3 : Int32)), .null, .null, (.int (0 : Int32))] below meth c s₁ [] 0 0 := Stand.of_body Bd
  have e0 : s₁.heap = h0 := by rw [← hh, Bd.state]; rfl
  have N0 := Fr.nil n0
  have Z0 := own_old_le O0
  show Ends p e below s s₁ (entryFrame m #[(.ref b231), (.int (3 : Int32)), .null, .null, (.int (0 : Int32))] 5) ({ frames := 1, cells := 0, slots := 0, locals := 12 } : Room).cells ({ frames := 1, cells := 0, slots := 0, locals := 12 } : Room).slots (fun v h L => v = none ∧ Fr n0 L ∧ Keep h0 h [b231] ∧ Fld Z h b231 "com/example/sindano/sindano/boyermoore/Stretches$Plan" "patternLength" "I" (.int (3 : Int32)) ∧ Fld Z h b231 "com/example/sindano/sindano/boyermoore/Stretches$Plan" "form" "Lcom/example/sindano/sindano/boyermoore/Stretches$FastForm;" .null ∧ Fld Z h b231 "com/example/sindano/sindano/boyermoore/Stretches$Plan" "opening" "Lcom/example/sindano/sindano/boyermoore/Stretches$FastForm;" .null ∧ Fld Z h b231 "com/example/sindano/sindano/boyermoore/Stretches$Plan" "exact" "Z" (.int (0 : Int32)) ∧ Fld Z h b231 "com/example/sindano/sindano/boyermoore/Stretches$Plan" "length" "I" (.int (16386 : Int32)) ∧ Fld Z h b231 "com/example/sindano/sindano/boyermoore/Stretches$Plan" "fullSkips" "I" (.int (5462 : Int32)) ∧ Fld Z h b231 "com/example/sindano/sindano/boyermoore/Stretches$Plan" "wholeBudget" "J" (.long (-1 : Int64)) ∧ Fld Z h b231 "com/example/sindano/sindano/boyermoore/Stretches$Plan" "slowClassic" "I" (.int (4096 : Int32)) ∧ Fld Z h b231 "com/example/sindano/sindano/boyermoore/Stretches$Plan" "slowerThanExact" "I" (.int (8193 : Int32)))
  refine Ends.go (fun _ k => castTop (ef8_rinni m b231 (3 : Int32) (0 : Int32)) k) ?_
  have K0 := Keep.refl h0 [b231]
  show Ends p e below s s₁ (mkF m 0 #[.val (.ref b231), .val (.int (3 : Int32)), .val .null, .val .null, .val (.int (0 : Int32))] []) _ _ _
  refine Ends.go (fun _ k => XS.aloadN X0.here hx rfl (hb hby d8_0) rfl rfl k) ?_
  obtain ⟨T233, X233, e233, st233⟩ := initO X0 hx hZ hown (ow hw 55 rfl) (ow hw 20 rfl) (ow hw 21 rfl) e0 (g := (mkF m 1 #[.val (.ref b231), .val (.int (3 : Int32)), .val .null, .val .null, .val (.int (0 : Int32))] [(.ref b231)])) rfl (by rw [hml]; rfl) rfl (hb hby d8_1) (by decide) (W := 0) (by show 2 * 0 + _ ≤ _; exact Nat.le_of_eq rfl) (by decide)
  refine Ends.go st233 ?_
  refine Ends.go (fun _ k => XS.aloadN X233.here hx rfl (hb hby d8_4) rfl rfl k) ?_
  show Ends p e below s T233 (mkF m 5 #[.val (.ref b231), .val (.int (3 : Int32)), .val .null, .val .null, .val (.int (0 : Int32))] [(.ref b231)]) _ _ _
  refine Ends.go (fun _ k => XS.iloadN X233.here hx rfl (hb hby d8_5) rfl k) ?_
  obtain ⟨T234, h234, X234, e234, W234, st234⟩ := putF X233 hx hZ hown (host := "") (Or.inl (ow hw 56 rfl)) Via.refl e233 PF_b231_patternLength PE_b231 (Or.inr ⟨(ow hw 57 rfl), rfl, hnm⟩) (ow hw 50 rfl) (ty := .int) (by decide) rfl rfl (g := (mkF m 6 #[.val (.ref b231), .val (.int (3 : Int32)), .val .null, .val .null, .val (.int (0 : Int32))] [(.int (3 : Int32)), (.ref b231)])) rfl rfl (hb hby d8_6)
  refine Ends.go st234 ?_
  have Fw234 := PF_b231_patternLength.same W234
  have K234 := K0.wr W234 (Or.inl (List.mem_of_getElem? (i := 0) rfl))
  have O234 := O0.wr W234 g_b231
  have N234 := Fr.snoc X234 N0 g_b231
  refine Ends.go (fun _ k => XS.aloadN X234.here hx rfl (hb hby d8_9) rfl rfl k) ?_
  refine Ends.go (fun _ k => XS.aloadN X234.here hx rfl (hb hby d8_10) rfl rfl k) ?_
  show Ends p e below s T234 (mkF m 11 #[.val (.ref b231), .val (.int (3 : Int32)), .val .null, .val .null, .val (.int (0 : Int32))] [.null, (.ref b231)]) _ _ _
  obtain ⟨T235, h235, X235, e235, W235, st235⟩ := putF X234 hx hZ hown (host := "") (Or.inl (ow hw 58 rfl)) Via.refl e234 (PF_b231_form.other W234 (Or.inr (slot_ne (Or.inr (ow hw 59 rfl)) (Or.inr (ow hw 57 rfl)) (by decide) (t := (.object "com/example/sindano/sindano/boyermoore/Stretches$FastForm")) (t' := .int) (by decide) (by decide)))) (PE_b231.wr W234) (Or.inr ⟨(ow hw 59 rfl), rfl, hnm⟩) (ow hw 50 rfl) (ty := (.object "com/example/sindano/sindano/boyermoore/Stretches$FastForm")) (by decide) rfl rfl (g := (mkF m 11 #[.val (.ref b231), .val (.int (3 : Int32)), .val .null, .val .null, .val (.int (0 : Int32))] [.null, (.ref b231)])) rfl rfl (hb hby d8_11)
  refine Ends.go st235 ?_
  have Fw235 := (PF_b231_form.other W234 (Or.inr (slot_ne (Or.inr (ow hw 59 rfl)) (Or.inr (ow hw 57 rfl)) (by decide) (t := (.object "com/example/sindano/sindano/boyermoore/Stretches$FastForm")) (t' := .int) (by decide) (by decide)))).same W235
  have K235 := K234.wr W235 (Or.inl (List.mem_of_getElem? (i := 0) rfl))
  have O235 := O234.wr W235 g_b231
  have N235 := Fr.snoc X235 N234 g_b231
  refine Ends.go (fun _ k => XS.aloadN X235.here hx rfl (hb hby d8_14) rfl rfl k) ?_
  refine Ends.go (fun _ k => XS.aloadN X235.here hx rfl (hb hby d8_15) rfl rfl k) ?_
  obtain ⟨T236, h236, X236, e236, W236, st236⟩ := putF X235 hx hZ hown (host := "") (Or.inl (ow hw 60 rfl)) Via.refl e235 ((PF_b231_opening.other W234 (Or.inr (slot_ne (Or.inr (ow hw 61 rfl)) (Or.inr (ow hw 57 rfl)) (by decide) (t := (.object "com/example/sindano/sindano/boyermoore/Stretches$FastForm")) (t' := .int) (by decide) (by decide)))).other W235 (Or.inr (slot_ne (Or.inr (ow hw 61 rfl)) (Or.inr (ow hw 59 rfl)) (by decide) (t := (.object "com/example/sindano/sindano/boyermoore/Stretches$FastForm")) (t' := (.object "com/example/sindano/sindano/boyermoore/Stretches$FastForm")) (by decide) (by decide)))) ((PE_b231.wr W234).wr W235) (Or.inr ⟨(ow hw 61 rfl), rfl, hnm⟩) (ow hw 50 rfl) (ty := (.object "com/example/sindano/sindano/boyermoore/Stretches$FastForm")) (by decide) rfl rfl (g := (mkF m 16 #[.val (.ref b231), .val (.int (3 : Int32)), .val .null, .val .null, .val (.int (0 : Int32))] [.null, (.ref b231)])) rfl rfl (hb hby d8_16)
  refine Ends.go st236 ?_
  have Fw236 := ((PF_b231_opening.other W234 (Or.inr (slot_ne (Or.inr (ow hw 61 rfl)) (Or.inr (ow hw 57 rfl)) (by decide) (t := (.object "com/example/sindano/sindano/boyermoore/Stretches$FastForm")) (t' := .int) (by decide) (by decide)))).other W235 (Or.inr (slot_ne (Or.inr (ow hw 61 rfl)) (Or.inr (ow hw 59 rfl)) (by decide) (t := (.object "com/example/sindano/sindano/boyermoore/Stretches$FastForm")) (t' := (.object "com/example/sindano/sindano/boyermoore/Stretches$FastForm")) (by decide) (by decide)))).same W236
  have K236 := K235.wr W236 (Or.inl (List.mem_of_getElem? (i := 0) rfl))
  have O236 := O235.wr W236 g_b231
  have N236 := Fr.snoc X236 N235 g_b231
  show Ends p e below s T236 (mkF m 19 #[.val (.ref b231), .val (.int (3 : Int32)), .val .null, .val .null, .val (.int (0 : Int32))] []) _ _ _
  refine Ends.go (fun _ k => XS.aloadN X236.here hx rfl (hb hby d8_19) rfl rfl k) ?_
  refine Ends.go (fun _ k => XS.iload X236.here hx rfl (hb hby d8_20) rfl k) ?_
  obtain ⟨T237, h237, X237, e237, W237, st237⟩ := putFN X236 hx hZ hown (ow hw 62 rfl) Via.refl e236 (((PF_b231_exact.other W234 (Or.inr (slot_ne (Or.inr (ow hw 63 rfl)) (Or.inr (ow hw 57 rfl)) (by decide) (t := .boolean) (t' := .int) (by decide) (by decide)))).other W235 (Or.inr (slot_ne (Or.inr (ow hw 63 rfl)) (Or.inr (ow hw 59 rfl)) (by decide) (t := .boolean) (t' := (.object "com/example/sindano/sindano/boyermoore/Stretches$FastForm")) (by decide) (by decide)))).other W236 (Or.inr (slot_ne (Or.inr (ow hw 63 rfl)) (Or.inr (ow hw 61 rfl)) (by decide) (t := .boolean) (t' := (.object "com/example/sindano/sindano/boyermoore/Stretches$FastForm")) (by decide) (by decide)))) (((PE_b231.wr W234).wr W235).wr W236) (Or.inr ⟨(ow hw 63 rfl), rfl, hnm⟩) (ow hw 50 rfl) (ty := .boolean) (v' := (.int (0 : Int32))) (by decide) rfl (by decide) (g := (mkF m 22 #[.val (.ref b231), .val (.int (3 : Int32)), .val .null, .val .null, .val (.int (0 : Int32))] [(.int (0 : Int32)), (.ref b231)])) rfl rfl (hb hby d8_22)
  refine Ends.go st237 ?_
  have Fw237 := (((PF_b231_exact.other W234 (Or.inr (slot_ne (Or.inr (ow hw 63 rfl)) (Or.inr (ow hw 57 rfl)) (by decide) (t := .boolean) (t' := .int) (by decide) (by decide)))).other W235 (Or.inr (slot_ne (Or.inr (ow hw 63 rfl)) (Or.inr (ow hw 59 rfl)) (by decide) (t := .boolean) (t' := (.object "com/example/sindano/sindano/boyermoore/Stretches$FastForm")) (by decide) (by decide)))).other W236 (Or.inr (slot_ne (Or.inr (ow hw 63 rfl)) (Or.inr (ow hw 61 rfl)) (by decide) (t := .boolean) (t' := (.object "com/example/sindano/sindano/boyermoore/Stretches$FastForm")) (by decide) (by decide)))).same W237
  have K237 := K236.wr W237 (Or.inl (List.mem_of_getElem? (i := 0) rfl))
  have O237 := O236.wr W237 g_b231
  have N237 := Fr.snoc X237 N236 g_b231
  refine Ends.go (fun _ k => XS.aloadN X237.here hx rfl (hb hby d8_25) rfl rfl k) ?_
  show Ends p e below s T237 (mkF m 26 #[.val (.ref b231), .val (.int (3 : Int32)), .val .null, .val .null, .val (.int (0 : Int32))] [(.ref b231)]) _ _ _
  refine Ends.go (fun _ k => XS.iloadN X237.here hx rfl (hb hby d8_26) rfl k) ?_
  refine Ends.go (fun _ k => XS.sipush X237.here hx rfl (hb hby d8_27) k) ?_
  refine Ends.go (fun _ k => XS.iloadN X237.here hx rfl (hb hby d8_30) rfl k) ?_
  refine Ends.go (fun _ k => XS.iadd X237.here hx rfl (hb hby d8_31) rfl k) ?_
  show Ends p e below s T237 (mkF m 32 #[.val (.ref b231), .val (.int (3 : Int32)), .val .null, .val .null, .val (.int (0 : Int32))] [(.int (16387 : Int32)), (.int (3 : Int32)), (.ref b231)]) _ _ _
  refine Ends.go (fun _ k => XS.iconst X237.here hx rfl (hb hby d8_32) k) ?_
  refine Ends.go (fun _ k => XS.isub X237.here hx rfl (hb hby d8_33) rfl k) ?_
  refine Ends.go (fun _ k => XS.iloadN X237.here hx rfl (hb hby d8_34) rfl k) ?_
  refine Ends.go (fun _ k => XS.idiv X237.here hx rfl (hb hby d8_35) rfl (by decide) k) ?_
  show Ends p e below s T237 (mkF m 36 #[.val (.ref b231), .val (.int (3 : Int32)), .val .null, .val .null, .val (.int (0 : Int32))] [(.int (5462 : Int32)), (.int (3 : Int32)), (.ref b231)]) _ _ _
  refine Ends.go (fun _ k => XS.imul X237.here hx rfl (hb hby d8_36) rfl k) ?_
  obtain ⟨T238, h238, X238, e238, W238, st238⟩ := putF X237 hx hZ hown (host := "") (Or.inl (ow hw 64 rfl)) Via.refl e237 ((((PF_b231_length.other W234 (Or.inr (slot_ne (Or.inr (ow hw 65 rfl)) (Or.inr (ow hw 57 rfl)) (by decide) (t := .int) (t' := .int) (by decide) (by decide)))).other W235 (Or.inr (slot_ne (Or.inr (ow hw 65 rfl)) (Or.inr (ow hw 59 rfl)) (by decide) (t := .int) (t' := (.object "com/example/sindano/sindano/boyermoore/Stretches$FastForm")) (by decide) (by decide)))).other W236 (Or.inr (slot_ne (Or.inr (ow hw 65 rfl)) (Or.inr (ow hw 61 rfl)) (by decide) (t := .int) (t' := (.object "com/example/sindano/sindano/boyermoore/Stretches$FastForm")) (by decide) (by decide)))).other W237 (Or.inr (slot_ne (Or.inr (ow hw 65 rfl)) (Or.inr (ow hw 63 rfl)) (by decide) (t := .int) (t' := .boolean) (by decide) (by decide)))) ((((PE_b231.wr W234).wr W235).wr W236).wr W237) (Or.inr ⟨(ow hw 65 rfl), rfl, hnm⟩) (ow hw 50 rfl) (ty := .int) (by decide) rfl rfl (g := (mkF m 37 #[.val (.ref b231), .val (.int (3 : Int32)), .val .null, .val .null, .val (.int (0 : Int32))] [(.int (16386 : Int32)), (.ref b231)])) rfl rfl (hb hby d8_37)
  refine Ends.go st238 ?_
  have Fw238 := ((((PF_b231_length.other W234 (Or.inr (slot_ne (Or.inr (ow hw 65 rfl)) (Or.inr (ow hw 57 rfl)) (by decide) (t := .int) (t' := .int) (by decide) (by decide)))).other W235 (Or.inr (slot_ne (Or.inr (ow hw 65 rfl)) (Or.inr (ow hw 59 rfl)) (by decide) (t := .int) (t' := (.object "com/example/sindano/sindano/boyermoore/Stretches$FastForm")) (by decide) (by decide)))).other W236 (Or.inr (slot_ne (Or.inr (ow hw 65 rfl)) (Or.inr (ow hw 61 rfl)) (by decide) (t := .int) (t' := (.object "com/example/sindano/sindano/boyermoore/Stretches$FastForm")) (by decide) (by decide)))).other W237 (Or.inr (slot_ne (Or.inr (ow hw 65 rfl)) (Or.inr (ow hw 63 rfl)) (by decide) (t := .int) (t' := .boolean) (by decide) (by decide)))).same W238
  have K238 := K237.wr W238 (Or.inl (List.mem_of_getElem? (i := 0) rfl))
  have O238 := O237.wr W238 g_b231
  have N238 := Fr.snoc X238 N237 g_b231
  refine Ends.go (fun _ k => XS.aloadN X238.here hx rfl (hb hby d8_40) rfl rfl k) ?_
  refine Ends.go (fun _ k => XS.aloadN X238.here hx rfl (hb hby d8_41) rfl rfl k) ?_
  show Ends p e below s T238 (mkF m 42 #[.val (.ref b231), .val (.int (3 : Int32)), .val .null, .val .null, .val (.int (0 : Int32))] [(.ref b231), (.ref b231)]) _ _ _
  obtain ⟨T239, X239, e239, st239⟩ := getF X238 hx hZ hown (host := "") (Or.inl (ow hw 64 rfl)) Via.refl e238 Fw238 (g := (mkF m 42 #[.val (.ref b231), .val (.int (3 : Int32)), .val .null, .val .null, .val (.int (0 : Int32))] [(.ref b231), (.ref b231)])) rfl rfl (hb hby d8_42)
  refine Ends.go st239 ?_
  refine Ends.go (fun _ k => XS.iloadN X239.here hx rfl (hb hby d8_45) rfl k) ?_
  refine Ends.go (fun _ k => XS.idiv X239.here hx rfl (hb hby d8_46) rfl (by decide) k) ?_
  obtain ⟨T240, h240, X240, e240, W240, st240⟩ := putF X239 hx hZ hown (host := "") (Or.inl (ow hw 66 rfl)) Via.refl e239 (((((PF_b231_fullSkips.other W234 (Or.inr (slot_ne (Or.inr (ow hw 67 rfl)) (Or.inr (ow hw 57 rfl)) (by decide) (t := .int) (t' := .int) (by decide) (by decide)))).other W235 (Or.inr (slot_ne (Or.inr (ow hw 67 rfl)) (Or.inr (ow hw 59 rfl)) (by decide) (t := .int) (t' := (.object "com/example/sindano/sindano/boyermoore/Stretches$FastForm")) (by decide) (by decide)))).other W236 (Or.inr (slot_ne (Or.inr (ow hw 67 rfl)) (Or.inr (ow hw 61 rfl)) (by decide) (t := .int) (t' := (.object "com/example/sindano/sindano/boyermoore/Stretches$FastForm")) (by decide) (by decide)))).other W237 (Or.inr (slot_ne (Or.inr (ow hw 67 rfl)) (Or.inr (ow hw 63 rfl)) (by decide) (t := .int) (t' := .boolean) (by decide) (by decide)))).other W238 (Or.inr (slot_ne (Or.inr (ow hw 67 rfl)) (Or.inr (ow hw 65 rfl)) (by decide) (t := .int) (t' := .int) (by decide) (by decide)))) (((((PE_b231.wr W234).wr W235).wr W236).wr W237).wr W238) (Or.inr ⟨(ow hw 67 rfl), rfl, hnm⟩) (ow hw 50 rfl) (ty := .int) (by decide) rfl rfl (g := (mkF m 47 #[.val (.ref b231), .val (.int (3 : Int32)), .val .null, .val .null, .val (.int (0 : Int32))] [(.int (5462 : Int32)), (.ref b231)])) rfl rfl (hb hby d8_47)
  refine Ends.go st240 ?_
  have Fw240 := (((((PF_b231_fullSkips.other W234 (Or.inr (slot_ne (Or.inr (ow hw 67 rfl)) (Or.inr (ow hw 57 rfl)) (by decide) (t := .int) (t' := .int) (by decide) (by decide)))).other W235 (Or.inr (slot_ne (Or.inr (ow hw 67 rfl)) (Or.inr (ow hw 59 rfl)) (by decide) (t := .int) (t' := (.object "com/example/sindano/sindano/boyermoore/Stretches$FastForm")) (by decide) (by decide)))).other W236 (Or.inr (slot_ne (Or.inr (ow hw 67 rfl)) (Or.inr (ow hw 61 rfl)) (by decide) (t := .int) (t' := (.object "com/example/sindano/sindano/boyermoore/Stretches$FastForm")) (by decide) (by decide)))).other W237 (Or.inr (slot_ne (Or.inr (ow hw 67 rfl)) (Or.inr (ow hw 63 rfl)) (by decide) (t := .int) (t' := .boolean) (by decide) (by decide)))).other W238 (Or.inr (slot_ne (Or.inr (ow hw 67 rfl)) (Or.inr (ow hw 65 rfl)) (by decide) (t := .int) (t' := .int) (by decide) (by decide)))).same W240
  have K240 := K238.wr W240 (Or.inl (List.mem_of_getElem? (i := 0) rfl))
  have O240 := O238.wr W240 g_b231
  have N240 := Fr.snoc X240 N238 g_b231
  show Ends p e below s T240 (mkF m 50 #[.val (.ref b231), .val (.int (3 : Int32)), .val .null, .val .null, .val (.int (0 : Int32))] []) _ _ _
  refine Ends.go (fun _ k => XS.aloadN X240.here hx rfl (hb hby d8_50) rfl rfl k) ?_
  refine Ends.go (fun _ k => XS.aloadN X240.here hx rfl (hb hby d8_51) rfl rfl k) ?_
  refine Ends.go (fun _ k => XS.ifnonnullNo X240.here hx rfl (hb hby d8_52) rfl k) ?_
  refine Ends.go (X240.ldc2Long hx hown (mvT hZ (ow hw 68 rfl)) (g := (mkF m 55 #[.val (.ref b231), .val (.int (3 : Int32)), .val .null, .val .null, .val (.int (0 : Int32))] [(.ref b231)])) rfl (hb hby d8_55)) ?_
  show Ends p e below s T240 (mkF m 58 #[.val (.ref b231), .val (.int (3 : Int32)), .val .null, .val .null, .val (.int (0 : Int32))] [(.long (-1 : Int64)), (.ref b231)]) _ _ _
  refine Ends.go (fun _ k => XS.goto X240.here hx rfl (pc0 := 58) (pc' := 72) rfl (hb hby d8_58) (by decide) (by decide) k) ?_
  obtain ⟨T241, h241, X241, e241, W241, st241⟩ := putF X240 hx hZ hown (host := "") (Or.inl (ow hw 69 rfl)) Via.refl e240 ((((((PF_b231_wholeBudget.other W234 (Or.inr (slot_ne (Or.inr (ow hw 70 rfl)) (Or.inr (ow hw 57 rfl)) (by decide) (t := .long) (t' := .int) (by decide) (by decide)))).other W235 (Or.inr (slot_ne (Or.inr (ow hw 70 rfl)) (Or.inr (ow hw 59 rfl)) (by decide) (t := .long) (t' := (.object "com/example/sindano/sindano/boyermoore/Stretches$FastForm")) (by decide) (by decide)))).other W236 (Or.inr (slot_ne (Or.inr (ow hw 70 rfl)) (Or.inr (ow hw 61 rfl)) (by decide) (t := .long) (t' := (.object "com/example/sindano/sindano/boyermoore/Stretches$FastForm")) (by decide) (by decide)))).other W237 (Or.inr (slot_ne (Or.inr (ow hw 70 rfl)) (Or.inr (ow hw 63 rfl)) (by decide) (t := .long) (t' := .boolean) (by decide) (by decide)))).other W238 (Or.inr (slot_ne (Or.inr (ow hw 70 rfl)) (Or.inr (ow hw 65 rfl)) (by decide) (t := .long) (t' := .int) (by decide) (by decide)))).other W240 (Or.inr (slot_ne (Or.inr (ow hw 70 rfl)) (Or.inr (ow hw 67 rfl)) (by decide) (t := .long) (t' := .int) (by decide) (by decide)))) ((((((PE_b231.wr W234).wr W235).wr W236).wr W237).wr W238).wr W240) (Or.inr ⟨(ow hw 70 rfl), rfl, hnm⟩) (ow hw 50 rfl) (ty := .long) (by decide) rfl rfl (g := (mkF m 72 #[.val (.ref b231), .val (.int (3 : Int32)), .val .null, .val .null, .val (.int (0 : Int32))] [(.long (-1 : Int64)), (.ref b231)])) rfl rfl (hb hby d8_72)
  refine Ends.go st241 ?_
  have Fw241 := ((((((PF_b231_wholeBudget.other W234 (Or.inr (slot_ne (Or.inr (ow hw 70 rfl)) (Or.inr (ow hw 57 rfl)) (by decide) (t := .long) (t' := .int) (by decide) (by decide)))).other W235 (Or.inr (slot_ne (Or.inr (ow hw 70 rfl)) (Or.inr (ow hw 59 rfl)) (by decide) (t := .long) (t' := (.object "com/example/sindano/sindano/boyermoore/Stretches$FastForm")) (by decide) (by decide)))).other W236 (Or.inr (slot_ne (Or.inr (ow hw 70 rfl)) (Or.inr (ow hw 61 rfl)) (by decide) (t := .long) (t' := (.object "com/example/sindano/sindano/boyermoore/Stretches$FastForm")) (by decide) (by decide)))).other W237 (Or.inr (slot_ne (Or.inr (ow hw 70 rfl)) (Or.inr (ow hw 63 rfl)) (by decide) (t := .long) (t' := .boolean) (by decide) (by decide)))).other W238 (Or.inr (slot_ne (Or.inr (ow hw 70 rfl)) (Or.inr (ow hw 65 rfl)) (by decide) (t := .long) (t' := .int) (by decide) (by decide)))).other W240 (Or.inr (slot_ne (Or.inr (ow hw 70 rfl)) (Or.inr (ow hw 67 rfl)) (by decide) (t := .long) (t' := .int) (by decide) (by decide)))).same W241
  have K241 := K240.wr W241 (Or.inl (List.mem_of_getElem? (i := 0) rfl))
  have O241 := O240.wr W241 g_b231
  have N241 := Fr.snoc X241 N240 g_b231
  refine Ends.go (fun _ k => XS.aloadN X241.here hx rfl (hb hby d8_75) rfl rfl k) ?_
  refine Ends.go (fun _ k => XS.aloadN X241.here hx rfl (hb hby d8_76) rfl rfl k) ?_
  show Ends p e below s T241 (mkF m 77 #[.val (.ref b231), .val (.int (3 : Int32)), .val .null, .val .null, .val (.int (0 : Int32))] [(.ref b231), (.ref b231)]) _ _ _
  obtain ⟨T242, X242, e242, st242⟩ := getF X241 hx hZ hown (host := "") (Or.inl (ow hw 64 rfl)) Via.refl e241 ((Fw238.other W240 (Or.inr (slot_ne (Or.inr (ow hw 65 rfl)) (Or.inr (ow hw 67 rfl)) (by decide) (t := .int) (t' := .int) (by decide) (by decide)))).other W241 (Or.inr (slot_ne (Or.inr (ow hw 65 rfl)) (Or.inr (ow hw 70 rfl)) (by decide) (t := .int) (t' := .long) (by decide) (by decide)))) (g := (mkF m 77 #[.val (.ref b231), .val (.int (3 : Int32)), .val .null, .val .null, .val (.int (0 : Int32))] [(.ref b231), (.ref b231)])) rfl rfl (hb hby d8_77)
  refine Ends.go st242 ?_
  refine Ends.go (fun _ k => XS.iconst X242.here hx rfl (hb hby d8_80) k) ?_
  refine Ends.go (fun _ k => XS.idiv X242.here hx rfl (hb hby d8_81) rfl (by decide) k) ?_
  obtain ⟨T243, h243, X243, e243, W243, st243⟩ := putF X242 hx hZ hown (host := "") (Or.inl (ow hw 71 rfl)) Via.refl e242 (((((((PF_b231_slowClassic.other W234 (Or.inr (slot_ne (Or.inr (ow hw 72 rfl)) (Or.inr (ow hw 57 rfl)) (by decide) (t := .int) (t' := .int) (by decide) (by decide)))).other W235 (Or.inr (slot_ne (Or.inr (ow hw 72 rfl)) (Or.inr (ow hw 59 rfl)) (by decide) (t := .int) (t' := (.object "com/example/sindano/sindano/boyermoore/Stretches$FastForm")) (by decide) (by decide)))).other W236 (Or.inr (slot_ne (Or.inr (ow hw 72 rfl)) (Or.inr (ow hw 61 rfl)) (by decide) (t := .int) (t' := (.object "com/example/sindano/sindano/boyermoore/Stretches$FastForm")) (by decide) (by decide)))).other W237 (Or.inr (slot_ne (Or.inr (ow hw 72 rfl)) (Or.inr (ow hw 63 rfl)) (by decide) (t := .int) (t' := .boolean) (by decide) (by decide)))).other W238 (Or.inr (slot_ne (Or.inr (ow hw 72 rfl)) (Or.inr (ow hw 65 rfl)) (by decide) (t := .int) (t' := .int) (by decide) (by decide)))).other W240 (Or.inr (slot_ne (Or.inr (ow hw 72 rfl)) (Or.inr (ow hw 67 rfl)) (by decide) (t := .int) (t' := .int) (by decide) (by decide)))).other W241 (Or.inr (slot_ne (Or.inr (ow hw 72 rfl)) (Or.inr (ow hw 70 rfl)) (by decide) (t := .int) (t' := .long) (by decide) (by decide)))) (((((((PE_b231.wr W234).wr W235).wr W236).wr W237).wr W238).wr W240).wr W241) (Or.inr ⟨(ow hw 72 rfl), rfl, hnm⟩) (ow hw 50 rfl) (ty := .int) (by decide) rfl rfl (g := (mkF m 82 #[.val (.ref b231), .val (.int (3 : Int32)), .val .null, .val .null, .val (.int (0 : Int32))] [(.int (4096 : Int32)), (.ref b231)])) rfl rfl (hb hby d8_82)
  refine Ends.go st243 ?_
  have Fw243 := (((((((PF_b231_slowClassic.other W234 (Or.inr (slot_ne (Or.inr (ow hw 72 rfl)) (Or.inr (ow hw 57 rfl)) (by decide) (t := .int) (t' := .int) (by decide) (by decide)))).other W235 (Or.inr (slot_ne (Or.inr (ow hw 72 rfl)) (Or.inr (ow hw 59 rfl)) (by decide) (t := .int) (t' := (.object "com/example/sindano/sindano/boyermoore/Stretches$FastForm")) (by decide) (by decide)))).other W236 (Or.inr (slot_ne (Or.inr (ow hw 72 rfl)) (Or.inr (ow hw 61 rfl)) (by decide) (t := .int) (t' := (.object "com/example/sindano/sindano/boyermoore/Stretches$FastForm")) (by decide) (by decide)))).other W237 (Or.inr (slot_ne (Or.inr (ow hw 72 rfl)) (Or.inr (ow hw 63 rfl)) (by decide) (t := .int) (t' := .boolean) (by decide) (by decide)))).other W238 (Or.inr (slot_ne (Or.inr (ow hw 72 rfl)) (Or.inr (ow hw 65 rfl)) (by decide) (t := .int) (t' := .int) (by decide) (by decide)))).other W240 (Or.inr (slot_ne (Or.inr (ow hw 72 rfl)) (Or.inr (ow hw 67 rfl)) (by decide) (t := .int) (t' := .int) (by decide) (by decide)))).other W241 (Or.inr (slot_ne (Or.inr (ow hw 72 rfl)) (Or.inr (ow hw 70 rfl)) (by decide) (t := .int) (t' := .long) (by decide) (by decide)))).same W243
  have K243 := K241.wr W243 (Or.inl (List.mem_of_getElem? (i := 0) rfl))
  have O243 := O241.wr W243 g_b231
  have N243 := Fr.snoc X243 N241 g_b231
  show Ends p e below s T243 (mkF m 85 #[.val (.ref b231), .val (.int (3 : Int32)), .val .null, .val .null, .val (.int (0 : Int32))] []) _ _ _
  refine Ends.go (fun _ k => XS.aloadN X243.here hx rfl (hb hby d8_85) rfl rfl k) ?_
  refine Ends.go (fun _ k => XS.aloadN X243.here hx rfl (hb hby d8_86) rfl rfl k) ?_
  obtain ⟨T244, X244, e244, st244⟩ := getF X243 hx hZ hown (host := "") (Or.inl (ow hw 64 rfl)) Via.refl e243 (((Fw238.other W240 (Or.inr (slot_ne (Or.inr (ow hw 65 rfl)) (Or.inr (ow hw 67 rfl)) (by decide) (t := .int) (t' := .int) (by decide) (by decide)))).other W241 (Or.inr (slot_ne (Or.inr (ow hw 65 rfl)) (Or.inr (ow hw 70 rfl)) (by decide) (t := .int) (t' := .long) (by decide) (by decide)))).other W243 (Or.inr (slot_ne (Or.inr (ow hw 65 rfl)) (Or.inr (ow hw 72 rfl)) (by decide) (t := .int) (t' := .int) (by decide) (by decide)))) (g := (mkF m 87 #[.val (.ref b231), .val (.int (3 : Int32)), .val .null, .val .null, .val (.int (0 : Int32))] [(.ref b231), (.ref b231)])) rfl rfl (hb hby d8_87)
  refine Ends.go st244 ?_
  refine Ends.go (fun _ k => XS.iconst X244.here hx rfl (hb hby d8_90) k) ?_
  show Ends p e below s T244 (mkF m 91 #[.val (.ref b231), .val (.int (3 : Int32)), .val .null, .val .null, .val (.int (0 : Int32))] [(.int (2 : Int32)), (.int (16386 : Int32)), (.ref b231)]) _ _ _
  refine Ends.go (fun _ k => XS.idiv X244.here hx rfl (hb hby d8_91) rfl (by decide) k) ?_
  obtain ⟨T245, h245, X245, e245, W245, st245⟩ := putF X244 hx hZ hown (host := "") (Or.inl (ow hw 73 rfl)) Via.refl e244 ((((((((PF_b231_slowerThanExact.other W234 (Or.inr (slot_ne (Or.inr (ow hw 74 rfl)) (Or.inr (ow hw 57 rfl)) (by decide) (t := .int) (t' := .int) (by decide) (by decide)))).other W235 (Or.inr (slot_ne (Or.inr (ow hw 74 rfl)) (Or.inr (ow hw 59 rfl)) (by decide) (t := .int) (t' := (.object "com/example/sindano/sindano/boyermoore/Stretches$FastForm")) (by decide) (by decide)))).other W236 (Or.inr (slot_ne (Or.inr (ow hw 74 rfl)) (Or.inr (ow hw 61 rfl)) (by decide) (t := .int) (t' := (.object "com/example/sindano/sindano/boyermoore/Stretches$FastForm")) (by decide) (by decide)))).other W237 (Or.inr (slot_ne (Or.inr (ow hw 74 rfl)) (Or.inr (ow hw 63 rfl)) (by decide) (t := .int) (t' := .boolean) (by decide) (by decide)))).other W238 (Or.inr (slot_ne (Or.inr (ow hw 74 rfl)) (Or.inr (ow hw 65 rfl)) (by decide) (t := .int) (t' := .int) (by decide) (by decide)))).other W240 (Or.inr (slot_ne (Or.inr (ow hw 74 rfl)) (Or.inr (ow hw 67 rfl)) (by decide) (t := .int) (t' := .int) (by decide) (by decide)))).other W241 (Or.inr (slot_ne (Or.inr (ow hw 74 rfl)) (Or.inr (ow hw 70 rfl)) (by decide) (t := .int) (t' := .long) (by decide) (by decide)))).other W243 (Or.inr (slot_ne (Or.inr (ow hw 74 rfl)) (Or.inr (ow hw 72 rfl)) (by decide) (t := .int) (t' := .int) (by decide) (by decide)))) ((((((((PE_b231.wr W234).wr W235).wr W236).wr W237).wr W238).wr W240).wr W241).wr W243) (Or.inr ⟨(ow hw 74 rfl), rfl, hnm⟩) (ow hw 50 rfl) (ty := .int) (by decide) rfl rfl (g := (mkF m 92 #[.val (.ref b231), .val (.int (3 : Int32)), .val .null, .val .null, .val (.int (0 : Int32))] [(.int (8193 : Int32)), (.ref b231)])) rfl rfl (hb hby d8_92)
  refine Ends.go st245 ?_
  have Fw245 := ((((((((PF_b231_slowerThanExact.other W234 (Or.inr (slot_ne (Or.inr (ow hw 74 rfl)) (Or.inr (ow hw 57 rfl)) (by decide) (t := .int) (t' := .int) (by decide) (by decide)))).other W235 (Or.inr (slot_ne (Or.inr (ow hw 74 rfl)) (Or.inr (ow hw 59 rfl)) (by decide) (t := .int) (t' := (.object "com/example/sindano/sindano/boyermoore/Stretches$FastForm")) (by decide) (by decide)))).other W236 (Or.inr (slot_ne (Or.inr (ow hw 74 rfl)) (Or.inr (ow hw 61 rfl)) (by decide) (t := .int) (t' := (.object "com/example/sindano/sindano/boyermoore/Stretches$FastForm")) (by decide) (by decide)))).other W237 (Or.inr (slot_ne (Or.inr (ow hw 74 rfl)) (Or.inr (ow hw 63 rfl)) (by decide) (t := .int) (t' := .boolean) (by decide) (by decide)))).other W238 (Or.inr (slot_ne (Or.inr (ow hw 74 rfl)) (Or.inr (ow hw 65 rfl)) (by decide) (t := .int) (t' := .int) (by decide) (by decide)))).other W240 (Or.inr (slot_ne (Or.inr (ow hw 74 rfl)) (Or.inr (ow hw 67 rfl)) (by decide) (t := .int) (t' := .int) (by decide) (by decide)))).other W241 (Or.inr (slot_ne (Or.inr (ow hw 74 rfl)) (Or.inr (ow hw 70 rfl)) (by decide) (t := .int) (t' := .long) (by decide) (by decide)))).other W243 (Or.inr (slot_ne (Or.inr (ow hw 74 rfl)) (Or.inr (ow hw 72 rfl)) (by decide) (t := .int) (t' := .int) (by decide) (by decide)))).same W245
  have K245 := K243.wr W245 (Or.inl (List.mem_of_getElem? (i := 0) rfl))
  have O245 := O243.wr W245 g_b231
  have N245 := Fr.snoc X245 N243 g_b231
  refine Ends.retV X245 hx Bd.notSynchronized Bd.returns (hb hby d8_95) (by decide) (by decide) ?_
  rw [e245]
  exact ⟨rfl, N245, K245, ((((((((Fw234.other W235 (Or.inr (slot_ne (Or.inr (ow hw 57 rfl)) (Or.inr (ow hw 59 rfl)) (by decide) (t := .int) (t' := (.object "com/example/sindano/sindano/boyermoore/Stretches$FastForm")) (by decide) (by decide)))).other W236 (Or.inr (slot_ne (Or.inr (ow hw 57 rfl)) (Or.inr (ow hw 61 rfl)) (by decide) (t := .int) (t' := (.object "com/example/sindano/sindano/boyermoore/Stretches$FastForm")) (by decide) (by decide)))).other W237 (Or.inr (slot_ne (Or.inr (ow hw 57 rfl)) (Or.inr (ow hw 63 rfl)) (by decide) (t := .int) (t' := .boolean) (by decide) (by decide)))).other W238 (Or.inr (slot_ne (Or.inr (ow hw 57 rfl)) (Or.inr (ow hw 65 rfl)) (by decide) (t := .int) (t' := .int) (by decide) (by decide)))).other W240 (Or.inr (slot_ne (Or.inr (ow hw 57 rfl)) (Or.inr (ow hw 67 rfl)) (by decide) (t := .int) (t' := .int) (by decide) (by decide)))).other W241 (Or.inr (slot_ne (Or.inr (ow hw 57 rfl)) (Or.inr (ow hw 70 rfl)) (by decide) (t := .int) (t' := .long) (by decide) (by decide)))).other W243 (Or.inr (slot_ne (Or.inr (ow hw 57 rfl)) (Or.inr (ow hw 72 rfl)) (by decide) (t := .int) (t' := .int) (by decide) (by decide)))).other W245 (Or.inr (slot_ne (Or.inr (ow hw 57 rfl)) (Or.inr (ow hw 74 rfl)) (by decide) (t := .int) (t' := .int) (by decide) (by decide)))), (((((((Fw235.other W236 (Or.inr (slot_ne (Or.inr (ow hw 59 rfl)) (Or.inr (ow hw 61 rfl)) (by decide) (t := (.object "com/example/sindano/sindano/boyermoore/Stretches$FastForm")) (t' := (.object "com/example/sindano/sindano/boyermoore/Stretches$FastForm")) (by decide) (by decide)))).other W237 (Or.inr (slot_ne (Or.inr (ow hw 59 rfl)) (Or.inr (ow hw 63 rfl)) (by decide) (t := (.object "com/example/sindano/sindano/boyermoore/Stretches$FastForm")) (t' := .boolean) (by decide) (by decide)))).other W238 (Or.inr (slot_ne (Or.inr (ow hw 59 rfl)) (Or.inr (ow hw 65 rfl)) (by decide) (t := (.object "com/example/sindano/sindano/boyermoore/Stretches$FastForm")) (t' := .int) (by decide) (by decide)))).other W240 (Or.inr (slot_ne (Or.inr (ow hw 59 rfl)) (Or.inr (ow hw 67 rfl)) (by decide) (t := (.object "com/example/sindano/sindano/boyermoore/Stretches$FastForm")) (t' := .int) (by decide) (by decide)))).other W241 (Or.inr (slot_ne (Or.inr (ow hw 59 rfl)) (Or.inr (ow hw 70 rfl)) (by decide) (t := (.object "com/example/sindano/sindano/boyermoore/Stretches$FastForm")) (t' := .long) (by decide) (by decide)))).other W243 (Or.inr (slot_ne (Or.inr (ow hw 59 rfl)) (Or.inr (ow hw 72 rfl)) (by decide) (t := (.object "com/example/sindano/sindano/boyermoore/Stretches$FastForm")) (t' := .int) (by decide) (by decide)))).other W245 (Or.inr (slot_ne (Or.inr (ow hw 59 rfl)) (Or.inr (ow hw 74 rfl)) (by decide) (t := (.object "com/example/sindano/sindano/boyermoore/Stretches$FastForm")) (t' := .int) (by decide) (by decide)))), ((((((Fw236.other W237 (Or.inr (slot_ne (Or.inr (ow hw 61 rfl)) (Or.inr (ow hw 63 rfl)) (by decide) (t := (.object "com/example/sindano/sindano/boyermoore/Stretches$FastForm")) (t' := .boolean) (by decide) (by decide)))).other W238 (Or.inr (slot_ne (Or.inr (ow hw 61 rfl)) (Or.inr (ow hw 65 rfl)) (by decide) (t := (.object "com/example/sindano/sindano/boyermoore/Stretches$FastForm")) (t' := .int) (by decide) (by decide)))).other W240 (Or.inr (slot_ne (Or.inr (ow hw 61 rfl)) (Or.inr (ow hw 67 rfl)) (by decide) (t := (.object "com/example/sindano/sindano/boyermoore/Stretches$FastForm")) (t' := .int) (by decide) (by decide)))).other W241 (Or.inr (slot_ne (Or.inr (ow hw 61 rfl)) (Or.inr (ow hw 70 rfl)) (by decide) (t := (.object "com/example/sindano/sindano/boyermoore/Stretches$FastForm")) (t' := .long) (by decide) (by decide)))).other W243 (Or.inr (slot_ne (Or.inr (ow hw 61 rfl)) (Or.inr (ow hw 72 rfl)) (by decide) (t := (.object "com/example/sindano/sindano/boyermoore/Stretches$FastForm")) (t' := .int) (by decide) (by decide)))).other W245 (Or.inr (slot_ne (Or.inr (ow hw 61 rfl)) (Or.inr (ow hw 74 rfl)) (by decide) (t := (.object "com/example/sindano/sindano/boyermoore/Stretches$FastForm")) (t' := .int) (by decide) (by decide)))), (((((Fw237.other W238 (Or.inr (slot_ne (Or.inr (ow hw 63 rfl)) (Or.inr (ow hw 65 rfl)) (by decide) (t := .boolean) (t' := .int) (by decide) (by decide)))).other W240 (Or.inr (slot_ne (Or.inr (ow hw 63 rfl)) (Or.inr (ow hw 67 rfl)) (by decide) (t := .boolean) (t' := .int) (by decide) (by decide)))).other W241 (Or.inr (slot_ne (Or.inr (ow hw 63 rfl)) (Or.inr (ow hw 70 rfl)) (by decide) (t := .boolean) (t' := .long) (by decide) (by decide)))).other W243 (Or.inr (slot_ne (Or.inr (ow hw 63 rfl)) (Or.inr (ow hw 72 rfl)) (by decide) (t := .boolean) (t' := .int) (by decide) (by decide)))).other W245 (Or.inr (slot_ne (Or.inr (ow hw 63 rfl)) (Or.inr (ow hw 74 rfl)) (by decide) (t := .boolean) (t' := .int) (by decide) (by decide)))), ((((Fw238.other W240 (Or.inr (slot_ne (Or.inr (ow hw 65 rfl)) (Or.inr (ow hw 67 rfl)) (by decide) (t := .int) (t' := .int) (by decide) (by decide)))).other W241 (Or.inr (slot_ne (Or.inr (ow hw 65 rfl)) (Or.inr (ow hw 70 rfl)) (by decide) (t := .int) (t' := .long) (by decide) (by decide)))).other W243 (Or.inr (slot_ne (Or.inr (ow hw 65 rfl)) (Or.inr (ow hw 72 rfl)) (by decide) (t := .int) (t' := .int) (by decide) (by decide)))).other W245 (Or.inr (slot_ne (Or.inr (ow hw 65 rfl)) (Or.inr (ow hw 74 rfl)) (by decide) (t := .int) (t' := .int) (by decide) (by decide)))), (((Fw240.other W241 (Or.inr (slot_ne (Or.inr (ow hw 67 rfl)) (Or.inr (ow hw 70 rfl)) (by decide) (t := .int) (t' := .long) (by decide) (by decide)))).other W243 (Or.inr (slot_ne (Or.inr (ow hw 67 rfl)) (Or.inr (ow hw 72 rfl)) (by decide) (t := .int) (t' := .int) (by decide) (by decide)))).other W245 (Or.inr (slot_ne (Or.inr (ow hw 67 rfl)) (Or.inr (ow hw 74 rfl)) (by decide) (t := .int) (t' := .int) (by decide) (by decide)))), ((Fw241.other W243 (Or.inr (slot_ne (Or.inr (ow hw 70 rfl)) (Or.inr (ow hw 72 rfl)) (by decide) (t := .long) (t' := .int) (by decide) (by decide)))).other W245 (Or.inr (slot_ne (Or.inr (ow hw 70 rfl)) (Or.inr (ow hw 74 rfl)) (by decide) (t := .long) (t' := .int) (by decide) (by decide)))), (Fw243.other W245 (Or.inr (slot_ne (Or.inr (ow hw 72 rfl)) (Or.inr (ow hw 74 rfl)) (by decide) (t := .int) (t' := .int) (by decide) (by decide)))), Fw245⟩

theorem d10_0 : decode prog_51_method_2_code 0 = .ok (.aload_n 0, 1) := by decide +kernel
theorem d10_1 : decode prog_51_method_2_code 1 = .ok (.getfield 9, 3) := by decide +kernel
theorem d10_4 : decode prog_51_method_2_code 4 = .ok (.iconst 1, 1) := by decide +kernel
theorem d10_5 : decode prog_51_method_2_code 5 = .ok (.isub, 1) := by decide +kernel
theorem d10_6 : decode prog_51_method_2_code 6 = .ok (.i2l, 1) := by decide +kernel
theorem d10_7 : decode prog_51_method_2_code 7 = .ok (.aload_n 0, 1) := by decide +kernel
theorem d10_8 : decode prog_51_method_2_code 8 = .ok (.getfield 26, 3) := by decide +kernel
theorem d10_11 : decode prog_51_method_2_code 11 = .ok (.i2l, 1) := by decide +kernel
theorem d10_12 : decode prog_51_method_2_code 12 = .ok (.ladd, 1) := by decide +kernel
theorem d10_13 : decode prog_51_method_2_code 13 = .ok (.lreturn, 1) := by decide +kernel
theorem pn10 : plainName "com/example/sindano/sindano/boyermoore/Stretches$Plan" = true := by first | (simp [plainName, overriddenIn]; done) | decide +kernel
theorem pdx_6 : parseMethodDescriptor "(ILcom/example/sindano/sindano/boyermoore/Stretches$FastForm;Lcom/example/sindano/sindano/boyermoore/Stretches$FastForm;Z)V" = some ⟨[.int, (.object "com/example/sindano/sindano/boyermoore/Stretches$FastForm"), (.object "com/example/sindano/sindano/boyermoore/Stretches$FastForm"), .boolean], none⟩ := by decide +kernel
theorem ef10_r (m : MethodId) (x0 : Addr) : entryFrame m #[(.ref x0)] 1 = mkF m 0 #[.val (.ref x0)] [] := by first | (simp [entryFrame, mkF, argsToLocals, Value.category]; done) | rfl
set_option maxRecDepth 65536 in
set_option maxHeartbeats 40000000 in
theorem rx10_256 (l : Launch) (Z : State) (a0 : Array Value) (hw : ∀ d ∈ tables_1, d.before a0 Z = true) (ws : List Jvm.Cond) (n0 : Nat) (h0 : Heap) (O0 : Old Z n0 h0)  (b231 : Addr) (PF_b231_patternLength : Fld Z h0 b231 "com/example/sindano/sindano/boyermoore/Stretches$Plan" "patternLength" "I" (.int (3 : Int32))) (PF_b231_length : Fld Z h0 b231 "com/example/sindano/sindano/boyermoore/Stretches$Plan" "length" "I" (.int (16386 : Int32))) :
    Meets1 l (⟨"com/example/sindano/sindano/boyermoore/Stretches$Plan", "firstStretchEnd", "()J"⟩ : MethodName) prog_51_method_2_code 1 (some .long) ws ({ frames := 0, cells := 0, slots := 0, locals := 0 } : Room) #[(.ref b231)] Z h0 (fun v h L => v = some (.long (16388 : Int64)) ∧ Fr n0 L ∧ Keep h0 h []) := by
  refine MetFree.of_bodySF (plainFor_of_name pn10) hisR ?_
  intro p e s m args below meth c s₁ Bd hml0 hP hK
  obtain ⟨rfl, hZ, hh⟩ := hP
  have hx := Bd.exec
  have hby := Bd.bytes
  have hml : c.maxLocals = 1 := hml0
  have hown : s.vm.findClass "com/example/sindano/sindano/boyermoore/Stretches$Plan" = some m.cls := findClass_of_methodNamed Bd.named
  have hnm := (name_of_methodNamed Bd.named Bd.method).1
  have X0 : Stand p l e ({ frames := 0, cells := 0, slots := 0, locals := 0 } : Room) s m #[(.ref b231)] below meth c s₁ [] 0 0 := Stand.of_body Bd
  have e0 : s₁.heap = h0 := by rw [← hh, Bd.state]; rfl
  have N0 := Fr.nil n0
  have Z0 := own_old_le O0
  show Ends p e below s s₁ (entryFrame m #[(.ref b231)] 1) ({ frames := 0, cells := 0, slots := 0, locals := 0 } : Room).cells ({ frames := 0, cells := 0, slots := 0, locals := 0 } : Room).slots (fun v h L => v = some (.long (16388 : Int64)) ∧ Fr n0 L ∧ Keep h0 h [])
  refine Ends.go (fun _ k => castTop (ef10_r m b231) k) ?_
  have K0 := Keep.refl h0 []
  show Ends p e below s s₁ (mkF m 0 #[.val (.ref b231)] []) _ _ _
  refine Ends.go (fun _ k => XS.aloadN X0.here hx rfl (hb hby d10_0) rfl rfl k) ?_
  obtain ⟨T257, X257, e257, st257⟩ := getF X0 hx hZ hown (host := "") (Or.inl (ow hw 56 rfl)) Via.refl e0 PF_b231_patternLength (g := (mkF m 1 #[.val (.ref b231)] [(.ref b231)])) rfl rfl (hb hby d10_1)
  refine Ends.go st257 ?_
  refine Ends.go (fun _ k => XS.iconst X257.here hx rfl (hb hby d10_4) k) ?_
  show Ends p e below s T257 (mkF m 5 #[.val (.ref b231)] [(.int (1 : Int32)), (.int (3 : Int32))]) _ _ _
  refine Ends.go (fun _ k => XS.isub X257.here hx rfl (hb hby d10_5) rfl k) ?_
  refine Ends.go (fun _ k => XS.i2l X257.here hx rfl (hb hby d10_6) rfl k) ?_
  refine Ends.go (fun _ k => XS.aloadN X257.here hx rfl (hb hby d10_7) rfl rfl k) ?_
  obtain ⟨T258, X258, e258, st258⟩ := getF X257 hx hZ hown (host := "") (Or.inl (ow hw 64 rfl)) Via.refl e257 PF_b231_length (g := (mkF m 8 #[.val (.ref b231)] [(.ref b231), (.long (2 : Int64))])) rfl rfl (hb hby d10_8)
  refine Ends.go st258 ?_
  show Ends p e below s T258 (mkF m 11 #[.val (.ref b231)] [(.int (16386 : Int32)), (.long (2 : Int64))]) _ _ _
  refine Ends.go (fun _ k => XS.i2l X258.here hx rfl (hb hby d10_11) rfl k) ?_
  refine Ends.go (fun _ k => XS.ladd X258.here hx rfl (hb hby d10_12) rfl k) ?_
  refine Ends.ret X258 hx Bd.notSynchronized (t := .long) Bd.returns rfl (Or.inr (Or.inl ⟨rfl, rfl, _, rfl⟩)) (hb hby d10_13) (by decide) (by decide) ?_
  rw [e258]
  exact ⟨rfl, N0, K0⟩

theorem d9_0 : decode prog_48_method_1_code 0 = .ok (.aload_n 0, 1) := by decide +kernel
theorem d9_1 : decode prog_48_method_1_code 1 = .ok (.invokespecial 1, 3) := by decide +kernel
theorem d9_4 : decode prog_48_method_1_code 4 = .ok (.aload_n 0, 1) := by decide +kernel
theorem d9_5 : decode prog_48_method_1_code 5 = .ok (.iconst 1, 1) := by decide +kernel
theorem d9_6 : decode prog_48_method_1_code 6 = .ok (.putfield 7, 3) := by decide +kernel
theorem d9_9 : decode prog_48_method_1_code 9 = .ok (.aload_n 0, 1) := by decide +kernel
theorem d9_10 : decode prog_48_method_1_code 10 = .ok (.iconst 1, 1) := by decide +kernel
theorem d9_11 : decode prog_48_method_1_code 11 = .ok (.putfield 13, 3) := by decide +kernel
theorem d9_14 : decode prog_48_method_1_code 14 = .ok (.aload_n 0, 1) := by decide +kernel
theorem d9_15 : decode prog_48_method_1_code 15 = .ok (.getstatic 17, 3) := by decide +kernel
theorem d9_18 : decode prog_48_method_1_code 18 = .ok (.putfield 23, 3) := by decide +kernel
theorem d9_21 : decode prog_48_method_1_code 21 = .ok (.aload_n 0, 1) := by decide +kernel
theorem d9_22 : decode prog_48_method_1_code 22 = .ok (.aload_n 1, 1) := by decide +kernel
theorem d9_23 : decode prog_48_method_1_code 23 = .ok (.putfield 26, 3) := by decide +kernel
theorem d9_26 : decode prog_48_method_1_code 26 = .ok (.aload_n 0, 1) := by decide +kernel
theorem d9_27 : decode prog_48_method_1_code 27 = .ok (.aload_n 1, 1) := by decide +kernel
theorem d9_28 : decode prog_48_method_1_code 28 = .ok (.getfield 30, 3) := by decide +kernel
theorem d9_31 : decode prog_48_method_1_code 31 = .ok (.iconst 1, 1) := by decide +kernel
theorem d9_32 : decode prog_48_method_1_code 32 = .ok (.isub, 1) := by decide +kernel
theorem d9_33 : decode prog_48_method_1_code 33 = .ok (.i2l, 1) := by decide +kernel
theorem d9_34 : decode prog_48_method_1_code 34 = .ok (.putfield 35, 3) := by decide +kernel
theorem d9_37 : decode prog_48_method_1_code 37 = .ok (.aload_n 0, 1) := by decide +kernel
theorem d9_38 : decode prog_48_method_1_code 38 = .ok (.aload_n 1, 1) := by decide +kernel
theorem d9_39 : decode prog_48_method_1_code 39 = .ok (.invokevirtual 39, 3) := by decide +kernel
theorem d9_42 : decode prog_48_method_1_code 42 = .ok (.putfield 43, 3) := by decide +kernel
theorem d9_45 : decode prog_48_method_1_code 45 = .ok (.aload_n 0, 1) := by decide +kernel
theorem d9_46 : decode prog_48_method_1_code 46 = .ok (.aload_n 1, 1) := by decide +kernel
theorem d9_47 : decode prog_48_method_1_code 47 = .ok (.getfield 46, 3) := by decide +kernel
theorem d9_50 : decode prog_48_method_1_code 50 = .ok (.ifnull 7, 3) := by decide +kernel
theorem d9_57 : decode prog_48_method_1_code 57 = .ok (.iconst 0, 1) := by decide +kernel
theorem d9_58 : decode prog_48_method_1_code 58 = .ok (.putfield 50, 3) := by decide +kernel
theorem d9_61 : decode prog_48_method_1_code 61 = .ok (.aload_n 0, 1) := by decide +kernel
theorem d9_62 : decode prog_48_method_1_code 62 = .ok (.aload_n 0, 1) := by decide +kernel
theorem d9_63 : decode prog_48_method_1_code 63 = .ok (.getfield 50, 3) := by decide +kernel
theorem d9_66 : decode prog_48_method_1_code 66 = .ok (.ifCond .eq 9, 3) := by decide +kernel
theorem d9_75 : decode prog_48_method_1_code 75 = .ok (.getstatic 17, 3) := by decide +kernel
theorem d9_78 : decode prog_48_method_1_code 78 = .ok (.putfield 56, 3) := by decide +kernel
theorem d9_81 : decode prog_48_method_1_code 81 = .ok (.return_, 1) := by decide +kernel
theorem pn9 : plainName "com/example/sindano/sindano/boyermoore/Stretches" = true := by first | (simp [plainName, overriddenIn]; done) | decide +kernel
theorem pdx_7 : parseMethodDescriptor "()J" = some ⟨[], some .long⟩ := by decide +kernel
theorem ef9_rr (m : MethodId) (x0 : Addr) (x1 : Addr) : entryFrame m #[(.ref x0), (.ref x1)] 2 = mkF m 0 #[.val (.ref x0), .val (.ref x1)] [] := by first | (simp [entryFrame, mkF, argsToLocals, Value.category]; done) | rfl
set_option maxRecDepth 65536 in
set_option maxHeartbeats 40000000 in
theorem rx9_247 (l : Launch) (Z : State) (a0 : Array Value) (hw : ∀ d ∈ tables_1, d.before a0 Z = true) (ws : List Jvm.Cond) (n0 : Nat) (h0 : Heap) (O0 : Old Z n0 h0) (w_CLASSIC : Addr) (FF : GlobF Z w_CLASSIC) (b230 : Addr) (b231 : Addr) (PE_b230 : Exa Z h0 b230 "com/example/sindano/sindano/boyermoore/Stretches") (PF_b230_skippedWhole : Fld Z h0 b230 "com/example/sindano/sindano/boyermoore/Stretches" "skippedWhole" "Z" (.int (0 : Int32))) (PF_b230_pause : Fld Z h0 b230 "com/example/sindano/sindano/boyermoore/Stretches" "pause" "I" (.int (0 : Int32))) (PF_b230_resting : Fld Z h0 b230 "com/example/sindano/sindano/boyermoore/Stretches" "resting" "Lcom/example/sindano/sindano/boyermoore/Stretches$Opening;" .null) (PF_b230_plan : Fld Z h0 b230 "com/example/sindano/sindano/boyermoore/Stretches" "plan" "Lcom/example/sindano/sindano/boyermoore/Stretches$Plan;" .null) (PF_b231_patternLength : Fld Z h0 b231 "com/example/sindano/sindano/boyermoore/Stretches$Plan" "patternLength" "I" (.int (3 : Int32))) (PF_b230_window : Fld Z h0 b230 "com/example/sindano/sindano/boyermoore/Stretches" "window" "J" (.long (0 : Int64))) (PF_b231_length : Fld Z h0 b231 "com/example/sindano/sindano/boyermoore/Stretches$Plan" "length" "I" (.int (16386 : Int32))) (PE_b231 : Exa Z h0 b231 "com/example/sindano/sindano/boyermoore/Stretches$Plan") (PF_b230_stretchEnd : Fld Z h0 b230 "com/example/sindano/sindano/boyermoore/Stretches" "stretchEnd" "J" (.long (0 : Int64))) (PF_b231_opening : Fld Z h0 b231 "com/example/sindano/sindano/boyermoore/Stretches$Plan" "opening" "Lcom/example/sindano/sindano/boyermoore/Stretches$FastForm;" .null) (PF_b230_seeking : Fld Z h0 b230 "com/example/sindano/sindano/boyermoore/Stretches" "seeking" "Z" (.int (0 : Int32))) (PF_b230_next : Fld Z h0 b230 "com/example/sindano/sindano/boyermoore/Stretches" "next" "Lcom/example/sindano/sindano/boyermoore/Stretches$Opening;" .null) (PF_b230_made : Fld Z h0 b230 "com/example/sindano/sindano/boyermoore/Stretches" "made" "J" (.long (0 : Int64))) (ne_b231_b230 : b231 ≠ b230) (g_b230 : n0 ≤ b230) :
    Meets1 l (⟨"com/example/sindano/sindano/boyermoore/Stretches", "<init>", "(Lcom/example/sindano/sindano/boyermoore/Stretches$Plan;)V"⟩ : MethodName) prog_48_method_1_code 2 none ws ({ frames := 1, cells := 0, slots := 0, locals := 13 } : Room) #[(.ref b230), (.ref b231)] Z h0 (fun v h L => v = none ∧ Fr n0 L ∧ Keep h0 h [b230] ∧ Fld Z h b230 "com/example/sindano/sindano/boyermoore/Stretches" "skippedWhole" "Z" (.int (1 : Int32)) ∧ Fld Z h b230 "com/example/sindano/sindano/boyermoore/Stretches" "pause" "I" (.int (1 : Int32)) ∧ Fld Z h b230 "com/example/sindano/sindano/boyermoore/Stretches" "resting" "Lcom/example/sindano/sindano/boyermoore/Stretches$Opening;" (.ref w_CLASSIC) ∧ Fld Z h b230 "com/example/sindano/sindano/boyermoore/Stretches" "plan" "Lcom/example/sindano/sindano/boyermoore/Stretches$Plan;" (.ref b231) ∧ Fld Z h b230 "com/example/sindano/sindano/boyermoore/Stretches" "window" "J" (.long (2 : Int64)) ∧ Fld Z h b230 "com/example/sindano/sindano/boyermoore/Stretches" "stretchEnd" "J" (.long (16388 : Int64)) ∧ Fld Z h b230 "com/example/sindano/sindano/boyermoore/Stretches" "seeking" "Z" (.int (0 : Int32)) ∧ Fld Z h b230 "com/example/sindano/sindano/boyermoore/Stretches" "next" "Lcom/example/sindano/sindano/boyermoore/Stretches$Opening;" (.ref w_CLASSIC) ∧ Fld Z h b230 "com/example/sindano/sindano/boyermoore/Stretches" "made" "J" (.long (0 : Int64))) := by
  refine MetFree.of_bodySF (plainFor_of_name pn9) hisR ?_
  intro p e s m args below meth c s₁ Bd hml0 hP hK
  obtain ⟨rfl, hZ, hh⟩ := hP
  have hx := Bd.exec
  have hby := Bd.bytes
  have hml : c.maxLocals = 2 := hml0
  have hown : s.vm.findClass "com/example/sindano/sindano/boyermoore/Stretches" = some m.cls := findClass_of_methodNamed Bd.named
  have hnm := (name_of_methodNamed Bd.named Bd.method).1
  have X0 : Stand p l e ({ frames := 1, cells := 0, slots := 0, locals := 13 } : Room) s m #[(.ref b230), (.ref b231)] below meth c s₁ [] 0 0 := Stand.of_body Bd
  have e0 : s₁.heap = h0 := by rw [← hh, Bd.state]; rfl
  have N0 := Fr.nil n0
  have Z0 := own_old_le O0
  show Ends p e below s s₁ (entryFrame m #[(.ref b230), (.ref b231)] 2) ({ frames := 1, cells := 0, slots := 0, locals := 13 } : Room).cells ({ frames := 1, cells := 0, slots := 0, locals := 13 } : Room).slots (fun v h L => v = none ∧ Fr n0 L ∧ Keep h0 h [b230] ∧ Fld Z h b230 "com/example/sindano/sindano/boyermoore/Stretches" "skippedWhole" "Z" (.int (1 : Int32)) ∧ Fld Z h b230 "com/example/sindano/sindano/boyermoore/Stretches" "pause" "I" (.int (1 : Int32)) ∧ Fld Z h b230 "com/example/sindano/sindano/boyermoore/Stretches" "resting" "Lcom/example/sindano/sindano/boyermoore/Stretches$Opening;" (.ref w_CLASSIC) ∧ Fld Z h b230 "com/example/sindano/sindano/boyermoore/Stretches" "plan" "Lcom/example/sindano/sindano/boyermoore/Stretches$Plan;" (.ref b231) ∧ Fld Z h b230 "com/example/sindano/sindano/boyermoore/Stretches" "window" "J" (.long (2 : Int64)) ∧ Fld Z h b230 "com/example/sindano/sindano/boyermoore/Stretches" "stretchEnd" "J" (.long (16388 : Int64)) ∧ Fld Z h b230 "com/example/sindano/sindano/boyermoore/Stretches" "seeking" "Z" (.int (0 : Int32)) ∧ Fld Z h b230 "com/example/sindano/sindano/boyermoore/Stretches" "next" "Lcom/example/sindano/sindano/boyermoore/Stretches$Opening;" (.ref w_CLASSIC) ∧ Fld Z h b230 "com/example/sindano/sindano/boyermoore/Stretches" "made" "J" (.long (0 : Int64)))
  refine Ends.go (fun _ k => castTop (ef9_rr m b230 b231) k) ?_
  have FF0 := FF
  obtain ⟨S_CLASSIC, E_CLASSIC⟩ := FF
  have K0 := Keep.refl h0 [b230]
  show Ends p e below s s₁ (mkF m 0 #[.val (.ref b230), .val (.ref b231)] []) _ _ _
  refine Ends.go (fun _ k => XS.aloadN X0.here hx rfl (hb hby d9_0) rfl rfl k) ?_
  obtain ⟨T248, X248, e248, st248⟩ := initO X0 hx hZ hown (ow hw 78 rfl) (ow hw 20 rfl) (ow hw 21 rfl) e0 (g := (mkF m 1 #[.val (.ref b230), .val (.ref b231)] [(.ref b230)])) rfl (by rw [hml]; rfl) rfl (hb hby d9_1) (by decide) (W := 0) (by show 2 * 0 + _ ≤ _; exact Nat.le_of_eq rfl) (by decide)
  refine Ends.go st248 ?_
  refine Ends.go (fun _ k => XS.aloadN X248.here hx rfl (hb hby d9_4) rfl rfl k) ?_
  show Ends p e below s T248 (mkF m 5 #[.val (.ref b230), .val (.ref b231)] [(.ref b230)]) _ _ _
  refine Ends.go (fun _ k => XS.iconst X248.here hx rfl (hb hby d9_5) k) ?_
  obtain ⟨T249, h249, X249, e249, W249, st249⟩ := putFN X248 hx hZ hown (ow hw 79 rfl) Via.refl e248 PF_b230_skippedWhole PE_b230 (Or.inl (ow hw 80 rfl)) (ow hw 47 rfl) (ty := .boolean) (v' := (.int (1 : Int32))) (by decide) rfl (by decide) (g := (mkF m 6 #[.val (.ref b230), .val (.ref b231)] [(.int (1 : Int32)), (.ref b230)])) rfl rfl (hb hby d9_6)
  refine Ends.go st249 ?_
  have Fw249 := PF_b230_skippedWhole.same W249
  have K249 := K0.wr W249 (Or.inl (List.mem_of_getElem? (i := 0) rfl))
  have O249 := O0.wr W249 g_b230
  have N249 := Fr.snoc X249 N0 g_b230
  refine Ends.go (fun _ k => XS.aloadN X249.here hx rfl (hb hby d9_9) rfl rfl k) ?_
  refine Ends.go (fun _ k => XS.iconst X249.here hx rfl (hb hby d9_10) k) ?_
  show Ends p e below s T249 (mkF m 11 #[.val (.ref b230), .val (.ref b231)] [(.int (1 : Int32)), (.ref b230)]) _ _ _
  obtain ⟨T250, h250, X250, e250, W250, st250⟩ := putF X249 hx hZ hown (host := "") (Or.inl (ow hw 81 rfl)) Via.refl e249 (PF_b230_pause.other W249 (Or.inr (slot_ne (Or.inl (ow hw 82 rfl)) (Or.inl (ow hw 80 rfl)) (by decide) (t := .int) (t' := .boolean) (by decide) (by decide)))) (PE_b230.wr W249) (Or.inl (ow hw 82 rfl)) (ow hw 47 rfl) (ty := .int) (by decide) rfl rfl (g := (mkF m 11 #[.val (.ref b230), .val (.ref b231)] [(.int (1 : Int32)), (.ref b230)])) rfl rfl (hb hby d9_11)
  refine Ends.go st250 ?_
  have Fw250 := (PF_b230_pause.other W249 (Or.inr (slot_ne (Or.inl (ow hw 82 rfl)) (Or.inl (ow hw 80 rfl)) (by decide) (t := .int) (t' := .boolean) (by decide) (by decide)))).same W250
  have K250 := K249.wr W250 (Or.inl (List.mem_of_getElem? (i := 0) rfl))
  have O250 := O249.wr W250 g_b230
  have N250 := Fr.snoc X250 N249 g_b230
  refine Ends.go (fun _ k => XS.aloadN X250.here hx rfl (hb hby d9_14) rfl rfl k) ?_
  obtain ⟨T251, X251, e251, st251⟩ := getS2 X250 hx hZ hown (host := "") (Or.inl (ow hw 83 rfl)) Via.refl e250 (S_CLASSIC.ext O250.2) (g := (mkF m 15 #[.val (.ref b230), .val (.ref b231)] [(.ref b230)])) rfl (hb hby d9_15)
  refine Ends.go st251 ?_
  obtain ⟨T252, h252, X252, e252, W252, st252⟩ := putF X251 hx hZ hown (host := "") (Or.inl (ow hw 86 rfl)) Via.refl e251 ((PF_b230_resting.other W249 (Or.inr (slot_ne (Or.inl (ow hw 87 rfl)) (Or.inl (ow hw 80 rfl)) (by decide) (t := (.object "com/example/sindano/sindano/boyermoore/Stretches$Opening")) (t' := .boolean) (by decide) (by decide)))).other W250 (Or.inr (slot_ne (Or.inl (ow hw 87 rfl)) (Or.inl (ow hw 82 rfl)) (by decide) (t := (.object "com/example/sindano/sindano/boyermoore/Stretches$Opening")) (t' := .int) (by decide) (by decide)))) ((PE_b230.wr W249).wr W250) (Or.inl (ow hw 87 rfl)) (ow hw 47 rfl) (ty := (.object "com/example/sindano/sindano/boyermoore/Stretches$Opening")) (by decide) rfl rfl (g := (mkF m 18 #[.val (.ref b230), .val (.ref b231)] [(.ref w_CLASSIC), (.ref b230)])) rfl rfl (hb hby d9_18)
  refine Ends.go st252 ?_
  have Fw252 := ((PF_b230_resting.other W249 (Or.inr (slot_ne (Or.inl (ow hw 87 rfl)) (Or.inl (ow hw 80 rfl)) (by decide) (t := (.object "com/example/sindano/sindano/boyermoore/Stretches$Opening")) (t' := .boolean) (by decide) (by decide)))).other W250 (Or.inr (slot_ne (Or.inl (ow hw 87 rfl)) (Or.inl (ow hw 82 rfl)) (by decide) (t := (.object "com/example/sindano/sindano/boyermoore/Stretches$Opening")) (t' := .int) (by decide) (by decide)))).same W252
  have K252 := K250.wr W252 (Or.inl (List.mem_of_getElem? (i := 0) rfl))
  have O252 := O250.wr W252 g_b230
  have N252 := Fr.snoc X252 N250 g_b230
  show Ends p e below s T252 (mkF m 21 #[.val (.ref b230), .val (.ref b231)] []) _ _ _
  refine Ends.go (fun _ k => XS.aloadN X252.here hx rfl (hb hby d9_21) rfl rfl k) ?_
  refine Ends.go (fun _ k => XS.aloadN X252.here hx rfl (hb hby d9_22) rfl rfl k) ?_
  obtain ⟨T253, h253, X253, e253, W253, st253⟩ := putF X252 hx hZ hown (host := "") (Or.inl (ow hw 88 rfl)) Via.refl e252 (((PF_b230_plan.other W249 (Or.inr (slot_ne (Or.inr (ow hw 89 rfl)) (Or.inl (ow hw 80 rfl)) (by decide) (t := (.object "com/example/sindano/sindano/boyermoore/Stretches$Plan")) (t' := .boolean) (by decide) (by decide)))).other W250 (Or.inr (slot_ne (Or.inr (ow hw 89 rfl)) (Or.inl (ow hw 82 rfl)) (by decide) (t := (.object "com/example/sindano/sindano/boyermoore/Stretches$Plan")) (t' := .int) (by decide) (by decide)))).other W252 (Or.inr (slot_ne (Or.inr (ow hw 89 rfl)) (Or.inl (ow hw 87 rfl)) (by decide) (t := (.object "com/example/sindano/sindano/boyermoore/Stretches$Plan")) (t' := (.object "com/example/sindano/sindano/boyermoore/Stretches$Opening")) (by decide) (by decide)))) (((PE_b230.wr W249).wr W250).wr W252) (Or.inr ⟨(ow hw 89 rfl), rfl, hnm⟩) (ow hw 47 rfl) (ty := (.object "com/example/sindano/sindano/boyermoore/Stretches$Plan")) (by decide) rfl rfl (g := (mkF m 23 #[.val (.ref b230), .val (.ref b231)] [(.ref b231), (.ref b230)])) rfl rfl (hb hby d9_23)
  refine Ends.go st253 ?_
  have Fw253 := (((PF_b230_plan.other W249 (Or.inr (slot_ne (Or.inr (ow hw 89 rfl)) (Or.inl (ow hw 80 rfl)) (by decide) (t := (.object "com/example/sindano/sindano/boyermoore/Stretches$Plan")) (t' := .boolean) (by decide) (by decide)))).other W250 (Or.inr (slot_ne (Or.inr (ow hw 89 rfl)) (Or.inl (ow hw 82 rfl)) (by decide) (t := (.object "com/example/sindano/sindano/boyermoore/Stretches$Plan")) (t' := .int) (by decide) (by decide)))).other W252 (Or.inr (slot_ne (Or.inr (ow hw 89 rfl)) (Or.inl (ow hw 87 rfl)) (by decide) (t := (.object "com/example/sindano/sindano/boyermoore/Stretches$Plan")) (t' := (.object "com/example/sindano/sindano/boyermoore/Stretches$Opening")) (by decide) (by decide)))).same W253
  have K253 := K252.wr W253 (Or.inl (List.mem_of_getElem? (i := 0) rfl))
  have O253 := O252.wr W253 g_b230
  have N253 := Fr.snoc X253 N252 g_b230
  refine Ends.go (fun _ k => XS.aloadN X253.here hx rfl (hb hby d9_26) rfl rfl k) ?_
  show Ends p e below s T253 (mkF m 27 #[.val (.ref b230), .val (.ref b231)] [(.ref b230)]) _ _ _
  refine Ends.go (fun _ k => XS.aloadN X253.here hx rfl (hb hby d9_27) rfl rfl k) ?_
  obtain ⟨T254, X254, e254, st254⟩ := own_getFR X253 hx hZ hown (ow hw 90 rfl) Via.refl e253 ((((PF_b231_patternLength.other W249 (Or.inl ne_b231_b230)).other W250 (Or.inl ne_b231_b230)).other W252 (Or.inl ne_b231_b230)).other W253 (Or.inl ne_b231_b230)) (g := (mkF m 28 #[.val (.ref b230), .val (.ref b231)] [(.ref b231), (.ref b230)])) rfl rfl (hb hby d9_28)
  refine Ends.go st254 ?_
  refine Ends.go (fun _ k => XS.iconst X254.here hx rfl (hb hby d9_31) k) ?_
  refine Ends.go (fun _ k => XS.isub X254.here hx rfl (hb hby d9_32) rfl k) ?_
  show Ends p e below s T254 (mkF m 33 #[.val (.ref b230), .val (.ref b231)] [(.int (2 : Int32)), (.ref b230)]) _ _ _
  refine Ends.go (fun _ k => XS.i2l X254.here hx rfl (hb hby d9_33) rfl k) ?_
  obtain ⟨T255, h255, X255, e255, W255, st255⟩ := putF X254 hx hZ hown (host := "") (Or.inl (ow hw 91 rfl)) Via.refl e254 ((((PF_b230_window.other W249 (Or.inr (slot_ne (Or.inl (ow hw 92 rfl)) (Or.inl (ow hw 80 rfl)) (by decide) (t := .long) (t' := .boolean) (by decide) (by decide)))).other W250 (Or.inr (slot_ne (Or.inl (ow hw 92 rfl)) (Or.inl (ow hw 82 rfl)) (by decide) (t := .long) (t' := .int) (by decide) (by decide)))).other W252 (Or.inr (slot_ne (Or.inl (ow hw 92 rfl)) (Or.inl (ow hw 87 rfl)) (by decide) (t := .long) (t' := (.object "com/example/sindano/sindano/boyermoore/Stretches$Opening")) (by decide) (by decide)))).other W253 (Or.inr (slot_ne (Or.inl (ow hw 92 rfl)) (Or.inr (ow hw 89 rfl)) (by decide) (t := .long) (t' := (.object "com/example/sindano/sindano/boyermoore/Stretches$Plan")) (by decide) (by decide)))) ((((PE_b230.wr W249).wr W250).wr W252).wr W253) (Or.inl (ow hw 92 rfl)) (ow hw 47 rfl) (ty := .long) (by decide) rfl rfl (g := (mkF m 34 #[.val (.ref b230), .val (.ref b231)] [(.long (2 : Int64)), (.ref b230)])) rfl rfl (hb hby d9_34)
  refine Ends.go st255 ?_
  have Fw255 := ((((PF_b230_window.other W249 (Or.inr (slot_ne (Or.inl (ow hw 92 rfl)) (Or.inl (ow hw 80 rfl)) (by decide) (t := .long) (t' := .boolean) (by decide) (by decide)))).other W250 (Or.inr (slot_ne (Or.inl (ow hw 92 rfl)) (Or.inl (ow hw 82 rfl)) (by decide) (t := .long) (t' := .int) (by decide) (by decide)))).other W252 (Or.inr (slot_ne (Or.inl (ow hw 92 rfl)) (Or.inl (ow hw 87 rfl)) (by decide) (t := .long) (t' := (.object "com/example/sindano/sindano/boyermoore/Stretches$Opening")) (by decide) (by decide)))).other W253 (Or.inr (slot_ne (Or.inl (ow hw 92 rfl)) (Or.inr (ow hw 89 rfl)) (by decide) (t := .long) (t' := (.object "com/example/sindano/sindano/boyermoore/Stretches$Plan")) (by decide) (by decide)))).same W255
  have K255 := K253.wr W255 (Or.inl (List.mem_of_getElem? (i := 0) rfl))
  have O255 := O253.wr W255 g_b230
  have N255 := Fr.snoc X255 N253 g_b230
  refine Ends.go (fun _ k => XS.aloadN X255.here hx rfl (hb hby d9_37) rfl rfl k) ?_
  refine Ends.go (fun _ k => XS.aloadN X255.here hx rfl (hb hby d9_38) rfl rfl k) ?_
  show Ends p e below s T255 (mkF m 39 #[.val (.ref b230), .val (.ref b231)] [(.ref b231), (.ref b230)]) _ _ _
  obtain ⟨cq259, kq259, q259a, q259b, q259c⟩ := isOf hZ e255 (((((PE_b231.wr W249).wr W250).wr W252).wr W253).wr W255)
  obtain ⟨_, _, ⟨T259, L259, k259, n259⟩, -, X259, ⟨Lc259, hQ259, l259, y259, z259⟩, st259⟩ := X255.virtualBack hx (y := (⟨"com/example/sindano/sindano/boyermoore/Stretches$Plan", "firstStretchEnd", "()J"⟩ : MethodName)) (z := (⟨"com/example/sindano/sindano/boyermoore/Stretches$Plan", "firstStretchEnd", "()J"⟩ : MethodName)) hown (mvT hZ (ow hw 93 rfl)) (mvT hZ (ow hw 94 rfl)) (notFace_of_selects (args := #[]) (mvT hZ (ow hw 96 rfl))) (mvT hZ (ow hw 96 rfl)) (mvT hZ (ow hw 95 rfl)) (by decide) (own_backOf (W := 1) (rx10_256 l Z a0 hw [] n0 h255 O255  b231 (((((PF_b231_patternLength.other W249 (Or.inl ne_b231_b230)).other W250 (Or.inl ne_b231_b230)).other W252 (Or.inl ne_b231_b230)).other W253 (Or.inl ne_b231_b230)).other W255 (Or.inl ne_b231_b230)) (((((PF_b231_length.other W249 (Or.inl ne_b231_b230)).other W250 (Or.inl ne_b231_b230)).other W252 (Or.inl ne_b231_b230)).other W253 (Or.inl ne_b231_b230)).other W255 (Or.inl ne_b231_b230))) hZ (ow hw 97 rfl) (ow hw 51 rfl) (by decide) (by decide)) q259a q259c (g := (mkF m 39 #[.val (.ref b230), .val (.ref b231)] [(.ref b231), (.ref b230)])) rfl (by rw [hml]; rfl) (Steps.refl _) (argsL := []) (rest := [(.ref b230)]) (lenOf pdx_7 rfl) rfl (by show 2 * 0 + _ ≤ _; exact Nat.le_of_eq rfl) (hb hby d9_39) (fun _ _ => ⟨rfl, e255, (by decide : 0 + 0 ≤ _), (by decide : 0 + 0 ≤ _)⟩)
  dsimp only [Pt.U, Pt.locs, Pt.cells, Pt.slots] at X259 l259 y259 z259 st259 hQ259
  subst l259 y259 z259
  obtain ⟨rfl, N259q, K259c⟩ := hQ259
  have N259 := Fr.app N255 N259q
  refine Ends.go (fun _ k => st259.trans k) ?_
  obtain ⟨h259, e259⟩ : ∃ z, T259.heap = z := ⟨_, rfl⟩
  rw [e259] at K259c
  have K259 := K255.trans K259c all0
  have O259 := O255.keep K259c all0
  obtain ⟨T260, h260, X260, e260, W260, st260⟩ := putF X259 hx hZ hown (host := "") (Or.inl (ow hw 98 rfl)) Via.refl e259 ((((((PF_b230_stretchEnd.other W249 (Or.inr (slot_ne (Or.inl (ow hw 99 rfl)) (Or.inl (ow hw 80 rfl)) (by decide) (t := .long) (t' := .boolean) (by decide) (by decide)))).other W250 (Or.inr (slot_ne (Or.inl (ow hw 99 rfl)) (Or.inl (ow hw 82 rfl)) (by decide) (t := .long) (t' := .int) (by decide) (by decide)))).other W252 (Or.inr (slot_ne (Or.inl (ow hw 99 rfl)) (Or.inl (ow hw 87 rfl)) (by decide) (t := .long) (t' := (.object "com/example/sindano/sindano/boyermoore/Stretches$Opening")) (by decide) (by decide)))).other W253 (Or.inr (slot_ne (Or.inl (ow hw 99 rfl)) (Or.inr (ow hw 89 rfl)) (by decide) (t := .long) (t' := (.object "com/example/sindano/sindano/boyermoore/Stretches$Plan")) (by decide) (by decide)))).other W255 (Or.inr (slot_ne (Or.inl (ow hw 99 rfl)) (Or.inl (ow hw 92 rfl)) (by decide) (t := .long) (t' := .long) (by decide) (by decide)))).keep K259c nin0) ((((((PE_b230.wr W249).wr W250).wr W252).wr W253).wr W255).keep K259c) (Or.inl (ow hw 99 rfl)) (ow hw 47 rfl) (ty := .long) (by decide) rfl rfl (g := (mkF m 42 #[.val (.ref b230), .val (.ref b231)] [(.long (16388 : Int64)), (.ref b230)])) rfl rfl (hb hby d9_42)
  refine Ends.go st260 ?_
  have Fw260 := ((((((PF_b230_stretchEnd.other W249 (Or.inr (slot_ne (Or.inl (ow hw 99 rfl)) (Or.inl (ow hw 80 rfl)) (by decide) (t := .long) (t' := .boolean) (by decide) (by decide)))).other W250 (Or.inr (slot_ne (Or.inl (ow hw 99 rfl)) (Or.inl (ow hw 82 rfl)) (by decide) (t := .long) (t' := .int) (by decide) (by decide)))).other W252 (Or.inr (slot_ne (Or.inl (ow hw 99 rfl)) (Or.inl (ow hw 87 rfl)) (by decide) (t := .long) (t' := (.object "com/example/sindano/sindano/boyermoore/Stretches$Opening")) (by decide) (by decide)))).other W253 (Or.inr (slot_ne (Or.inl (ow hw 99 rfl)) (Or.inr (ow hw 89 rfl)) (by decide) (t := .long) (t' := (.object "com/example/sindano/sindano/boyermoore/Stretches$Plan")) (by decide) (by decide)))).other W255 (Or.inr (slot_ne (Or.inl (ow hw 99 rfl)) (Or.inl (ow hw 92 rfl)) (by decide) (t := .long) (t' := .long) (by decide) (by decide)))).keep K259c nin0).same W260
  have K260 := K259.wr W260 (Or.inl (List.mem_of_getElem? (i := 0) rfl))
  have O260 := O259.wr W260 g_b230
  have N260 := Fr.snoc X260 N259 g_b230
  refine Ends.go (fun _ k => XS.aloadN X260.here hx rfl (hb hby d9_45) rfl rfl k) ?_
  refine Ends.go (fun _ k => XS.aloadN X260.here hx rfl (hb hby d9_46) rfl rfl k) ?_
  show Ends p e below s T260 (mkF m 47 #[.val (.ref b230), .val (.ref b231)] [(.ref b231), (.ref b230)]) _ _ _
  obtain ⟨T261, X261, e261, st261⟩ := own_getFR X260 hx hZ hown (ow hw 100 rfl) Via.refl e260 (((((((PF_b231_opening.other W249 (Or.inl ne_b231_b230)).other W250 (Or.inl ne_b231_b230)).other W252 (Or.inl ne_b231_b230)).other W253 (Or.inl ne_b231_b230)).other W255 (Or.inl ne_b231_b230)).keep K259c nin0).other W260 (Or.inl ne_b231_b230)) (g := (mkF m 47 #[.val (.ref b230), .val (.ref b231)] [(.ref b231), (.ref b230)])) rfl rfl (hb hby d9_47)
  refine Ends.go st261 ?_
  refine Ends.go (fun _ k => XS.ifnullYes X261.here hx rfl (pc0 := 50) (pc' := 57) rfl (hb hby d9_50) rfl (by decide) (by decide) k) ?_
  refine Ends.go (fun _ k => XS.iconst X261.here hx rfl (hb hby d9_57) k) ?_
  obtain ⟨T262, h262, X262, e262, W262, st262⟩ := putFN X261 hx hZ hown (ow hw 101 rfl) Via.refl e261 (((((((PF_b230_seeking.other W249 (Or.inr (slot_ne (Or.inl (ow hw 102 rfl)) (Or.inl (ow hw 80 rfl)) (by decide) (t := .boolean) (t' := .boolean) (by decide) (by decide)))).other W250 (Or.inr (slot_ne (Or.inl (ow hw 102 rfl)) (Or.inl (ow hw 82 rfl)) (by decide) (t := .boolean) (t' := .int) (by decide) (by decide)))).other W252 (Or.inr (slot_ne (Or.inl (ow hw 102 rfl)) (Or.inl (ow hw 87 rfl)) (by decide) (t := .boolean) (t' := (.object "com/example/sindano/sindano/boyermoore/Stretches$Opening")) (by decide) (by decide)))).other W253 (Or.inr (slot_ne (Or.inl (ow hw 102 rfl)) (Or.inr (ow hw 89 rfl)) (by decide) (t := .boolean) (t' := (.object "com/example/sindano/sindano/boyermoore/Stretches$Plan")) (by decide) (by decide)))).other W255 (Or.inr (slot_ne (Or.inl (ow hw 102 rfl)) (Or.inl (ow hw 92 rfl)) (by decide) (t := .boolean) (t' := .long) (by decide) (by decide)))).keep K259c nin0).other W260 (Or.inr (slot_ne (Or.inl (ow hw 102 rfl)) (Or.inl (ow hw 99 rfl)) (by decide) (t := .boolean) (t' := .long) (by decide) (by decide)))) (((((((PE_b230.wr W249).wr W250).wr W252).wr W253).wr W255).keep K259c).wr W260) (Or.inl (ow hw 102 rfl)) (ow hw 47 rfl) (ty := .boolean) (v' := (.int (0 : Int32))) (by decide) rfl (by decide) (g := (mkF m 58 #[.val (.ref b230), .val (.ref b231)] [(.int (0 : Int32)), (.ref b230)])) rfl rfl (hb hby d9_58)
  refine Ends.go st262 ?_
  have Fw262 := (((((((PF_b230_seeking.other W249 (Or.inr (slot_ne (Or.inl (ow hw 102 rfl)) (Or.inl (ow hw 80 rfl)) (by decide) (t := .boolean) (t' := .boolean) (by decide) (by decide)))).other W250 (Or.inr (slot_ne (Or.inl (ow hw 102 rfl)) (Or.inl (ow hw 82 rfl)) (by decide) (t := .boolean) (t' := .int) (by decide) (by decide)))).other W252 (Or.inr (slot_ne (Or.inl (ow hw 102 rfl)) (Or.inl (ow hw 87 rfl)) (by decide) (t := .boolean) (t' := (.object "com/example/sindano/sindano/boyermoore/Stretches$Opening")) (by decide) (by decide)))).other W253 (Or.inr (slot_ne (Or.inl (ow hw 102 rfl)) (Or.inr (ow hw 89 rfl)) (by decide) (t := .boolean) (t' := (.object "com/example/sindano/sindano/boyermoore/Stretches$Plan")) (by decide) (by decide)))).other W255 (Or.inr (slot_ne (Or.inl (ow hw 102 rfl)) (Or.inl (ow hw 92 rfl)) (by decide) (t := .boolean) (t' := .long) (by decide) (by decide)))).keep K259c nin0).other W260 (Or.inr (slot_ne (Or.inl (ow hw 102 rfl)) (Or.inl (ow hw 99 rfl)) (by decide) (t := .boolean) (t' := .long) (by decide) (by decide)))).same W262
  have K262 := K260.wr W262 (Or.inl (List.mem_of_getElem? (i := 0) rfl))
  have O262 := O260.wr W262 g_b230
  have N262 := Fr.snoc X262 N260 g_b230
  show Ends p e below s T262 (mkF m 61 #[.val (.ref b230), .val (.ref b231)] []) _ _ _
  refine Ends.go (fun _ k => XS.aloadN X262.here hx rfl (hb hby d9_61) rfl rfl k) ?_
  refine Ends.go (fun _ k => XS.aloadN X262.here hx rfl (hb hby d9_62) rfl rfl k) ?_
  obtain ⟨T263, X263, e263, st263⟩ := getF X262 hx hZ hown (host := "") (Or.inl (ow hw 101 rfl)) Via.refl e262 Fw262 (g := (mkF m 63 #[.val (.ref b230), .val (.ref b231)] [(.ref b230), (.ref b230)])) rfl rfl (hb hby d9_63)
  refine Ends.go st263 ?_
  refine Ends.go (fun _ k => XS.ifYes X263.here hx rfl (pc0 := 66) (pc' := 75) rfl (hb hby d9_66) rfl ((if0 _ _).trans (teq (by decide : (0 : Int32) = (0 : Int32))).1) (by decide) (by decide) k) ?_
  show Ends p e below s T263 (mkF m 75 #[.val (.ref b230), .val (.ref b231)] [(.ref b230)]) _ _ _
  obtain ⟨T264, X264, e264, st264⟩ := getS2 X263 hx hZ hown (host := "") (Or.inl (ow hw 83 rfl)) Via.refl e263 (S_CLASSIC.ext O262.2) (g := (mkF m 75 #[.val (.ref b230), .val (.ref b231)] [(.ref b230)])) rfl (hb hby d9_75)
  refine Ends.go st264 ?_
  obtain ⟨T265, h265, X265, e265, W265, st265⟩ := putF X264 hx hZ hown (host := "") (Or.inl (ow hw 103 rfl)) Via.refl e264 ((((((((PF_b230_next.other W249 (Or.inr (slot_ne (Or.inl (ow hw 104 rfl)) (Or.inl (ow hw 80 rfl)) (by decide) (t := (.object "com/example/sindano/sindano/boyermoore/Stretches$Opening")) (t' := .boolean) (by decide) (by decide)))).other W250 (Or.inr (slot_ne (Or.inl (ow hw 104 rfl)) (Or.inl (ow hw 82 rfl)) (by decide) (t := (.object "com/example/sindano/sindano/boyermoore/Stretches$Opening")) (t' := .int) (by decide) (by decide)))).other W252 (Or.inr (slot_ne (Or.inl (ow hw 104 rfl)) (Or.inl (ow hw 87 rfl)) (by decide) (t := (.object "com/example/sindano/sindano/boyermoore/Stretches$Opening")) (t' := (.object "com/example/sindano/sindano/boyermoore/Stretches$Opening")) (by decide) (by decide)))).other W253 (Or.inr (slot_ne (Or.inl (ow hw 104 rfl)) (Or.inr (ow hw 89 rfl)) (by decide) (t := (.object "com/example/sindano/sindano/boyermoore/Stretches$Opening")) (t' := (.object "com/example/sindano/sindano/boyermoore/Stretches$Plan")) (by decide) (by decide)))).other W255 (Or.inr (slot_ne (Or.inl (ow hw 104 rfl)) (Or.inl (ow hw 92 rfl)) (by decide) (t := (.object "com/example/sindano/sindano/boyermoore/Stretches$Opening")) (t' := .long) (by decide) (by decide)))).keep K259c nin0).other W260 (Or.inr (slot_ne (Or.inl (ow hw 104 rfl)) (Or.inl (ow hw 99 rfl)) (by decide) (t := (.object "com/example/sindano/sindano/boyermoore/Stretches$Opening")) (t' := .long) (by decide) (by decide)))).other W262 (Or.inr (slot_ne (Or.inl (ow hw 104 rfl)) (Or.inl (ow hw 102 rfl)) (by decide) (t := (.object "com/example/sindano/sindano/boyermoore/Stretches$Opening")) (t' := .boolean) (by decide) (by decide)))) ((((((((PE_b230.wr W249).wr W250).wr W252).wr W253).wr W255).keep K259c).wr W260).wr W262) (Or.inl (ow hw 104 rfl)) (ow hw 47 rfl) (ty := (.object "com/example/sindano/sindano/boyermoore/Stretches$Opening")) (by decide) rfl rfl (g := (mkF m 78 #[.val (.ref b230), .val (.ref b231)] [(.ref w_CLASSIC), (.ref b230)])) rfl rfl (hb hby d9_78)
  refine Ends.go st265 ?_
  have Fw265 := ((((((((PF_b230_next.other W249 (Or.inr (slot_ne (Or.inl (ow hw 104 rfl)) (Or.inl (ow hw 80 rfl)) (by decide) (t := (.object "com/example/sindano/sindano/boyermoore/Stretches$Opening")) (t' := .boolean) (by decide) (by decide)))).other W250 (Or.inr (slot_ne (Or.inl (ow hw 104 rfl)) (Or.inl (ow hw 82 rfl)) (by decide) (t := (.object "com/example/sindano/sindano/boyermoore/Stretches$Opening")) (t' := .int) (by decide) (by decide)))).other W252 (Or.inr (slot_ne (Or.inl (ow hw 104 rfl)) (Or.inl (ow hw 87 rfl)) (by decide) (t := (.object "com/example/sindano/sindano/boyermoore/Stretches$Opening")) (t' := (.object "com/example/sindano/sindano/boyermoore/Stretches$Opening")) (by decide) (by decide)))).other W253 (Or.inr (slot_ne (Or.inl (ow hw 104 rfl)) (Or.inr (ow hw 89 rfl)) (by decide) (t := (.object "com/example/sindano/sindano/boyermoore/Stretches$Opening")) (t' := (.object "com/example/sindano/sindano/boyermoore/Stretches$Plan")) (by decide) (by decide)))).other W255 (Or.inr (slot_ne (Or.inl (ow hw 104 rfl)) (Or.inl (ow hw 92 rfl)) (by decide) (t := (.object "com/example/sindano/sindano/boyermoore/Stretches$Opening")) (t' := .long) (by decide) (by decide)))).keep K259c nin0).other W260 (Or.inr (slot_ne (Or.inl (ow hw 104 rfl)) (Or.inl (ow hw 99 rfl)) (by decide) (t := (.object "com/example/sindano/sindano/boyermoore/Stretches$Opening")) (t' := .long) (by decide) (by decide)))).other W262 (Or.inr (slot_ne (Or.inl (ow hw 104 rfl)) (Or.inl (ow hw 102 rfl)) (by decide) (t := (.object "com/example/sindano/sindano/boyermoore/Stretches$Opening")) (t' := .boolean) (by decide) (by decide)))).same W265
  have K265 := K262.wr W265 (Or.inl (List.mem_of_getElem? (i := 0) rfl))
  have O265 := O262.wr W265 g_b230
  have N265 := Fr.snoc X265 N262 g_b230
  refine Ends.retV X265 hx Bd.notSynchronized Bd.returns (hb hby d9_81) (by decide) (by decide) ?_
  rw [e265]
  exact ⟨rfl, N265, K265, ((((((((Fw249.other W250 (Or.inr (slot_ne (Or.inl (ow hw 80 rfl)) (Or.inl (ow hw 82 rfl)) (by decide) (t := .boolean) (t' := .int) (by decide) (by decide)))).other W252 (Or.inr (slot_ne (Or.inl (ow hw 80 rfl)) (Or.inl (ow hw 87 rfl)) (by decide) (t := .boolean) (t' := (.object "com/example/sindano/sindano/boyermoore/Stretches$Opening")) (by decide) (by decide)))).other W253 (Or.inr (slot_ne (Or.inl (ow hw 80 rfl)) (Or.inr (ow hw 89 rfl)) (by decide) (t := .boolean) (t' := (.object "com/example/sindano/sindano/boyermoore/Stretches$Plan")) (by decide) (by decide)))).other W255 (Or.inr (slot_ne (Or.inl (ow hw 80 rfl)) (Or.inl (ow hw 92 rfl)) (by decide) (t := .boolean) (t' := .long) (by decide) (by decide)))).keep K259c nin0).other W260 (Or.inr (slot_ne (Or.inl (ow hw 80 rfl)) (Or.inl (ow hw 99 rfl)) (by decide) (t := .boolean) (t' := .long) (by decide) (by decide)))).other W262 (Or.inr (slot_ne (Or.inl (ow hw 80 rfl)) (Or.inl (ow hw 102 rfl)) (by decide) (t := .boolean) (t' := .boolean) (by decide) (by decide)))).other W265 (Or.inr (slot_ne (Or.inl (ow hw 80 rfl)) (Or.inl (ow hw 104 rfl)) (by decide) (t := .boolean) (t' := (.object "com/example/sindano/sindano/boyermoore/Stretches$Opening")) (by decide) (by decide)))), (((((((Fw250.other W252 (Or.inr (slot_ne (Or.inl (ow hw 82 rfl)) (Or.inl (ow hw 87 rfl)) (by decide) (t := .int) (t' := (.object "com/example/sindano/sindano/boyermoore/Stretches$Opening")) (by decide) (by decide)))).other W253 (Or.inr (slot_ne (Or.inl (ow hw 82 rfl)) (Or.inr (ow hw 89 rfl)) (by decide) (t := .int) (t' := (.object "com/example/sindano/sindano/boyermoore/Stretches$Plan")) (by decide) (by decide)))).other W255 (Or.inr (slot_ne (Or.inl (ow hw 82 rfl)) (Or.inl (ow hw 92 rfl)) (by decide) (t := .int) (t' := .long) (by decide) (by decide)))).keep K259c nin0).other W260 (Or.inr (slot_ne (Or.inl (ow hw 82 rfl)) (Or.inl (ow hw 99 rfl)) (by decide) (t := .int) (t' := .long) (by decide) (by decide)))).other W262 (Or.inr (slot_ne (Or.inl (ow hw 82 rfl)) (Or.inl (ow hw 102 rfl)) (by decide) (t := .int) (t' := .boolean) (by decide) (by decide)))).other W265 (Or.inr (slot_ne (Or.inl (ow hw 82 rfl)) (Or.inl (ow hw 104 rfl)) (by decide) (t := .int) (t' := (.object "com/example/sindano/sindano/boyermoore/Stretches$Opening")) (by decide) (by decide)))), ((((((Fw252.other W253 (Or.inr (slot_ne (Or.inl (ow hw 87 rfl)) (Or.inr (ow hw 89 rfl)) (by decide) (t := (.object "com/example/sindano/sindano/boyermoore/Stretches$Opening")) (t' := (.object "com/example/sindano/sindano/boyermoore/Stretches$Plan")) (by decide) (by decide)))).other W255 (Or.inr (slot_ne (Or.inl (ow hw 87 rfl)) (Or.inl (ow hw 92 rfl)) (by decide) (t := (.object "com/example/sindano/sindano/boyermoore/Stretches$Opening")) (t' := .long) (by decide) (by decide)))).keep K259c nin0).other W260 (Or.inr (slot_ne (Or.inl (ow hw 87 rfl)) (Or.inl (ow hw 99 rfl)) (by decide) (t := (.object "com/example/sindano/sindano/boyermoore/Stretches$Opening")) (t' := .long) (by decide) (by decide)))).other W262 (Or.inr (slot_ne (Or.inl (ow hw 87 rfl)) (Or.inl (ow hw 102 rfl)) (by decide) (t := (.object "com/example/sindano/sindano/boyermoore/Stretches$Opening")) (t' := .boolean) (by decide) (by decide)))).other W265 (Or.inr (slot_ne (Or.inl (ow hw 87 rfl)) (Or.inl (ow hw 104 rfl)) (by decide) (t := (.object "com/example/sindano/sindano/boyermoore/Stretches$Opening")) (t' := (.object "com/example/sindano/sindano/boyermoore/Stretches$Opening")) (by decide) (by decide)))), (((((Fw253.other W255 (Or.inr (slot_ne (Or.inr (ow hw 89 rfl)) (Or.inl (ow hw 92 rfl)) (by decide) (t := (.object "com/example/sindano/sindano/boyermoore/Stretches$Plan")) (t' := .long) (by decide) (by decide)))).keep K259c nin0).other W260 (Or.inr (slot_ne (Or.inr (ow hw 89 rfl)) (Or.inl (ow hw 99 rfl)) (by decide) (t := (.object "com/example/sindano/sindano/boyermoore/Stretches$Plan")) (t' := .long) (by decide) (by decide)))).other W262 (Or.inr (slot_ne (Or.inr (ow hw 89 rfl)) (Or.inl (ow hw 102 rfl)) (by decide) (t := (.object "com/example/sindano/sindano/boyermoore/Stretches$Plan")) (t' := .boolean) (by decide) (by decide)))).other W265 (Or.inr (slot_ne (Or.inr (ow hw 89 rfl)) (Or.inl (ow hw 104 rfl)) (by decide) (t := (.object "com/example/sindano/sindano/boyermoore/Stretches$Plan")) (t' := (.object "com/example/sindano/sindano/boyermoore/Stretches$Opening")) (by decide) (by decide)))), ((((Fw255.keep K259c nin0).other W260 (Or.inr (slot_ne (Or.inl (ow hw 92 rfl)) (Or.inl (ow hw 99 rfl)) (by decide) (t := .long) (t' := .long) (by decide) (by decide)))).other W262 (Or.inr (slot_ne (Or.inl (ow hw 92 rfl)) (Or.inl (ow hw 102 rfl)) (by decide) (t := .long) (t' := .boolean) (by decide) (by decide)))).other W265 (Or.inr (slot_ne (Or.inl (ow hw 92 rfl)) (Or.inl (ow hw 104 rfl)) (by decide) (t := .long) (t' := (.object "com/example/sindano/sindano/boyermoore/Stretches$Opening")) (by decide) (by decide)))), ((Fw260.other W262 (Or.inr (slot_ne (Or.inl (ow hw 99 rfl)) (Or.inl (ow hw 102 rfl)) (by decide) (t := .long) (t' := .boolean) (by decide) (by decide)))).other W265 (Or.inr (slot_ne (Or.inl (ow hw 99 rfl)) (Or.inl (ow hw 104 rfl)) (by decide) (t := .long) (t' := (.object "com/example/sindano/sindano/boyermoore/Stretches$Opening")) (by decide) (by decide)))), (Fw262.other W265 (Or.inr (slot_ne (Or.inl (ow hw 102 rfl)) (Or.inl (ow hw 104 rfl)) (by decide) (t := .boolean) (t' := (.object "com/example/sindano/sindano/boyermoore/Stretches$Opening")) (by decide) (by decide)))), Fw265, (((((((((PF_b230_made.other W249 (Or.inr (slot_ne (Or.inl (ow hw 118 rfl)) (Or.inl (ow hw 80 rfl)) (by decide) (t := .long) (t' := .boolean) (by decide) (by decide)))).other W250 (Or.inr (slot_ne (Or.inl (ow hw 118 rfl)) (Or.inl (ow hw 82 rfl)) (by decide) (t := .long) (t' := .int) (by decide) (by decide)))).other W252 (Or.inr (slot_ne (Or.inl (ow hw 118 rfl)) (Or.inl (ow hw 87 rfl)) (by decide) (t := .long) (t' := (.object "com/example/sindano/sindano/boyermoore/Stretches$Opening")) (by decide) (by decide)))).other W253 (Or.inr (slot_ne (Or.inl (ow hw 118 rfl)) (Or.inr (ow hw 89 rfl)) (by decide) (t := .long) (t' := (.object "com/example/sindano/sindano/boyermoore/Stretches$Plan")) (by decide) (by decide)))).other W255 (Or.inr (slot_ne (Or.inl (ow hw 118 rfl)) (Or.inl (ow hw 92 rfl)) (by decide) (t := .long) (t' := .long) (by decide) (by decide)))).keep K259c nin0).other W260 (Or.inr (slot_ne (Or.inl (ow hw 118 rfl)) (Or.inl (ow hw 99 rfl)) (by decide) (t := .long) (t' := .long) (by decide) (by decide)))).other W262 (Or.inr (slot_ne (Or.inl (ow hw 118 rfl)) (Or.inl (ow hw 102 rfl)) (by decide) (t := .long) (t' := .boolean) (by decide) (by decide)))).other W265 (Or.inr (slot_ne (Or.inl (ow hw 118 rfl)) (Or.inl (ow hw 104 rfl)) (by decide) (t := .long) (t' := (.object "com/example/sindano/sindano/boyermoore/Stretches$Opening")) (by decide) (by decide))))⟩
theorem pn0 : plainName "com/example/sindano/sindano/boyermoore/ReadingExactPinLaw" = true := by first | (simp [plainName, overriddenIn]; done) | decide +kernel
theorem pdx_8 : parseMethodDescriptor "(Lcom/example/sindano/sindano/boyermoore/Stretches$Plan;)V" = some ⟨[(.object "com/example/sindano/sindano/boyermoore/Stretches$Plan")], none⟩ := by decide +kernel
theorem pdx_9 : parseMethodDescriptor "(Lcom/example/sindano/sindano/boyermoore/Stretches;[BJI)I" = some ⟨[(.object "com/example/sindano/sindano/boyermoore/Stretches"), (.array .byte), .long, .int], some .int⟩ := by decide +kernel
theorem ef0_iijii (m : MethodId) (x0 : Int32) (x1 : Int32) (x2 : Int64) (x3 : Int32) (x4 : Int32) : entryFrame m #[(.int x0), (.int x1), (.long x2), (.int x3), (.int x4)] maxLocals = mkF m 0 #[.val (.int x0), .val (.int x1), .val (.long x2), .second, .val (.int x3), .val (.int x4), .unset, .unset, .unset, .unset, .unset, .unset, .unset, .unset, .unset, .unset, .unset, .unset, .unset, .unset, .unset, .unset, .unset, .unset, .unset, .unset, .unset, .unset, .unset, .unset, .unset, .unset, .unset, .unset] [] := by first | (simp [entryFrame, mkF, argsToLocals, Value.category, maxLocals]; done) | rfl
set_option maxRecDepth 65536 in
set_option maxHeartbeats 40000000 in
theorem rm0 (l : Launch) (Z : State) (a0 : Array Value) (hw : ∀ d ∈ tables_1, d.before a0 Z = true) (ws : List Jvm.Cond) (n0 : Nat) (h0 : Heap) (O0 : Old Z n0 h0) (p0 : Int32) (p1 : Int32) (q2 : Int64) (p3 : Int32) (p4 : Int32) (w_CLASSIC : Addr) (FF : GlobF Z w_CLASSIC) :
    Meets1 l x code maxLocals ret ws room_1 #[(.int p0), (.int p1), (.long q2), (.int p3), (.int p4)] Z h0 (fun v h L => v = some (.int (1 : Int32)) ∧ Fr n0 L) := by
  refine MetFree.of_bodySF (plainFor_of_name pn0) hisR ?_
  intro p e s m args below meth c s₁ Bd hml0 hP hK
  obtain ⟨rfl, hZ, hh⟩ := hP
  have hx := Bd.exec
  have hby := Bd.bytes
  have hml : c.maxLocals = 34 := hml0
  have hown : s.vm.findClass "com/example/sindano/sindano/boyermoore/ReadingExactPinLaw" = some m.cls := findClass_of_methodNamed Bd.named
  have hnm := (name_of_methodNamed Bd.named Bd.method).1
  have X0 : Stand p l e room_1 s m #[(.int p0), (.int p1), (.long q2), (.int p3), (.int p4)] below meth c s₁ [] 0 0 := Stand.of_body Bd
  have e0 : s₁.heap = h0 := by rw [← hh, Bd.state]; rfl
  have N0 := Fr.nil n0
  have Z0 := own_old_le O0
  show Ends p e below s s₁ (entryFrame m #[(.int p0), (.int p1), (.long q2), (.int p3), (.int p4)] maxLocals) room_1.cells room_1.slots (fun v h L => v = some (.int (1 : Int32)) ∧ Fr n0 L)
  refine Ends.go (fun _ k => castTop (ef0_iijii m p0 p1 q2 p3 p4) k) ?_
  have K0 := Keep.refl h0 []
  have FF0 := FF
  obtain ⟨S_CLASSIC, E_CLASSIC⟩ := FF
  refine Ends.go (fun _ k => XS.iloadN X0.here hx rfl (hb hby at_0) rfl k) ?_
  refine Ends.go (fun _ k => XS.i2b X0.here hx rfl (hb hby at_1) rfl k) ?_
  refine Ends.go (fun _ k => XS.istore X0.here hx rfl (hb hby at_2) rfl (l' := #[.val (.int p0), .val (.int p1), .val (.long q2), .second, .val (.int p3), .val (.int p4), .val (.int (p0.toInt8.toInt32)), .unset, .unset, .unset, .unset, .unset, .unset, .unset, .unset, .unset, .unset, .unset, .unset, .unset, .unset, .unset, .unset, .unset, .unset, .unset, .unset, .unset, .unset, .unset, .unset, .unset, .unset, .unset]) rfl k) ?_
  show Ends p e below s s₁ (mkF m 4 #[.val (.int p0), .val (.int p1), .val (.long q2), .second, .val (.int p3), .val (.int p4), .val (.int (p0.toInt8.toInt32)), .unset, .unset, .unset, .unset, .unset, .unset, .unset, .unset, .unset, .unset, .unset, .unset, .unset, .unset, .unset, .unset, .unset, .unset, .unset, .unset, .unset, .unset, .unset, .unset, .unset, .unset, .unset] []) _ _ _
  refine Ends.go (fun _ k => XS.iloadN X0.here hx rfl (hb hby at_4) rfl k) ?_
  refine Ends.go (fun _ k => XS.bipush X0.here hx rfl (hb hby at_5) k) ?_
  refine Ends.go (fun _ k => XS.ishr X0.here hx rfl (hb hby at_7) rfl k) ?_
  refine Ends.go (fun _ k => XS.i2b X0.here hx rfl (hb hby at_8) rfl k) ?_
  show Ends p e below s s₁ (mkF m 9 #[.val (.int p0), .val (.int p1), .val (.long q2), .second, .val (.int p3), .val (.int p4), .val (.int (p0.toInt8.toInt32)), .unset, .unset, .unset, .unset, .unset, .unset, .unset, .unset, .unset, .unset, .unset, .unset, .unset, .unset, .unset, .unset, .unset, .unset, .unset, .unset, .unset, .unset, .unset, .unset, .unset, .unset, .unset] [(.int ((p0 >>> ((8 : Int32) &&& 31)).toInt8.toInt32))]) _ _ _
  refine Ends.go (fun _ k => XS.istore X0.here hx rfl (hb hby at_9) rfl (l' := #[.val (.int p0), .val (.int p1), .val (.long q2), .second, .val (.int p3), .val (.int p4), .val (.int (p0.toInt8.toInt32)), .val (.int ((p0 >>> ((8 : Int32) &&& 31)).toInt8.toInt32)), .unset, .unset, .unset, .unset, .unset, .unset, .unset, .unset, .unset, .unset, .unset, .unset, .unset, .unset, .unset, .unset, .unset, .unset, .unset, .unset, .unset, .unset, .unset, .unset, .unset, .unset]) rfl k) ?_
  refine Ends.go (fun _ k => XS.iconst X0.here hx rfl (hb hby at_11) k) ?_
  obtain ⟨T197, h197, k197, X197, e197, E197, A197, st197⟩ := newP X0 hx hZ (ow hw 0 rfl) e0 (g := (mkF m 12 #[.val (.int p0), .val (.int p1), .val (.long q2), .second, .val (.int p3), .val (.int p4), .val (.int (p0.toInt8.toInt32)), .val (.int ((p0 >>> ((8 : Int32) &&& 31)).toInt8.toInt32)), .unset, .unset, .unset, .unset, .unset, .unset, .unset, .unset, .unset, .unset, .unset, .unset, .unset, .unset, .unset, .unset, .unset, .unset, .unset, .unset, .unset, .unset, .unset, .unset, .unset, .unset] [(.int (3 : Int32))])) rfl (hb hby at_12) rfl (by decide) (cap := 3) (by decide) (by decide) (by decide) (by decide)
  obtain ⟨b197, g197⟩ : ∃ z, z = h0.size := ⟨_, rfl⟩
  rw [← g197] at A197 st197
  refine Ends.go st197 ?_
  have g_b197 : n0 ≤ b197 := Nat.le_trans (own_old_le O0) (Nat.le_of_eq g197.symm)
  have sz_b197 : h0.size ≤ b197 := Nat.le_trans K0.1 (Nat.le_of_eq g197.symm)
  have K197 := K0.ext E197
  have O197 := O0.ext E197
  have V_b197 : Arv Z h197 b197 k197 .byte (3 : Int32) [(.int (0 : Int32)), (.int (0 : Int32)), (.int (0 : Int32))] (.int (0 : Int32)) := (Arv.new A197 (by decide)).pad (pad_rep [] (.int (0 : Int32)) 3)
  refine Ends.go (fun _ k => XS.astore X197.here hx rfl (hb hby at_14) rfl rfl (l' := #[.val (.int p0), .val (.int p1), .val (.long q2), .second, .val (.int p3), .val (.int p4), .val (.int (p0.toInt8.toInt32)), .val (.int ((p0 >>> ((8 : Int32) &&& 31)).toInt8.toInt32)), .val (.ref b197), .unset, .unset, .unset, .unset, .unset, .unset, .unset, .unset, .unset, .unset, .unset, .unset, .unset, .unset, .unset, .unset, .unset, .unset, .unset, .unset, .unset, .unset, .unset, .unset, .unset]) rfl k) ?_
  show Ends p e below s T197 (mkF m 16 #[.val (.int p0), .val (.int p1), .val (.long q2), .second, .val (.int p3), .val (.int p4), .val (.int (p0.toInt8.toInt32)), .val (.int ((p0 >>> ((8 : Int32) &&& 31)).toInt8.toInt32)), .val (.ref b197), .unset, .unset, .unset, .unset, .unset, .unset, .unset, .unset, .unset, .unset, .unset, .unset, .unset, .unset, .unset, .unset, .unset, .unset, .unset, .unset, .unset, .unset, .unset, .unset, .unset] []) _ _ _
  refine Ends.go (fun _ k => XS.aload X197.here hx rfl (hb hby at_16) rfl rfl k) ?_
  refine Ends.go (fun _ k => XS.iconst X197.here hx rfl (hb hby at_18) k) ?_
  refine Ends.go (fun _ k => XS.iloadN X197.here hx rfl (hb hby at_19) rfl k) ?_
  refine Ends.go (fun _ k => XS.iconst X197.here hx rfl (hb hby at_20) k) ?_
  show Ends p e below s T197 (mkF m 21 #[.val (.int p0), .val (.int p1), .val (.long q2), .second, .val (.int p3), .val (.int p4), .val (.int (p0.toInt8.toInt32)), .val (.int ((p0 >>> ((8 : Int32) &&& 31)).toInt8.toInt32)), .val (.ref b197), .unset, .unset, .unset, .unset, .unset, .unset, .unset, .unset, .unset, .unset, .unset, .unset, .unset, .unset, .unset, .unset, .unset, .unset, .unset, .unset, .unset, .unset, .unset, .unset, .unset] [(.int (0 : Int32)), (.int p1), (.int (0 : Int32)), (.ref b197)]) _ _ _
  refine Ends.go (fun _ k => XS.iload X197.here hx rfl (hb hby at_21) rfl k) ?_
  refine Ends.go (fun _ k => XS.iload X197.here hx rfl (hb hby at_23) rfl k) ?_
  obtain ⟨_, _, ⟨T198, L198, k198, n198⟩, -, X198, ⟨Lc198, hQ198, l198, y198, z198⟩, st198⟩ := Jvm.LawKit.callS X197 hx (y := (⟨"com/example/sindano/sindano/boyermoore/ReadingExactPinLaw", "pick", "(IIBB)B"⟩ : MethodName)) hown (mvT hZ (ow hw 1 rfl)) (mvT hZ (ow hw 2 rfl)) (mvT hZ (ow hw 3 rfl)) (mvT hZ (ow hw 4 rfl)) (by decide) (own_backOf (W := 2) (rmP l Z a0 hw [] n0 h197 O197 p1 (0 : Int32) (p0.toInt8.toInt32) ((p0 >>> ((8 : Int32) &&& 31)).toInt8.toInt32)) hZ (ow hw 4 rfl) (ow hw 3 rfl) (by decide) (by decide)) (g := (mkF m 25 #[.val (.int p0), .val (.int p1), .val (.long q2), .second, .val (.int p3), .val (.int p4), .val (.int (p0.toInt8.toInt32)), .val (.int ((p0 >>> ((8 : Int32) &&& 31)).toInt8.toInt32)), .val (.ref b197), .unset, .unset, .unset, .unset, .unset, .unset, .unset, .unset, .unset, .unset, .unset, .unset, .unset, .unset, .unset, .unset, .unset, .unset, .unset, .unset, .unset, .unset, .unset, .unset, .unset] [(.int ((p0 >>> ((8 : Int32) &&& 31)).toInt8.toInt32)), (.int (p0.toInt8.toInt32)), (.int (0 : Int32)), (.int p1), (.int (0 : Int32)), (.ref b197)])) rfl (by rw [hml]; rfl) (argsL := [(.int p1), (.int (0 : Int32)), (.int (p0.toInt8.toInt32)), (.int ((p0 >>> ((8 : Int32) &&& 31)).toInt8.toInt32))]) (rest := [(.int (0 : Int32)), (.ref b197)]) (lenOf pdx_2 rfl) rfl (by show 2 * 0 + _ ≤ _; exact Nat.le_of_eq rfl) (hb hby at_25) (fun _ _ => ⟨rfl, e197, (by decide : 1 + 0 ≤ _), (by decide : 3 + 0 ≤ _)⟩)
  dsimp only [Pt.U, Pt.locs, Pt.cells, Pt.slots] at X198 l198 y198 z198 st198 hQ198
  subst l198 y198 z198
  obtain ⟨a0_, rfl, N198q, e198q, hr198⟩ := hQ198
  have N198 := Fr.app N0 N198q
  refine Ends.go st198 ?_
  have ha0_ := hr198
  obtain ⟨cl199, Ar199, q199, S199, M199, H199, G199⟩ := id V_b197
  have hin199 := inb_of (j := (0 : Int32)) S199 ⟨by decide, by decide⟩
  obtain ⟨T199, h199, X199, e199, W199, st199⟩ := stB X198 hx hZ e198q Ar199 (j := (0 : Int32)) hin199 (g := (mkF m 28 #[.val (.int p0), .val (.int p1), .val (.long q2), .second, .val (.int p3), .val (.int p4), .val (.int (p0.toInt8.toInt32)), .val (.int ((p0 >>> ((8 : Int32) &&& 31)).toInt8.toInt32)), .val (.ref b197), .unset, .unset, .unset, .unset, .unset, .unset, .unset, .unset, .unset, .unset, .unset, .unset, .unset, .unset, .unset, .unset, .unset, .unset, .unset, .unset, .unset, .unset, .unset, .unset, .unset] [(.int a0_), (.int (0 : Int32)), (.ref b197)])) rfl rfl (hb hby at_28)
  refine Ends.go st199 ?_
  have V199 : Arv Z h199 b197 k197 .byte (3 : Int32) [(.int (nar .byte a0_)), (.int (0 : Int32)), (.int (0 : Int32))] (.int (0 : Int32)) := Arv.set Ar199 q199 S199 M199 H199 G199 (fits_nar_byte _) W199 0 rfl (Nat.le_of_ble_eq_true rfl)
  rw [own_narby ha0_] at V199
  have K199 := K197.wr W199 (Or.inr sz_b197)
  have O199 := O197.wr W199 g_b197
  have N199 := Fr.snoc X199 N198 g_b197
  show Ends p e below s T199 (mkF m 29 #[.val (.int p0), .val (.int p1), .val (.long q2), .second, .val (.int p3), .val (.int p4), .val (.int (p0.toInt8.toInt32)), .val (.int ((p0 >>> ((8 : Int32) &&& 31)).toInt8.toInt32)), .val (.ref b197), .unset, .unset, .unset, .unset, .unset, .unset, .unset, .unset, .unset, .unset, .unset, .unset, .unset, .unset, .unset, .unset, .unset, .unset, .unset, .unset, .unset, .unset, .unset, .unset, .unset] []) _ _ _
  refine Ends.go (fun _ k => XS.aload X199.here hx rfl (hb hby at_29) rfl rfl k) ?_
  refine Ends.go (fun _ k => XS.iconst X199.here hx rfl (hb hby at_31) k) ?_
  refine Ends.go (fun _ k => XS.iloadN X199.here hx rfl (hb hby at_32) rfl k) ?_
  refine Ends.go (fun _ k => XS.iconst X199.here hx rfl (hb hby at_33) k) ?_
  show Ends p e below s T199 (mkF m 34 #[.val (.int p0), .val (.int p1), .val (.long q2), .second, .val (.int p3), .val (.int p4), .val (.int (p0.toInt8.toInt32)), .val (.int ((p0 >>> ((8 : Int32) &&& 31)).toInt8.toInt32)), .val (.ref b197), .unset, .unset, .unset, .unset, .unset, .unset, .unset, .unset, .unset, .unset, .unset, .unset, .unset, .unset, .unset, .unset, .unset, .unset, .unset, .unset, .unset, .unset, .unset, .unset, .unset] [(.int (1 : Int32)), (.int p1), (.int (1 : Int32)), (.ref b197)]) _ _ _
  refine Ends.go (fun _ k => XS.iload X199.here hx rfl (hb hby at_34) rfl k) ?_
  refine Ends.go (fun _ k => XS.iload X199.here hx rfl (hb hby at_36) rfl k) ?_
  obtain ⟨_, _, ⟨T200, L200, k200, n200⟩, -, X200, ⟨Lc200, hQ200, l200, y200, z200⟩, st200⟩ := Jvm.LawKit.callS X199 hx (y := (⟨"com/example/sindano/sindano/boyermoore/ReadingExactPinLaw", "pick", "(IIBB)B"⟩ : MethodName)) hown (mvT hZ (ow hw 1 rfl)) (mvT hZ (ow hw 2 rfl)) (mvT hZ (ow hw 3 rfl)) (mvT hZ (ow hw 4 rfl)) (by decide) (own_backOf (W := 2) (rmP l Z a0 hw [] n0 h199 O199 p1 (1 : Int32) (p0.toInt8.toInt32) ((p0 >>> ((8 : Int32) &&& 31)).toInt8.toInt32)) hZ (ow hw 4 rfl) (ow hw 3 rfl) (by decide) (by decide)) (g := (mkF m 38 #[.val (.int p0), .val (.int p1), .val (.long q2), .second, .val (.int p3), .val (.int p4), .val (.int (p0.toInt8.toInt32)), .val (.int ((p0 >>> ((8 : Int32) &&& 31)).toInt8.toInt32)), .val (.ref b197), .unset, .unset, .unset, .unset, .unset, .unset, .unset, .unset, .unset, .unset, .unset, .unset, .unset, .unset, .unset, .unset, .unset, .unset, .unset, .unset, .unset, .unset, .unset, .unset, .unset] [(.int ((p0 >>> ((8 : Int32) &&& 31)).toInt8.toInt32)), (.int (p0.toInt8.toInt32)), (.int (1 : Int32)), (.int p1), (.int (1 : Int32)), (.ref b197)])) rfl (by rw [hml]; rfl) (argsL := [(.int p1), (.int (1 : Int32)), (.int (p0.toInt8.toInt32)), (.int ((p0 >>> ((8 : Int32) &&& 31)).toInt8.toInt32))]) (rest := [(.int (1 : Int32)), (.ref b197)]) (lenOf pdx_2 rfl) rfl (by show 2 * 0 + _ ≤ _; exact Nat.le_of_eq rfl) (hb hby at_38) (fun _ _ => ⟨rfl, e199, (by decide : 1 + 0 ≤ _), (by decide : 3 + 0 ≤ _)⟩)
  dsimp only [Pt.U, Pt.locs, Pt.cells, Pt.slots] at X200 l200 y200 z200 st200 hQ200
  subst l200 y200 z200
  obtain ⟨a1_, rfl, N200q, e200q, hr200⟩ := hQ200
  have N200 := Fr.app N199 N200q
  refine Ends.go st200 ?_
  have ha1_ := hr200
  obtain ⟨cl201, Ar201, q201, S201, M201, H201, G201⟩ := id V199
  have hin201 := inb_of (j := (1 : Int32)) S201 ⟨by decide, by decide⟩
  obtain ⟨T201, h201, X201, e201, W201, st201⟩ := stB X200 hx hZ e200q Ar201 (j := (1 : Int32)) hin201 (g := (mkF m 41 #[.val (.int p0), .val (.int p1), .val (.long q2), .second, .val (.int p3), .val (.int p4), .val (.int (p0.toInt8.toInt32)), .val (.int ((p0 >>> ((8 : Int32) &&& 31)).toInt8.toInt32)), .val (.ref b197), .unset, .unset, .unset, .unset, .unset, .unset, .unset, .unset, .unset, .unset, .unset, .unset, .unset, .unset, .unset, .unset, .unset, .unset, .unset, .unset, .unset, .unset, .unset, .unset, .unset] [(.int a1_), (.int (1 : Int32)), (.ref b197)])) rfl rfl (hb hby at_41)
  refine Ends.go st201 ?_
  have V201 : Arv Z h201 b197 k197 .byte (3 : Int32) [(.int a0_), (.int (nar .byte a1_)), (.int (0 : Int32))] (.int (0 : Int32)) := Arv.set Ar201 q201 S201 M201 H201 G201 (fits_nar_byte _) W201 1 rfl (Nat.le_of_ble_eq_true rfl)
  rw [own_narby ha1_] at V201
  have K201 := K199.wr W201 (Or.inr sz_b197)
  have O201 := O199.wr W201 g_b197
  have N201 := Fr.snoc X201 N200 g_b197
  show Ends p e below s T201 (mkF m 42 #[.val (.int p0), .val (.int p1), .val (.long q2), .second, .val (.int p3), .val (.int p4), .val (.int (p0.toInt8.toInt32)), .val (.int ((p0 >>> ((8 : Int32) &&& 31)).toInt8.toInt32)), .val (.ref b197), .unset, .unset, .unset, .unset, .unset, .unset, .unset, .unset, .unset, .unset, .unset, .unset, .unset, .unset, .unset, .unset, .unset, .unset, .unset, .unset, .unset, .unset, .unset, .unset, .unset] []) _ _ _
  refine Ends.go (fun _ k => XS.aload X201.here hx rfl (hb hby at_42) rfl rfl k) ?_
  refine Ends.go (fun _ k => XS.iconst X201.here hx rfl (hb hby at_44) k) ?_
  refine Ends.go (fun _ k => XS.iloadN X201.here hx rfl (hb hby at_45) rfl k) ?_
  refine Ends.go (fun _ k => XS.iconst X201.here hx rfl (hb hby at_46) k) ?_
  show Ends p e below s T201 (mkF m 47 #[.val (.int p0), .val (.int p1), .val (.long q2), .second, .val (.int p3), .val (.int p4), .val (.int (p0.toInt8.toInt32)), .val (.int ((p0 >>> ((8 : Int32) &&& 31)).toInt8.toInt32)), .val (.ref b197), .unset, .unset, .unset, .unset, .unset, .unset, .unset, .unset, .unset, .unset, .unset, .unset, .unset, .unset, .unset, .unset, .unset, .unset, .unset, .unset, .unset, .unset, .unset, .unset, .unset] [(.int (2 : Int32)), (.int p1), (.int (2 : Int32)), (.ref b197)]) _ _ _
  refine Ends.go (fun _ k => XS.iload X201.here hx rfl (hb hby at_47) rfl k) ?_
  refine Ends.go (fun _ k => XS.iload X201.here hx rfl (hb hby at_49) rfl k) ?_
  obtain ⟨_, _, ⟨T202, L202, k202, n202⟩, -, X202, ⟨Lc202, hQ202, l202, y202, z202⟩, st202⟩ := Jvm.LawKit.callS X201 hx (y := (⟨"com/example/sindano/sindano/boyermoore/ReadingExactPinLaw", "pick", "(IIBB)B"⟩ : MethodName)) hown (mvT hZ (ow hw 1 rfl)) (mvT hZ (ow hw 2 rfl)) (mvT hZ (ow hw 3 rfl)) (mvT hZ (ow hw 4 rfl)) (by decide) (own_backOf (W := 2) (rmP l Z a0 hw [] n0 h201 O201 p1 (2 : Int32) (p0.toInt8.toInt32) ((p0 >>> ((8 : Int32) &&& 31)).toInt8.toInt32)) hZ (ow hw 4 rfl) (ow hw 3 rfl) (by decide) (by decide)) (g := (mkF m 51 #[.val (.int p0), .val (.int p1), .val (.long q2), .second, .val (.int p3), .val (.int p4), .val (.int (p0.toInt8.toInt32)), .val (.int ((p0 >>> ((8 : Int32) &&& 31)).toInt8.toInt32)), .val (.ref b197), .unset, .unset, .unset, .unset, .unset, .unset, .unset, .unset, .unset, .unset, .unset, .unset, .unset, .unset, .unset, .unset, .unset, .unset, .unset, .unset, .unset, .unset, .unset, .unset, .unset] [(.int ((p0 >>> ((8 : Int32) &&& 31)).toInt8.toInt32)), (.int (p0.toInt8.toInt32)), (.int (2 : Int32)), (.int p1), (.int (2 : Int32)), (.ref b197)])) rfl (by rw [hml]; rfl) (argsL := [(.int p1), (.int (2 : Int32)), (.int (p0.toInt8.toInt32)), (.int ((p0 >>> ((8 : Int32) &&& 31)).toInt8.toInt32))]) (rest := [(.int (2 : Int32)), (.ref b197)]) (lenOf pdx_2 rfl) rfl (by show 2 * 0 + _ ≤ _; exact Nat.le_of_eq rfl) (hb hby at_51) (fun _ _ => ⟨rfl, e201, (by decide : 1 + 0 ≤ _), (by decide : 3 + 0 ≤ _)⟩)
  dsimp only [Pt.U, Pt.locs, Pt.cells, Pt.slots] at X202 l202 y202 z202 st202 hQ202
  subst l202 y202 z202
  obtain ⟨a2_, rfl, N202q, e202q, hr202⟩ := hQ202
  have N202 := Fr.app N201 N202q
  refine Ends.go st202 ?_
  have ha2_ := hr202
  obtain ⟨cl203, Ar203, q203, S203, M203, H203, G203⟩ := id V201
  have hin203 := inb_of (j := (2 : Int32)) S203 ⟨by decide, by decide⟩
  obtain ⟨T203, h203, X203, e203, W203, st203⟩ := stB X202 hx hZ e202q Ar203 (j := (2 : Int32)) hin203 (g := (mkF m 54 #[.val (.int p0), .val (.int p1), .val (.long q2), .second, .val (.int p3), .val (.int p4), .val (.int (p0.toInt8.toInt32)), .val (.int ((p0 >>> ((8 : Int32) &&& 31)).toInt8.toInt32)), .val (.ref b197), .unset, .unset, .unset, .unset, .unset, .unset, .unset, .unset, .unset, .unset, .unset, .unset, .unset, .unset, .unset, .unset, .unset, .unset, .unset, .unset, .unset, .unset, .unset, .unset, .unset] [(.int a2_), (.int (2 : Int32)), (.ref b197)])) rfl rfl (hb hby at_54)
  refine Ends.go st203 ?_
  have V203 : Arv Z h203 b197 k197 .byte (3 : Int32) [(.int a0_), (.int a1_), (.int (nar .byte a2_))] (.int (0 : Int32)) := Arv.set Ar203 q203 S203 M203 H203 G203 (fits_nar_byte _) W203 2 rfl (Nat.le_of_ble_eq_true rfl)
  rw [own_narby ha2_] at V203
  have K203 := K201.wr W203 (Or.inr sz_b197)
  have O203 := O201.wr W203 g_b197
  have N203 := Fr.snoc X203 N202 g_b197
  show Ends p e below s T203 (mkF m 55 #[.val (.int p0), .val (.int p1), .val (.long q2), .second, .val (.int p3), .val (.int p4), .val (.int (p0.toInt8.toInt32)), .val (.int ((p0 >>> ((8 : Int32) &&& 31)).toInt8.toInt32)), .val (.ref b197), .unset, .unset, .unset, .unset, .unset, .unset, .unset, .unset, .unset, .unset, .unset, .unset, .unset, .unset, .unset, .unset, .unset, .unset, .unset, .unset, .unset, .unset, .unset, .unset, .unset] []) _ _ _
  refine Ends.go (fun _ k => XS.bipush X203.here hx rfl (hb hby at_55) k) ?_
  obtain ⟨T204, h204, k204, X204, e204, E204, A204, st204⟩ := newP X203 hx hZ (ow hw 0 rfl) e203 (g := (mkF m 57 #[.val (.int p0), .val (.int p1), .val (.long q2), .second, .val (.int p3), .val (.int p4), .val (.int (p0.toInt8.toInt32)), .val (.int ((p0 >>> ((8 : Int32) &&& 31)).toInt8.toInt32)), .val (.ref b197), .unset, .unset, .unset, .unset, .unset, .unset, .unset, .unset, .unset, .unset, .unset, .unset, .unset, .unset, .unset, .unset, .unset, .unset, .unset, .unset, .unset, .unset, .unset, .unset, .unset] [(.int (8 : Int32))])) rfl (hb hby at_57) rfl (by decide) (cap := 8) (by decide) (by decide) (by decide) (by decide)
  obtain ⟨b204, g204⟩ : ∃ z, z = h203.size := ⟨_, rfl⟩
  rw [← g204] at A204 st204
  refine Ends.go st204 ?_
  have g_b204 : n0 ≤ b204 := Nat.le_trans (own_old_le O203) (Nat.le_of_eq g204.symm)
  have sz_b204 : h0.size ≤ b204 := Nat.le_trans K203.1 (Nat.le_of_eq g204.symm)
  have K204 := K203.ext E204
  have O204 := O203.ext E204
  have V_b204 : Arv Z h204 b204 k204 .byte (8 : Int32) [(.int (0 : Int32)), (.int (0 : Int32)), (.int (0 : Int32)), (.int (0 : Int32)), (.int (0 : Int32)), (.int (0 : Int32)), (.int (0 : Int32)), (.int (0 : Int32))] (.int (0 : Int32)) := (Arv.new A204 (by decide)).pad (pad_rep [] (.int (0 : Int32)) 8)
  refine Ends.go (fun _ k => XS.astore X204.here hx rfl (hb hby at_59) rfl rfl (l' := #[.val (.int p0), .val (.int p1), .val (.long q2), .second, .val (.int p3), .val (.int p4), .val (.int (p0.toInt8.toInt32)), .val (.int ((p0 >>> ((8 : Int32) &&& 31)).toInt8.toInt32)), .val (.ref b197), .val (.ref b204), .unset, .unset, .unset, .unset, .unset, .unset, .unset, .unset, .unset, .unset, .unset, .unset, .unset, .unset, .unset, .unset, .unset, .unset, .unset, .unset, .unset, .unset, .unset, .unset]) rfl k) ?_
  refine Ends.go (fun _ k => XS.aload X204.here hx rfl (hb hby at_61) rfl rfl k) ?_
  show Ends p e below s T204 (mkF m 63 #[.val (.int p0), .val (.int p1), .val (.long q2), .second, .val (.int p3), .val (.int p4), .val (.int (p0.toInt8.toInt32)), .val (.int ((p0 >>> ((8 : Int32) &&& 31)).toInt8.toInt32)), .val (.ref b197), .val (.ref b204), .unset, .unset, .unset, .unset, .unset, .unset, .unset, .unset, .unset, .unset, .unset, .unset, .unset, .unset, .unset, .unset, .unset, .unset, .unset, .unset, .unset, .unset, .unset, .unset] [(.ref b204)]) _ _ _
  refine Ends.go (fun _ k => XS.iconst X204.here hx rfl (hb hby at_63) k) ?_
  refine Ends.go (fun _ k => XS.iloadN X204.here hx rfl (hb hby at_64) rfl k) ?_
  refine Ends.go (fun _ k => XS.iconst X204.here hx rfl (hb hby at_65) k) ?_
  refine Ends.go (fun _ k => XS.iload X204.here hx rfl (hb hby at_66) rfl k) ?_
  show Ends p e below s T204 (mkF m 68 #[.val (.int p0), .val (.int p1), .val (.long q2), .second, .val (.int p3), .val (.int p4), .val (.int (p0.toInt8.toInt32)), .val (.int ((p0 >>> ((8 : Int32) &&& 31)).toInt8.toInt32)), .val (.ref b197), .val (.ref b204), .unset, .unset, .unset, .unset, .unset, .unset, .unset, .unset, .unset, .unset, .unset, .unset, .unset, .unset, .unset, .unset, .unset, .unset, .unset, .unset, .unset, .unset, .unset, .unset] [(.int (p0.toInt8.toInt32)), (.int (3 : Int32)), (.int p1), (.int (0 : Int32)), (.ref b204)]) _ _ _
  refine Ends.go (fun _ k => XS.iload X204.here hx rfl (hb hby at_68) rfl k) ?_
  obtain ⟨_, _, ⟨T205, L205, k205, n205⟩, -, X205, ⟨Lc205, hQ205, l205, y205, z205⟩, st205⟩ := Jvm.LawKit.callS X204 hx (y := (⟨"com/example/sindano/sindano/boyermoore/ReadingExactPinLaw", "pick", "(IIBB)B"⟩ : MethodName)) hown (mvT hZ (ow hw 1 rfl)) (mvT hZ (ow hw 2 rfl)) (mvT hZ (ow hw 3 rfl)) (mvT hZ (ow hw 4 rfl)) (by decide) (own_backOf (W := 2) (rmP l Z a0 hw [] n0 h204 O204 p1 (3 : Int32) (p0.toInt8.toInt32) ((p0 >>> ((8 : Int32) &&& 31)).toInt8.toInt32)) hZ (ow hw 4 rfl) (ow hw 3 rfl) (by decide) (by decide)) (g := (mkF m 70 #[.val (.int p0), .val (.int p1), .val (.long q2), .second, .val (.int p3), .val (.int p4), .val (.int (p0.toInt8.toInt32)), .val (.int ((p0 >>> ((8 : Int32) &&& 31)).toInt8.toInt32)), .val (.ref b197), .val (.ref b204), .unset, .unset, .unset, .unset, .unset, .unset, .unset, .unset, .unset, .unset, .unset, .unset, .unset, .unset, .unset, .unset, .unset, .unset, .unset, .unset, .unset, .unset, .unset, .unset] [(.int ((p0 >>> ((8 : Int32) &&& 31)).toInt8.toInt32)), (.int (p0.toInt8.toInt32)), (.int (3 : Int32)), (.int p1), (.int (0 : Int32)), (.ref b204)])) rfl (by rw [hml]; rfl) (argsL := [(.int p1), (.int (3 : Int32)), (.int (p0.toInt8.toInt32)), (.int ((p0 >>> ((8 : Int32) &&& 31)).toInt8.toInt32))]) (rest := [(.int (0 : Int32)), (.ref b204)]) (lenOf pdx_2 rfl) rfl (by show 2 * 0 + _ ≤ _; exact Nat.le_of_eq rfl) (hb hby at_70) (fun _ _ => ⟨rfl, e204, (by decide : 2 + 0 ≤ _), (by decide : 11 + 0 ≤ _)⟩)
  dsimp only [Pt.U, Pt.locs, Pt.cells, Pt.slots] at X205 l205 y205 z205 st205 hQ205
  subst l205 y205 z205
  obtain ⟨u0_, rfl, N205q, e205q, hr205⟩ := hQ205
  have N205 := Fr.app N203 N205q
  refine Ends.go st205 ?_
  have hu0_ := hr205
  obtain ⟨cl206, Ar206, q206, S206, M206, H206, G206⟩ := id V_b204
  have hin206 := inb_of (j := (0 : Int32)) S206 ⟨by decide, by decide⟩
  obtain ⟨T206, h206, X206, e206, W206, st206⟩ := stB X205 hx hZ e205q Ar206 (j := (0 : Int32)) hin206 (g := (mkF m 73 #[.val (.int p0), .val (.int p1), .val (.long q2), .second, .val (.int p3), .val (.int p4), .val (.int (p0.toInt8.toInt32)), .val (.int ((p0 >>> ((8 : Int32) &&& 31)).toInt8.toInt32)), .val (.ref b197), .val (.ref b204), .unset, .unset, .unset, .unset, .unset, .unset, .unset, .unset, .unset, .unset, .unset, .unset, .unset, .unset, .unset, .unset, .unset, .unset, .unset, .unset, .unset, .unset, .unset, .unset] [(.int u0_), (.int (0 : Int32)), (.ref b204)])) rfl rfl (hb hby at_73)
  refine Ends.go st206 ?_
  have V206 : Arv Z h206 b204 k204 .byte (8 : Int32) [(.int (nar .byte u0_)), (.int (0 : Int32)), (.int (0 : Int32)), (.int (0 : Int32)), (.int (0 : Int32)), (.int (0 : Int32)), (.int (0 : Int32)), (.int (0 : Int32))] (.int (0 : Int32)) := Arv.set Ar206 q206 S206 M206 H206 G206 (fits_nar_byte _) W206 0 rfl (Nat.le_of_ble_eq_true rfl)
  rw [own_narby hu0_] at V206
  have K206 := K204.wr W206 (Or.inr sz_b204)
  have O206 := O204.wr W206 g_b204
  have N206 := Fr.snoc X206 N205 g_b204
  refine Ends.go (fun _ k => XS.aload X206.here hx rfl (hb hby at_74) rfl rfl k) ?_
  show Ends p e below s T206 (mkF m 76 #[.val (.int p0), .val (.int p1), .val (.long q2), .second, .val (.int p3), .val (.int p4), .val (.int (p0.toInt8.toInt32)), .val (.int ((p0 >>> ((8 : Int32) &&& 31)).toInt8.toInt32)), .val (.ref b197), .val (.ref b204), .unset, .unset, .unset, .unset, .unset, .unset, .unset, .unset, .unset, .unset, .unset, .unset, .unset, .unset, .unset, .unset, .unset, .unset, .unset, .unset, .unset, .unset, .unset, .unset] [(.ref b204)]) _ _ _
  refine Ends.go (fun _ k => XS.iconst X206.here hx rfl (hb hby at_76) k) ?_
  refine Ends.go (fun _ k => XS.iloadN X206.here hx rfl (hb hby at_77) rfl k) ?_
  refine Ends.go (fun _ k => XS.iconst X206.here hx rfl (hb hby at_78) k) ?_
  refine Ends.go (fun _ k => XS.iload X206.here hx rfl (hb hby at_79) rfl k) ?_
  show Ends p e below s T206 (mkF m 81 #[.val (.int p0), .val (.int p1), .val (.long q2), .second, .val (.int p3), .val (.int p4), .val (.int (p0.toInt8.toInt32)), .val (.int ((p0 >>> ((8 : Int32) &&& 31)).toInt8.toInt32)), .val (.ref b197), .val (.ref b204), .unset, .unset, .unset, .unset, .unset, .unset, .unset, .unset, .unset, .unset, .unset, .unset, .unset, .unset, .unset, .unset, .unset, .unset, .unset, .unset, .unset, .unset, .unset, .unset] [(.int (p0.toInt8.toInt32)), (.int (4 : Int32)), (.int p1), (.int (1 : Int32)), (.ref b204)]) _ _ _
  refine Ends.go (fun _ k => XS.iload X206.here hx rfl (hb hby at_81) rfl k) ?_
  obtain ⟨_, _, ⟨T207, L207, k207, n207⟩, -, X207, ⟨Lc207, hQ207, l207, y207, z207⟩, st207⟩ := Jvm.LawKit.callS X206 hx (y := (⟨"com/example/sindano/sindano/boyermoore/ReadingExactPinLaw", "pick", "(IIBB)B"⟩ : MethodName)) hown (mvT hZ (ow hw 1 rfl)) (mvT hZ (ow hw 2 rfl)) (mvT hZ (ow hw 3 rfl)) (mvT hZ (ow hw 4 rfl)) (by decide) (own_backOf (W := 2) (rmP l Z a0 hw [] n0 h206 O206 p1 (4 : Int32) (p0.toInt8.toInt32) ((p0 >>> ((8 : Int32) &&& 31)).toInt8.toInt32)) hZ (ow hw 4 rfl) (ow hw 3 rfl) (by decide) (by decide)) (g := (mkF m 83 #[.val (.int p0), .val (.int p1), .val (.long q2), .second, .val (.int p3), .val (.int p4), .val (.int (p0.toInt8.toInt32)), .val (.int ((p0 >>> ((8 : Int32) &&& 31)).toInt8.toInt32)), .val (.ref b197), .val (.ref b204), .unset, .unset, .unset, .unset, .unset, .unset, .unset, .unset, .unset, .unset, .unset, .unset, .unset, .unset, .unset, .unset, .unset, .unset, .unset, .unset, .unset, .unset, .unset, .unset] [(.int ((p0 >>> ((8 : Int32) &&& 31)).toInt8.toInt32)), (.int (p0.toInt8.toInt32)), (.int (4 : Int32)), (.int p1), (.int (1 : Int32)), (.ref b204)])) rfl (by rw [hml]; rfl) (argsL := [(.int p1), (.int (4 : Int32)), (.int (p0.toInt8.toInt32)), (.int ((p0 >>> ((8 : Int32) &&& 31)).toInt8.toInt32))]) (rest := [(.int (1 : Int32)), (.ref b204)]) (lenOf pdx_2 rfl) rfl (by show 2 * 0 + _ ≤ _; exact Nat.le_of_eq rfl) (hb hby at_83) (fun _ _ => ⟨rfl, e206, (by decide : 2 + 0 ≤ _), (by decide : 11 + 0 ≤ _)⟩)
  dsimp only [Pt.U, Pt.locs, Pt.cells, Pt.slots] at X207 l207 y207 z207 st207 hQ207
  subst l207 y207 z207
  obtain ⟨u1_, rfl, N207q, e207q, hr207⟩ := hQ207
  have N207 := Fr.app N206 N207q
  refine Ends.go st207 ?_
  have hu1_ := hr207
  obtain ⟨cl208, Ar208, q208, S208, M208, H208, G208⟩ := id V206
  have hin208 := inb_of (j := (1 : Int32)) S208 ⟨by decide, by decide⟩
  obtain ⟨T208, h208, X208, e208, W208, st208⟩ := stB X207 hx hZ e207q Ar208 (j := (1 : Int32)) hin208 (g := (mkF m 86 #[.val (.int p0), .val (.int p1), .val (.long q2), .second, .val (.int p3), .val (.int p4), .val (.int (p0.toInt8.toInt32)), .val (.int ((p0 >>> ((8 : Int32) &&& 31)).toInt8.toInt32)), .val (.ref b197), .val (.ref b204), .unset, .unset, .unset, .unset, .unset, .unset, .unset, .unset, .unset, .unset, .unset, .unset, .unset, .unset, .unset, .unset, .unset, .unset, .unset, .unset, .unset, .unset, .unset, .unset] [(.int u1_), (.int (1 : Int32)), (.ref b204)])) rfl rfl (hb hby at_86)
  refine Ends.go st208 ?_
  have V208 : Arv Z h208 b204 k204 .byte (8 : Int32) [(.int u0_), (.int (nar .byte u1_)), (.int (0 : Int32)), (.int (0 : Int32)), (.int (0 : Int32)), (.int (0 : Int32)), (.int (0 : Int32)), (.int (0 : Int32))] (.int (0 : Int32)) := Arv.set Ar208 q208 S208 M208 H208 G208 (fits_nar_byte _) W208 1 rfl (Nat.le_of_ble_eq_true rfl)
  rw [own_narby hu1_] at V208
  have K208 := K206.wr W208 (Or.inr sz_b204)
  have O208 := O206.wr W208 g_b204
  have N208 := Fr.snoc X208 N207 g_b204
  refine Ends.go (fun _ k => XS.aload X208.here hx rfl (hb hby at_87) rfl rfl k) ?_
  show Ends p e below s T208 (mkF m 89 #[.val (.int p0), .val (.int p1), .val (.long q2), .second, .val (.int p3), .val (.int p4), .val (.int (p0.toInt8.toInt32)), .val (.int ((p0 >>> ((8 : Int32) &&& 31)).toInt8.toInt32)), .val (.ref b197), .val (.ref b204), .unset, .unset, .unset, .unset, .unset, .unset, .unset, .unset, .unset, .unset, .unset, .unset, .unset, .unset, .unset, .unset, .unset, .unset, .unset, .unset, .unset, .unset, .unset, .unset] [(.ref b204)]) _ _ _
  refine Ends.go (fun _ k => XS.iconst X208.here hx rfl (hb hby at_89) k) ?_
  refine Ends.go (fun _ k => XS.iloadN X208.here hx rfl (hb hby at_90) rfl k) ?_
  refine Ends.go (fun _ k => XS.iconst X208.here hx rfl (hb hby at_91) k) ?_
  refine Ends.go (fun _ k => XS.iload X208.here hx rfl (hb hby at_92) rfl k) ?_
  show Ends p e below s T208 (mkF m 94 #[.val (.int p0), .val (.int p1), .val (.long q2), .second, .val (.int p3), .val (.int p4), .val (.int (p0.toInt8.toInt32)), .val (.int ((p0 >>> ((8 : Int32) &&& 31)).toInt8.toInt32)), .val (.ref b197), .val (.ref b204), .unset, .unset, .unset, .unset, .unset, .unset, .unset, .unset, .unset, .unset, .unset, .unset, .unset, .unset, .unset, .unset, .unset, .unset, .unset, .unset, .unset, .unset, .unset, .unset] [(.int (p0.toInt8.toInt32)), (.int (5 : Int32)), (.int p1), (.int (2 : Int32)), (.ref b204)]) _ _ _
  refine Ends.go (fun _ k => XS.iload X208.here hx rfl (hb hby at_94) rfl k) ?_
  obtain ⟨_, _, ⟨T209, L209, k209, n209⟩, -, X209, ⟨Lc209, hQ209, l209, y209, z209⟩, st209⟩ := Jvm.LawKit.callS X208 hx (y := (⟨"com/example/sindano/sindano/boyermoore/ReadingExactPinLaw", "pick", "(IIBB)B"⟩ : MethodName)) hown (mvT hZ (ow hw 1 rfl)) (mvT hZ (ow hw 2 rfl)) (mvT hZ (ow hw 3 rfl)) (mvT hZ (ow hw 4 rfl)) (by decide) (own_backOf (W := 2) (rmP l Z a0 hw [] n0 h208 O208 p1 (5 : Int32) (p0.toInt8.toInt32) ((p0 >>> ((8 : Int32) &&& 31)).toInt8.toInt32)) hZ (ow hw 4 rfl) (ow hw 3 rfl) (by decide) (by decide)) (g := (mkF m 96 #[.val (.int p0), .val (.int p1), .val (.long q2), .second, .val (.int p3), .val (.int p4), .val (.int (p0.toInt8.toInt32)), .val (.int ((p0 >>> ((8 : Int32) &&& 31)).toInt8.toInt32)), .val (.ref b197), .val (.ref b204), .unset, .unset, .unset, .unset, .unset, .unset, .unset, .unset, .unset, .unset, .unset, .unset, .unset, .unset, .unset, .unset, .unset, .unset, .unset, .unset, .unset, .unset, .unset, .unset] [(.int ((p0 >>> ((8 : Int32) &&& 31)).toInt8.toInt32)), (.int (p0.toInt8.toInt32)), (.int (5 : Int32)), (.int p1), (.int (2 : Int32)), (.ref b204)])) rfl (by rw [hml]; rfl) (argsL := [(.int p1), (.int (5 : Int32)), (.int (p0.toInt8.toInt32)), (.int ((p0 >>> ((8 : Int32) &&& 31)).toInt8.toInt32))]) (rest := [(.int (2 : Int32)), (.ref b204)]) (lenOf pdx_2 rfl) rfl (by show 2 * 0 + _ ≤ _; exact Nat.le_of_eq rfl) (hb hby at_96) (fun _ _ => ⟨rfl, e208, (by decide : 2 + 0 ≤ _), (by decide : 11 + 0 ≤ _)⟩)
  dsimp only [Pt.U, Pt.locs, Pt.cells, Pt.slots] at X209 l209 y209 z209 st209 hQ209
  subst l209 y209 z209
  obtain ⟨u2_, rfl, N209q, e209q, hr209⟩ := hQ209
  have N209 := Fr.app N208 N209q
  refine Ends.go st209 ?_
  have hu2_ := hr209
  obtain ⟨cl210, Ar210, q210, S210, M210, H210, G210⟩ := id V208
  have hin210 := inb_of (j := (2 : Int32)) S210 ⟨by decide, by decide⟩
  obtain ⟨T210, h210, X210, e210, W210, st210⟩ := stB X209 hx hZ e209q Ar210 (j := (2 : Int32)) hin210 (g := (mkF m 99 #[.val (.int p0), .val (.int p1), .val (.long q2), .second, .val (.int p3), .val (.int p4), .val (.int (p0.toInt8.toInt32)), .val (.int ((p0 >>> ((8 : Int32) &&& 31)).toInt8.toInt32)), .val (.ref b197), .val (.ref b204), .unset, .unset, .unset, .unset, .unset, .unset, .unset, .unset, .unset, .unset, .unset, .unset, .unset, .unset, .unset, .unset, .unset, .unset, .unset, .unset, .unset, .unset, .unset, .unset] [(.int u2_), (.int (2 : Int32)), (.ref b204)])) rfl rfl (hb hby at_99)
  refine Ends.go st210 ?_
  have V210 : Arv Z h210 b204 k204 .byte (8 : Int32) [(.int u0_), (.int u1_), (.int (nar .byte u2_)), (.int (0 : Int32)), (.int (0 : Int32)), (.int (0 : Int32)), (.int (0 : Int32)), (.int (0 : Int32))] (.int (0 : Int32)) := Arv.set Ar210 q210 S210 M210 H210 G210 (fits_nar_byte _) W210 2 rfl (Nat.le_of_ble_eq_true rfl)
  rw [own_narby hu2_] at V210
  have K210 := K208.wr W210 (Or.inr sz_b204)
  have O210 := O208.wr W210 g_b204
  have N210 := Fr.snoc X210 N209 g_b204
  refine Ends.go (fun _ k => XS.aload X210.here hx rfl (hb hby at_100) rfl rfl k) ?_
  show Ends p e below s T210 (mkF m 102 #[.val (.int p0), .val (.int p1), .val (.long q2), .second, .val (.int p3), .val (.int p4), .val (.int (p0.toInt8.toInt32)), .val (.int ((p0 >>> ((8 : Int32) &&& 31)).toInt8.toInt32)), .val (.ref b197), .val (.ref b204), .unset, .unset, .unset, .unset, .unset, .unset, .unset, .unset, .unset, .unset, .unset, .unset, .unset, .unset, .unset, .unset, .unset, .unset, .unset, .unset, .unset, .unset, .unset, .unset] [(.ref b204)]) _ _ _
  refine Ends.go (fun _ k => XS.iconst X210.here hx rfl (hb hby at_102) k) ?_
  refine Ends.go (fun _ k => XS.iloadN X210.here hx rfl (hb hby at_103) rfl k) ?_
  refine Ends.go (fun _ k => XS.bipush X210.here hx rfl (hb hby at_104) k) ?_
  refine Ends.go (fun _ k => XS.iload X210.here hx rfl (hb hby at_106) rfl k) ?_
  show Ends p e below s T210 (mkF m 108 #[.val (.int p0), .val (.int p1), .val (.long q2), .second, .val (.int p3), .val (.int p4), .val (.int (p0.toInt8.toInt32)), .val (.int ((p0 >>> ((8 : Int32) &&& 31)).toInt8.toInt32)), .val (.ref b197), .val (.ref b204), .unset, .unset, .unset, .unset, .unset, .unset, .unset, .unset, .unset, .unset, .unset, .unset, .unset, .unset, .unset, .unset, .unset, .unset, .unset, .unset, .unset, .unset, .unset, .unset] [(.int (p0.toInt8.toInt32)), (.int (6 : Int32)), (.int p1), (.int (3 : Int32)), (.ref b204)]) _ _ _
  refine Ends.go (fun _ k => XS.iload X210.here hx rfl (hb hby at_108) rfl k) ?_
  obtain ⟨_, _, ⟨T211, L211, k211, n211⟩, -, X211, ⟨Lc211, hQ211, l211, y211, z211⟩, st211⟩ := Jvm.LawKit.callS X210 hx (y := (⟨"com/example/sindano/sindano/boyermoore/ReadingExactPinLaw", "pick", "(IIBB)B"⟩ : MethodName)) hown (mvT hZ (ow hw 1 rfl)) (mvT hZ (ow hw 2 rfl)) (mvT hZ (ow hw 3 rfl)) (mvT hZ (ow hw 4 rfl)) (by decide) (own_backOf (W := 2) (rmP l Z a0 hw [] n0 h210 O210 p1 (6 : Int32) (p0.toInt8.toInt32) ((p0 >>> ((8 : Int32) &&& 31)).toInt8.toInt32)) hZ (ow hw 4 rfl) (ow hw 3 rfl) (by decide) (by decide)) (g := (mkF m 110 #[.val (.int p0), .val (.int p1), .val (.long q2), .second, .val (.int p3), .val (.int p4), .val (.int (p0.toInt8.toInt32)), .val (.int ((p0 >>> ((8 : Int32) &&& 31)).toInt8.toInt32)), .val (.ref b197), .val (.ref b204), .unset, .unset, .unset, .unset, .unset, .unset, .unset, .unset, .unset, .unset, .unset, .unset, .unset, .unset, .unset, .unset, .unset, .unset, .unset, .unset, .unset, .unset, .unset, .unset] [(.int ((p0 >>> ((8 : Int32) &&& 31)).toInt8.toInt32)), (.int (p0.toInt8.toInt32)), (.int (6 : Int32)), (.int p1), (.int (3 : Int32)), (.ref b204)])) rfl (by rw [hml]; rfl) (argsL := [(.int p1), (.int (6 : Int32)), (.int (p0.toInt8.toInt32)), (.int ((p0 >>> ((8 : Int32) &&& 31)).toInt8.toInt32))]) (rest := [(.int (3 : Int32)), (.ref b204)]) (lenOf pdx_2 rfl) rfl (by show 2 * 0 + _ ≤ _; exact Nat.le_of_eq rfl) (hb hby at_110) (fun _ _ => ⟨rfl, e210, (by decide : 2 + 0 ≤ _), (by decide : 11 + 0 ≤ _)⟩)
  dsimp only [Pt.U, Pt.locs, Pt.cells, Pt.slots] at X211 l211 y211 z211 st211 hQ211
  subst l211 y211 z211
  obtain ⟨u3_, rfl, N211q, e211q, hr211⟩ := hQ211
  have N211 := Fr.app N210 N211q
  refine Ends.go st211 ?_
  have hu3_ := hr211
  obtain ⟨cl212, Ar212, q212, S212, M212, H212, G212⟩ := id V210
  have hin212 := inb_of (j := (3 : Int32)) S212 ⟨by decide, by decide⟩
  obtain ⟨T212, h212, X212, e212, W212, st212⟩ := stB X211 hx hZ e211q Ar212 (j := (3 : Int32)) hin212 (g := (mkF m 113 #[.val (.int p0), .val (.int p1), .val (.long q2), .second, .val (.int p3), .val (.int p4), .val (.int (p0.toInt8.toInt32)), .val (.int ((p0 >>> ((8 : Int32) &&& 31)).toInt8.toInt32)), .val (.ref b197), .val (.ref b204), .unset, .unset, .unset, .unset, .unset, .unset, .unset, .unset, .unset, .unset, .unset, .unset, .unset, .unset, .unset, .unset, .unset, .unset, .unset, .unset, .unset, .unset, .unset, .unset] [(.int u3_), (.int (3 : Int32)), (.ref b204)])) rfl rfl (hb hby at_113)
  refine Ends.go st212 ?_
  have V212 : Arv Z h212 b204 k204 .byte (8 : Int32) [(.int u0_), (.int u1_), (.int u2_), (.int (nar .byte u3_)), (.int (0 : Int32)), (.int (0 : Int32)), (.int (0 : Int32)), (.int (0 : Int32))] (.int (0 : Int32)) := Arv.set Ar212 q212 S212 M212 H212 G212 (fits_nar_byte _) W212 3 rfl (Nat.le_of_ble_eq_true rfl)
  rw [own_narby hu3_] at V212
  have K212 := K210.wr W212 (Or.inr sz_b204)
  have O212 := O210.wr W212 g_b204
  have N212 := Fr.snoc X212 N211 g_b204
  refine Ends.go (fun _ k => XS.aload X212.here hx rfl (hb hby at_114) rfl rfl k) ?_
  show Ends p e below s T212 (mkF m 116 #[.val (.int p0), .val (.int p1), .val (.long q2), .second, .val (.int p3), .val (.int p4), .val (.int (p0.toInt8.toInt32)), .val (.int ((p0 >>> ((8 : Int32) &&& 31)).toInt8.toInt32)), .val (.ref b197), .val (.ref b204), .unset, .unset, .unset, .unset, .unset, .unset, .unset, .unset, .unset, .unset, .unset, .unset, .unset, .unset, .unset, .unset, .unset, .unset, .unset, .unset, .unset, .unset, .unset, .unset] [(.ref b204)]) _ _ _
  refine Ends.go (fun _ k => XS.iconst X212.here hx rfl (hb hby at_116) k) ?_
  refine Ends.go (fun _ k => XS.iloadN X212.here hx rfl (hb hby at_117) rfl k) ?_
  refine Ends.go (fun _ k => XS.bipush X212.here hx rfl (hb hby at_118) k) ?_
  refine Ends.go (fun _ k => XS.iload X212.here hx rfl (hb hby at_120) rfl k) ?_
  show Ends p e below s T212 (mkF m 122 #[.val (.int p0), .val (.int p1), .val (.long q2), .second, .val (.int p3), .val (.int p4), .val (.int (p0.toInt8.toInt32)), .val (.int ((p0 >>> ((8 : Int32) &&& 31)).toInt8.toInt32)), .val (.ref b197), .val (.ref b204), .unset, .unset, .unset, .unset, .unset, .unset, .unset, .unset, .unset, .unset, .unset, .unset, .unset, .unset, .unset, .unset, .unset, .unset, .unset, .unset, .unset, .unset, .unset, .unset] [(.int (p0.toInt8.toInt32)), (.int (7 : Int32)), (.int p1), (.int (4 : Int32)), (.ref b204)]) _ _ _
  refine Ends.go (fun _ k => XS.iload X212.here hx rfl (hb hby at_122) rfl k) ?_
  obtain ⟨_, _, ⟨T213, L213, k213, n213⟩, -, X213, ⟨Lc213, hQ213, l213, y213, z213⟩, st213⟩ := Jvm.LawKit.callS X212 hx (y := (⟨"com/example/sindano/sindano/boyermoore/ReadingExactPinLaw", "pick", "(IIBB)B"⟩ : MethodName)) hown (mvT hZ (ow hw 1 rfl)) (mvT hZ (ow hw 2 rfl)) (mvT hZ (ow hw 3 rfl)) (mvT hZ (ow hw 4 rfl)) (by decide) (own_backOf (W := 2) (rmP l Z a0 hw [] n0 h212 O212 p1 (7 : Int32) (p0.toInt8.toInt32) ((p0 >>> ((8 : Int32) &&& 31)).toInt8.toInt32)) hZ (ow hw 4 rfl) (ow hw 3 rfl) (by decide) (by decide)) (g := (mkF m 124 #[.val (.int p0), .val (.int p1), .val (.long q2), .second, .val (.int p3), .val (.int p4), .val (.int (p0.toInt8.toInt32)), .val (.int ((p0 >>> ((8 : Int32) &&& 31)).toInt8.toInt32)), .val (.ref b197), .val (.ref b204), .unset, .unset, .unset, .unset, .unset, .unset, .unset, .unset, .unset, .unset, .unset, .unset, .unset, .unset, .unset, .unset, .unset, .unset, .unset, .unset, .unset, .unset, .unset, .unset] [(.int ((p0 >>> ((8 : Int32) &&& 31)).toInt8.toInt32)), (.int (p0.toInt8.toInt32)), (.int (7 : Int32)), (.int p1), (.int (4 : Int32)), (.ref b204)])) rfl (by rw [hml]; rfl) (argsL := [(.int p1), (.int (7 : Int32)), (.int (p0.toInt8.toInt32)), (.int ((p0 >>> ((8 : Int32) &&& 31)).toInt8.toInt32))]) (rest := [(.int (4 : Int32)), (.ref b204)]) (lenOf pdx_2 rfl) rfl (by show 2 * 0 + _ ≤ _; exact Nat.le_of_eq rfl) (hb hby at_124) (fun _ _ => ⟨rfl, e212, (by decide : 2 + 0 ≤ _), (by decide : 11 + 0 ≤ _)⟩)
  dsimp only [Pt.U, Pt.locs, Pt.cells, Pt.slots] at X213 l213 y213 z213 st213 hQ213
  subst l213 y213 z213
  obtain ⟨u4_, rfl, N213q, e213q, hr213⟩ := hQ213
  have N213 := Fr.app N212 N213q
  refine Ends.go st213 ?_
  have hu4_ := hr213
  obtain ⟨cl214, Ar214, q214, S214, M214, H214, G214⟩ := id V212
  have hin214 := inb_of (j := (4 : Int32)) S214 ⟨by decide, by decide⟩
  obtain ⟨T214, h214, X214, e214, W214, st214⟩ := stB X213 hx hZ e213q Ar214 (j := (4 : Int32)) hin214 (g := (mkF m 127 #[.val (.int p0), .val (.int p1), .val (.long q2), .second, .val (.int p3), .val (.int p4), .val (.int (p0.toInt8.toInt32)), .val (.int ((p0 >>> ((8 : Int32) &&& 31)).toInt8.toInt32)), .val (.ref b197), .val (.ref b204), .unset, .unset, .unset, .unset, .unset, .unset, .unset, .unset, .unset, .unset, .unset, .unset, .unset, .unset, .unset, .unset, .unset, .unset, .unset, .unset, .unset, .unset, .unset, .unset] [(.int u4_), (.int (4 : Int32)), (.ref b204)])) rfl rfl (hb hby at_127)
  refine Ends.go st214 ?_
  have V214 : Arv Z h214 b204 k204 .byte (8 : Int32) [(.int u0_), (.int u1_), (.int u2_), (.int u3_), (.int (nar .byte u4_)), (.int (0 : Int32)), (.int (0 : Int32)), (.int (0 : Int32))] (.int (0 : Int32)) := Arv.set Ar214 q214 S214 M214 H214 G214 (fits_nar_byte _) W214 4 rfl (Nat.le_of_ble_eq_true rfl)
  rw [own_narby hu4_] at V214
  have K214 := K212.wr W214 (Or.inr sz_b204)
  have O214 := O212.wr W214 g_b204
  have N214 := Fr.snoc X214 N213 g_b204
  refine Ends.go (fun _ k => XS.aload X214.here hx rfl (hb hby at_128) rfl rfl k) ?_
  show Ends p e below s T214 (mkF m 130 #[.val (.int p0), .val (.int p1), .val (.long q2), .second, .val (.int p3), .val (.int p4), .val (.int (p0.toInt8.toInt32)), .val (.int ((p0 >>> ((8 : Int32) &&& 31)).toInt8.toInt32)), .val (.ref b197), .val (.ref b204), .unset, .unset, .unset, .unset, .unset, .unset, .unset, .unset, .unset, .unset, .unset, .unset, .unset, .unset, .unset, .unset, .unset, .unset, .unset, .unset, .unset, .unset, .unset, .unset] [(.ref b204)]) _ _ _
  refine Ends.go (fun _ k => XS.iconst X214.here hx rfl (hb hby at_130) k) ?_
  refine Ends.go (fun _ k => XS.iloadN X214.here hx rfl (hb hby at_131) rfl k) ?_
  refine Ends.go (fun _ k => XS.bipush X214.here hx rfl (hb hby at_132) k) ?_
  refine Ends.go (fun _ k => XS.iload X214.here hx rfl (hb hby at_134) rfl k) ?_
  show Ends p e below s T214 (mkF m 136 #[.val (.int p0), .val (.int p1), .val (.long q2), .second, .val (.int p3), .val (.int p4), .val (.int (p0.toInt8.toInt32)), .val (.int ((p0 >>> ((8 : Int32) &&& 31)).toInt8.toInt32)), .val (.ref b197), .val (.ref b204), .unset, .unset, .unset, .unset, .unset, .unset, .unset, .unset, .unset, .unset, .unset, .unset, .unset, .unset, .unset, .unset, .unset, .unset, .unset, .unset, .unset, .unset, .unset, .unset] [(.int (p0.toInt8.toInt32)), (.int (8 : Int32)), (.int p1), (.int (5 : Int32)), (.ref b204)]) _ _ _
  refine Ends.go (fun _ k => XS.iload X214.here hx rfl (hb hby at_136) rfl k) ?_
  obtain ⟨_, _, ⟨T215, L215, k215, n215⟩, -, X215, ⟨Lc215, hQ215, l215, y215, z215⟩, st215⟩ := Jvm.LawKit.callS X214 hx (y := (⟨"com/example/sindano/sindano/boyermoore/ReadingExactPinLaw", "pick", "(IIBB)B"⟩ : MethodName)) hown (mvT hZ (ow hw 1 rfl)) (mvT hZ (ow hw 2 rfl)) (mvT hZ (ow hw 3 rfl)) (mvT hZ (ow hw 4 rfl)) (by decide) (own_backOf (W := 2) (rmP l Z a0 hw [] n0 h214 O214 p1 (8 : Int32) (p0.toInt8.toInt32) ((p0 >>> ((8 : Int32) &&& 31)).toInt8.toInt32)) hZ (ow hw 4 rfl) (ow hw 3 rfl) (by decide) (by decide)) (g := (mkF m 138 #[.val (.int p0), .val (.int p1), .val (.long q2), .second, .val (.int p3), .val (.int p4), .val (.int (p0.toInt8.toInt32)), .val (.int ((p0 >>> ((8 : Int32) &&& 31)).toInt8.toInt32)), .val (.ref b197), .val (.ref b204), .unset, .unset, .unset, .unset, .unset, .unset, .unset, .unset, .unset, .unset, .unset, .unset, .unset, .unset, .unset, .unset, .unset, .unset, .unset, .unset, .unset, .unset, .unset, .unset] [(.int ((p0 >>> ((8 : Int32) &&& 31)).toInt8.toInt32)), (.int (p0.toInt8.toInt32)), (.int (8 : Int32)), (.int p1), (.int (5 : Int32)), (.ref b204)])) rfl (by rw [hml]; rfl) (argsL := [(.int p1), (.int (8 : Int32)), (.int (p0.toInt8.toInt32)), (.int ((p0 >>> ((8 : Int32) &&& 31)).toInt8.toInt32))]) (rest := [(.int (5 : Int32)), (.ref b204)]) (lenOf pdx_2 rfl) rfl (by show 2 * 0 + _ ≤ _; exact Nat.le_of_eq rfl) (hb hby at_138) (fun _ _ => ⟨rfl, e214, (by decide : 2 + 0 ≤ _), (by decide : 11 + 0 ≤ _)⟩)
  dsimp only [Pt.U, Pt.locs, Pt.cells, Pt.slots] at X215 l215 y215 z215 st215 hQ215
  subst l215 y215 z215
  obtain ⟨u5_, rfl, N215q, e215q, hr215⟩ := hQ215
  have N215 := Fr.app N214 N215q
  refine Ends.go st215 ?_
  have hu5_ := hr215
  obtain ⟨cl216, Ar216, q216, S216, M216, H216, G216⟩ := id V214
  have hin216 := inb_of (j := (5 : Int32)) S216 ⟨by decide, by decide⟩
  obtain ⟨T216, h216, X216, e216, W216, st216⟩ := stB X215 hx hZ e215q Ar216 (j := (5 : Int32)) hin216 (g := (mkF m 141 #[.val (.int p0), .val (.int p1), .val (.long q2), .second, .val (.int p3), .val (.int p4), .val (.int (p0.toInt8.toInt32)), .val (.int ((p0 >>> ((8 : Int32) &&& 31)).toInt8.toInt32)), .val (.ref b197), .val (.ref b204), .unset, .unset, .unset, .unset, .unset, .unset, .unset, .unset, .unset, .unset, .unset, .unset, .unset, .unset, .unset, .unset, .unset, .unset, .unset, .unset, .unset, .unset, .unset, .unset] [(.int u5_), (.int (5 : Int32)), (.ref b204)])) rfl rfl (hb hby at_141)
  refine Ends.go st216 ?_
  have V216 : Arv Z h216 b204 k204 .byte (8 : Int32) [(.int u0_), (.int u1_), (.int u2_), (.int u3_), (.int u4_), (.int (nar .byte u5_)), (.int (0 : Int32)), (.int (0 : Int32))] (.int (0 : Int32)) := Arv.set Ar216 q216 S216 M216 H216 G216 (fits_nar_byte _) W216 5 rfl (Nat.le_of_ble_eq_true rfl)
  rw [own_narby hu5_] at V216
  have K216 := K214.wr W216 (Or.inr sz_b204)
  have O216 := O214.wr W216 g_b204
  have N216 := Fr.snoc X216 N215 g_b204
  refine Ends.go (fun _ k => XS.aload X216.here hx rfl (hb hby at_142) rfl rfl k) ?_
  show Ends p e below s T216 (mkF m 144 #[.val (.int p0), .val (.int p1), .val (.long q2), .second, .val (.int p3), .val (.int p4), .val (.int (p0.toInt8.toInt32)), .val (.int ((p0 >>> ((8 : Int32) &&& 31)).toInt8.toInt32)), .val (.ref b197), .val (.ref b204), .unset, .unset, .unset, .unset, .unset, .unset, .unset, .unset, .unset, .unset, .unset, .unset, .unset, .unset, .unset, .unset, .unset, .unset, .unset, .unset, .unset, .unset, .unset, .unset] [(.ref b204)]) _ _ _
  refine Ends.go (fun _ k => XS.bipush X216.here hx rfl (hb hby at_144) k) ?_
  refine Ends.go (fun _ k => XS.iloadN X216.here hx rfl (hb hby at_146) rfl k) ?_
  refine Ends.go (fun _ k => XS.bipush X216.here hx rfl (hb hby at_147) k) ?_
  refine Ends.go (fun _ k => XS.iload X216.here hx rfl (hb hby at_149) rfl k) ?_
  show Ends p e below s T216 (mkF m 151 #[.val (.int p0), .val (.int p1), .val (.long q2), .second, .val (.int p3), .val (.int p4), .val (.int (p0.toInt8.toInt32)), .val (.int ((p0 >>> ((8 : Int32) &&& 31)).toInt8.toInt32)), .val (.ref b197), .val (.ref b204), .unset, .unset, .unset, .unset, .unset, .unset, .unset, .unset, .unset, .unset, .unset, .unset, .unset, .unset, .unset, .unset, .unset, .unset, .unset, .unset, .unset, .unset, .unset, .unset] [(.int (p0.toInt8.toInt32)), (.int (9 : Int32)), (.int p1), (.int (6 : Int32)), (.ref b204)]) _ _ _
  refine Ends.go (fun _ k => XS.iload X216.here hx rfl (hb hby at_151) rfl k) ?_
  obtain ⟨_, _, ⟨T217, L217, k217, n217⟩, -, X217, ⟨Lc217, hQ217, l217, y217, z217⟩, st217⟩ := Jvm.LawKit.callS X216 hx (y := (⟨"com/example/sindano/sindano/boyermoore/ReadingExactPinLaw", "pick", "(IIBB)B"⟩ : MethodName)) hown (mvT hZ (ow hw 1 rfl)) (mvT hZ (ow hw 2 rfl)) (mvT hZ (ow hw 3 rfl)) (mvT hZ (ow hw 4 rfl)) (by decide) (own_backOf (W := 2) (rmP l Z a0 hw [] n0 h216 O216 p1 (9 : Int32) (p0.toInt8.toInt32) ((p0 >>> ((8 : Int32) &&& 31)).toInt8.toInt32)) hZ (ow hw 4 rfl) (ow hw 3 rfl) (by decide) (by decide)) (g := (mkF m 153 #[.val (.int p0), .val (.int p1), .val (.long q2), .second, .val (.int p3), .val (.int p4), .val (.int (p0.toInt8.toInt32)), .val (.int ((p0 >>> ((8 : Int32) &&& 31)).toInt8.toInt32)), .val (.ref b197), .val (.ref b204), .unset, .unset, .unset, .unset, .unset, .unset, .unset, .unset, .unset, .unset, .unset, .unset, .unset, .unset, .unset, .unset, .unset, .unset, .unset, .unset, .unset, .unset, .unset, .unset] [(.int ((p0 >>> ((8 : Int32) &&& 31)).toInt8.toInt32)), (.int (p0.toInt8.toInt32)), (.int (9 : Int32)), (.int p1), (.int (6 : Int32)), (.ref b204)])) rfl (by rw [hml]; rfl) (argsL := [(.int p1), (.int (9 : Int32)), (.int (p0.toInt8.toInt32)), (.int ((p0 >>> ((8 : Int32) &&& 31)).toInt8.toInt32))]) (rest := [(.int (6 : Int32)), (.ref b204)]) (lenOf pdx_2 rfl) rfl (by show 2 * 0 + _ ≤ _; exact Nat.le_of_eq rfl) (hb hby at_153) (fun _ _ => ⟨rfl, e216, (by decide : 2 + 0 ≤ _), (by decide : 11 + 0 ≤ _)⟩)
  dsimp only [Pt.U, Pt.locs, Pt.cells, Pt.slots] at X217 l217 y217 z217 st217 hQ217
  subst l217 y217 z217
  obtain ⟨u6_, rfl, N217q, e217q, hr217⟩ := hQ217
  have N217 := Fr.app N216 N217q
  refine Ends.go st217 ?_
  have hu6_ := hr217
  obtain ⟨cl218, Ar218, q218, S218, M218, H218, G218⟩ := id V216
  have hin218 := inb_of (j := (6 : Int32)) S218 ⟨by decide, by decide⟩
  obtain ⟨T218, h218, X218, e218, W218, st218⟩ := stB X217 hx hZ e217q Ar218 (j := (6 : Int32)) hin218 (g := (mkF m 156 #[.val (.int p0), .val (.int p1), .val (.long q2), .second, .val (.int p3), .val (.int p4), .val (.int (p0.toInt8.toInt32)), .val (.int ((p0 >>> ((8 : Int32) &&& 31)).toInt8.toInt32)), .val (.ref b197), .val (.ref b204), .unset, .unset, .unset, .unset, .unset, .unset, .unset, .unset, .unset, .unset, .unset, .unset, .unset, .unset, .unset, .unset, .unset, .unset, .unset, .unset, .unset, .unset, .unset, .unset] [(.int u6_), (.int (6 : Int32)), (.ref b204)])) rfl rfl (hb hby at_156)
  refine Ends.go st218 ?_
  have V218 : Arv Z h218 b204 k204 .byte (8 : Int32) [(.int u0_), (.int u1_), (.int u2_), (.int u3_), (.int u4_), (.int u5_), (.int (nar .byte u6_)), (.int (0 : Int32))] (.int (0 : Int32)) := Arv.set Ar218 q218 S218 M218 H218 G218 (fits_nar_byte _) W218 6 rfl (Nat.le_of_ble_eq_true rfl)
  rw [own_narby hu6_] at V218
  have K218 := K216.wr W218 (Or.inr sz_b204)
  have O218 := O216.wr W218 g_b204
  have N218 := Fr.snoc X218 N217 g_b204
  refine Ends.go (fun _ k => XS.aload X218.here hx rfl (hb hby at_157) rfl rfl k) ?_
  show Ends p e below s T218 (mkF m 159 #[.val (.int p0), .val (.int p1), .val (.long q2), .second, .val (.int p3), .val (.int p4), .val (.int (p0.toInt8.toInt32)), .val (.int ((p0 >>> ((8 : Int32) &&& 31)).toInt8.toInt32)), .val (.ref b197), .val (.ref b204), .unset, .unset, .unset, .unset, .unset, .unset, .unset, .unset, .unset, .unset, .unset, .unset, .unset, .unset, .unset, .unset, .unset, .unset, .unset, .unset, .unset, .unset, .unset, .unset] [(.ref b204)]) _ _ _
  refine Ends.go (fun _ k => XS.bipush X218.here hx rfl (hb hby at_159) k) ?_
  refine Ends.go (fun _ k => XS.iloadN X218.here hx rfl (hb hby at_161) rfl k) ?_
  refine Ends.go (fun _ k => XS.bipush X218.here hx rfl (hb hby at_162) k) ?_
  refine Ends.go (fun _ k => XS.iload X218.here hx rfl (hb hby at_164) rfl k) ?_
  show Ends p e below s T218 (mkF m 166 #[.val (.int p0), .val (.int p1), .val (.long q2), .second, .val (.int p3), .val (.int p4), .val (.int (p0.toInt8.toInt32)), .val (.int ((p0 >>> ((8 : Int32) &&& 31)).toInt8.toInt32)), .val (.ref b197), .val (.ref b204), .unset, .unset, .unset, .unset, .unset, .unset, .unset, .unset, .unset, .unset, .unset, .unset, .unset, .unset, .unset, .unset, .unset, .unset, .unset, .unset, .unset, .unset, .unset, .unset] [(.int (p0.toInt8.toInt32)), (.int (10 : Int32)), (.int p1), (.int (7 : Int32)), (.ref b204)]) _ _ _
  refine Ends.go (fun _ k => XS.iload X218.here hx rfl (hb hby at_166) rfl k) ?_
  obtain ⟨_, _, ⟨T219, L219, k219, n219⟩, -, X219, ⟨Lc219, hQ219, l219, y219, z219⟩, st219⟩ := Jvm.LawKit.callS X218 hx (y := (⟨"com/example/sindano/sindano/boyermoore/ReadingExactPinLaw", "pick", "(IIBB)B"⟩ : MethodName)) hown (mvT hZ (ow hw 1 rfl)) (mvT hZ (ow hw 2 rfl)) (mvT hZ (ow hw 3 rfl)) (mvT hZ (ow hw 4 rfl)) (by decide) (own_backOf (W := 2) (rmP l Z a0 hw [] n0 h218 O218 p1 (10 : Int32) (p0.toInt8.toInt32) ((p0 >>> ((8 : Int32) &&& 31)).toInt8.toInt32)) hZ (ow hw 4 rfl) (ow hw 3 rfl) (by decide) (by decide)) (g := (mkF m 168 #[.val (.int p0), .val (.int p1), .val (.long q2), .second, .val (.int p3), .val (.int p4), .val (.int (p0.toInt8.toInt32)), .val (.int ((p0 >>> ((8 : Int32) &&& 31)).toInt8.toInt32)), .val (.ref b197), .val (.ref b204), .unset, .unset, .unset, .unset, .unset, .unset, .unset, .unset, .unset, .unset, .unset, .unset, .unset, .unset, .unset, .unset, .unset, .unset, .unset, .unset, .unset, .unset, .unset, .unset] [(.int ((p0 >>> ((8 : Int32) &&& 31)).toInt8.toInt32)), (.int (p0.toInt8.toInt32)), (.int (10 : Int32)), (.int p1), (.int (7 : Int32)), (.ref b204)])) rfl (by rw [hml]; rfl) (argsL := [(.int p1), (.int (10 : Int32)), (.int (p0.toInt8.toInt32)), (.int ((p0 >>> ((8 : Int32) &&& 31)).toInt8.toInt32))]) (rest := [(.int (7 : Int32)), (.ref b204)]) (lenOf pdx_2 rfl) rfl (by show 2 * 0 + _ ≤ _; exact Nat.le_of_eq rfl) (hb hby at_168) (fun _ _ => ⟨rfl, e218, (by decide : 2 + 0 ≤ _), (by decide : 11 + 0 ≤ _)⟩)
  dsimp only [Pt.U, Pt.locs, Pt.cells, Pt.slots] at X219 l219 y219 z219 st219 hQ219
  subst l219 y219 z219
  obtain ⟨u7_, rfl, N219q, e219q, hr219⟩ := hQ219
  have N219 := Fr.app N218 N219q
  refine Ends.go st219 ?_
  have hu7_ := hr219
  obtain ⟨cl220, Ar220, q220, S220, M220, H220, G220⟩ := id V218
  have hin220 := inb_of (j := (7 : Int32)) S220 ⟨by decide, by decide⟩
  obtain ⟨T220, h220, X220, e220, W220, st220⟩ := stB X219 hx hZ e219q Ar220 (j := (7 : Int32)) hin220 (g := (mkF m 171 #[.val (.int p0), .val (.int p1), .val (.long q2), .second, .val (.int p3), .val (.int p4), .val (.int (p0.toInt8.toInt32)), .val (.int ((p0 >>> ((8 : Int32) &&& 31)).toInt8.toInt32)), .val (.ref b197), .val (.ref b204), .unset, .unset, .unset, .unset, .unset, .unset, .unset, .unset, .unset, .unset, .unset, .unset, .unset, .unset, .unset, .unset, .unset, .unset, .unset, .unset, .unset, .unset, .unset, .unset] [(.int u7_), (.int (7 : Int32)), (.ref b204)])) rfl rfl (hb hby at_171)
  refine Ends.go st220 ?_
  have V220 : Arv Z h220 b204 k204 .byte (8 : Int32) [(.int u0_), (.int u1_), (.int u2_), (.int u3_), (.int u4_), (.int u5_), (.int u6_), (.int (nar .byte u7_))] (.int (0 : Int32)) := Arv.set Ar220 q220 S220 M220 H220 G220 (fits_nar_byte _) W220 7 rfl (Nat.le_of_ble_eq_true rfl)
  rw [own_narby hu7_] at V220
  have K220 := K218.wr W220 (Or.inr sz_b204)
  have O220 := O218.wr W220 g_b204
  have N220 := Fr.snoc X220 N219 g_b204
  refine Ends.go (fun _ k => XS.lloadN X220.here hx rfl (hb hby at_172) rfl k) ?_
  show Ends p e below s T220 (mkF m 173 #[.val (.int p0), .val (.int p1), .val (.long q2), .second, .val (.int p3), .val (.int p4), .val (.int (p0.toInt8.toInt32)), .val (.int ((p0 >>> ((8 : Int32) &&& 31)).toInt8.toInt32)), .val (.ref b197), .val (.ref b204), .unset, .unset, .unset, .unset, .unset, .unset, .unset, .unset, .unset, .unset, .unset, .unset, .unset, .unset, .unset, .unset, .unset, .unset, .unset, .unset, .unset, .unset, .unset, .unset] [(.long q2)]) _ _ _
  refine Ends.go (fun _ k => XS.iconst X220.here hx rfl (hb hby at_173) k) ?_
  refine Ends.go (fun _ k => XS.lushr X220.here hx rfl (hb hby at_174) rfl k) ?_
  show Ends p e below s T220 (mkF m 175 #[.val (.int p0), .val (.int p1), .val (.long q2), .second, .val (.int p3), .val (.int p4), .val (.int (p0.toInt8.toInt32)), .val (.int ((p0 >>> ((8 : Int32) &&& 31)).toInt8.toInt32)), .val (.ref b197), .val (.ref b204), .unset, .unset, .unset, .unset, .unset, .unset, .unset, .unset, .unset, .unset, .unset, .unset, .unset, .unset, .unset, .unset, .unset, .unset, .unset, .unset, .unset, .unset, .unset, .unset] [(.long ((q2.toUInt64 >>> ((2 : Int32) &&& 0x3f).toInt64.toUInt64).toInt64))]) _ _ _
  generalize hg_q_ : ((q2.toUInt64 >>> ((2 : Int32) &&& 0x3f).toInt64.toUInt64).toInt64) = q_
  have hq := hg_q_
  show Ends p e below s T220 (mkF m 175 #[.val (.int p0), .val (.int p1), .val (.long q2), .second, .val (.int p3), .val (.int p4), .val (.int (p0.toInt8.toInt32)), .val (.int ((p0 >>> ((8 : Int32) &&& 31)).toInt8.toInt32)), .val (.ref b197), .val (.ref b204), .unset, .unset, .unset, .unset, .unset, .unset, .unset, .unset, .unset, .unset, .unset, .unset, .unset, .unset, .unset, .unset, .unset, .unset, .unset, .unset, .unset, .unset, .unset, .unset] [(.long q_)]) _ _ _
  refine Ends.go (fun _ k => XS.lstore X220.here hx rfl (hb hby at_175) rfl (l' := #[.val (.int p0), .val (.int p1), .val (.long q2), .second, .val (.int p3), .val (.int p4), .val (.int (p0.toInt8.toInt32)), .val (.int ((p0 >>> ((8 : Int32) &&& 31)).toInt8.toInt32)), .val (.ref b197), .val (.ref b204), .val (.long q_), .second, .unset, .unset, .unset, .unset, .unset, .unset, .unset, .unset, .unset, .unset, .unset, .unset, .unset, .unset, .unset, .unset, .unset, .unset, .unset, .unset, .unset, .unset]) rfl k) ?_
  refine Ends.go (fun _ k => XS.iconst X220.here hx rfl (hb hby at_177) k) ?_
  refine Ends.go (fun _ k => XS.iload X220.here hx rfl (hb hby at_178) rfl k) ?_
  refine Ends.go (X220.ldcInt hx hown (mvT hZ (ow hw 5 rfl)) (g := (mkF m 180 #[.val (.int p0), .val (.int p1), .val (.long q2), .second, .val (.int p3), .val (.int p4), .val (.int (p0.toInt8.toInt32)), .val (.int ((p0 >>> ((8 : Int32) &&& 31)).toInt8.toInt32)), .val (.ref b197), .val (.ref b204), .val (.long q_), .second, .unset, .unset, .unset, .unset, .unset, .unset, .unset, .unset, .unset, .unset, .unset, .unset, .unset, .unset, .unset, .unset, .unset, .unset, .unset, .unset, .unset, .unset] [(.int p3), (.int (2 : Int32))])) rfl (hb hby at_180)) ?_
  show Ends p e below s T220 (mkF m 182 #[.val (.int p0), .val (.int p1), .val (.long q2), .second, .val (.int p3), .val (.int p4), .val (.int (p0.toInt8.toInt32)), .val (.int ((p0 >>> ((8 : Int32) &&& 31)).toInt8.toInt32)), .val (.ref b197), .val (.ref b204), .val (.long q_), .second, .unset, .unset, .unset, .unset, .unset, .unset, .unset, .unset, .unset, .unset, .unset, .unset, .unset, .unset, .unset, .unset, .unset, .unset, .unset, .unset, .unset, .unset] [(.int (2147483647 : Int32)), (.int p3), (.int (2 : Int32))]) _ _ _
  refine Ends.go (fun _ k => XS.iand X220.here hx rfl (hb hby at_182) rfl k) ?_
  refine Ends.go (fun _ k => XS.bipush X220.here hx rfl (hb hby at_183) k) ?_
  refine Ends.go (fun _ k => iremM X220 hx rfl (hb hby at_185) rfl (by decide) k) ?_
  refine Ends.go (fun _ k => XS.iadd X220.here hx rfl (hb hby at_186) rfl k) ?_
  show Ends p e below s T220 (mkF m 187 #[.val (.int p0), .val (.int p1), .val (.long q2), .second, .val (.int p3), .val (.int p4), .val (.int (p0.toInt8.toInt32)), .val (.int ((p0 >>> ((8 : Int32) &&& 31)).toInt8.toInt32)), .val (.ref b197), .val (.ref b204), .val (.long q_), .second, .unset, .unset, .unset, .unset, .unset, .unset, .unset, .unset, .unset, .unset, .unset, .unset, .unset, .unset, .unset, .unset, .unset, .unset, .unset, .unset, .unset, .unset] [(.int ((2 : Int32) + ((p3 &&& (2147483647 : Int32)) % (7 : Int32))))]) _ _ _
  show Ends p e below s T220 (mkF m 187 #[.val (.int p0), .val (.int p1), .val (.long q2), .second, .val (.int p3), .val (.int p4), .val (.int (p0.toInt8.toInt32)), .val (.int ((p0 >>> ((8 : Int32) &&& 31)).toInt8.toInt32)), .val (.ref b197), .val (.ref b204), .val (.long q_), .second, .unset, .unset, .unset, .unset, .unset, .unset, .unset, .unset, .unset, .unset, .unset, .unset, .unset, .unset, .unset, .unset, .unset, .unset, .unset, .unset, .unset, .unset] [(.int ((2 : Int32) + ((p3 &&& (2147483647 : Int32)) % (7 : Int32))))]) _ _ _
  generalize hg_s1_ : ((2 : Int32) + ((p3 &&& (2147483647 : Int32)) % (7 : Int32))) = s1_
  have hs1 := own_st31 hg_s1_
  show Ends p e below s T220 (mkF m 187 #[.val (.int p0), .val (.int p1), .val (.long q2), .second, .val (.int p3), .val (.int p4), .val (.int (p0.toInt8.toInt32)), .val (.int ((p0 >>> ((8 : Int32) &&& 31)).toInt8.toInt32)), .val (.ref b197), .val (.ref b204), .val (.long q_), .second, .unset, .unset, .unset, .unset, .unset, .unset, .unset, .unset, .unset, .unset, .unset, .unset, .unset, .unset, .unset, .unset, .unset, .unset, .unset, .unset, .unset, .unset] [(.int s1_)]) _ _ _
  refine Ends.go (fun _ k => XS.istore X220.here hx rfl (hb hby at_187) rfl (l' := #[.val (.int p0), .val (.int p1), .val (.long q2), .second, .val (.int p3), .val (.int p4), .val (.int (p0.toInt8.toInt32)), .val (.int ((p0 >>> ((8 : Int32) &&& 31)).toInt8.toInt32)), .val (.ref b197), .val (.ref b204), .val (.long q_), .second, .val (.int s1_), .unset, .unset, .unset, .unset, .unset, .unset, .unset, .unset, .unset, .unset, .unset, .unset, .unset, .unset, .unset, .unset, .unset, .unset, .unset, .unset, .unset]) rfl k) ?_
  refine Ends.go (fun _ k => XS.iload X220.here hx rfl (hb hby at_189) rfl k) ?_
  show Ends p e below s T220 (mkF m 191 #[.val (.int p0), .val (.int p1), .val (.long q2), .second, .val (.int p3), .val (.int p4), .val (.int (p0.toInt8.toInt32)), .val (.int ((p0 >>> ((8 : Int32) &&& 31)).toInt8.toInt32)), .val (.ref b197), .val (.ref b204), .val (.long q_), .second, .val (.int s1_), .unset, .unset, .unset, .unset, .unset, .unset, .unset, .unset, .unset, .unset, .unset, .unset, .unset, .unset, .unset, .unset, .unset, .unset, .unset, .unset, .unset] [(.int s1_)]) _ _ _
  refine Ends.go (fun _ k => XS.iload X220.here hx rfl (hb hby at_191) rfl k) ?_
  refine Ends.go (fun _ k => XS.bipush X220.here hx rfl (hb hby at_193) k) ?_
  refine Ends.go (fun _ k => XS.iushr X220.here hx rfl (hb hby at_195) rfl k) ?_
  refine Ends.go (fun _ k => XS.sipush X220.here hx rfl (hb hby at_196) k) ?_
  show Ends p e below s T220 (mkF m 199 #[.val (.int p0), .val (.int p1), .val (.long q2), .second, .val (.int p3), .val (.int p4), .val (.int (p0.toInt8.toInt32)), .val (.int ((p0 >>> ((8 : Int32) &&& 31)).toInt8.toInt32)), .val (.ref b197), .val (.ref b204), .val (.long q_), .second, .val (.int s1_), .unset, .unset, .unset, .unset, .unset, .unset, .unset, .unset, .unset, .unset, .unset, .unset, .unset, .unset, .unset, .unset, .unset, .unset, .unset, .unset, .unset] [(.int (255 : Int32)), (.int ((p3.toUInt32 >>> ((8 : Int32) &&& 31).toUInt32).toInt32)), (.int s1_)]) _ _ _
  refine Ends.go (fun _ k => XS.iand X220.here hx rfl (hb hby at_199) rfl k) ?_
  refine Ends.go (fun _ k => XS.bipush X220.here hx rfl (hb hby at_200) k) ?_
  refine Ends.go (fun _ k => XS.iload X220.here hx rfl (hb hby at_202) rfl k) ?_
  refine Ends.go (fun _ k => XS.isub X220.here hx rfl (hb hby at_204) rfl k) ?_
  show Ends p e below s T220 (mkF m 205 #[.val (.int p0), .val (.int p1), .val (.long q2), .second, .val (.int p3), .val (.int p4), .val (.int (p0.toInt8.toInt32)), .val (.int ((p0 >>> ((8 : Int32) &&& 31)).toInt8.toInt32)), .val (.ref b197), .val (.ref b204), .val (.long q_), .second, .val (.int s1_), .unset, .unset, .unset, .unset, .unset, .unset, .unset, .unset, .unset, .unset, .unset, .unset, .unset, .unset, .unset, .unset, .unset, .unset, .unset, .unset, .unset] [(.int ((9 : Int32) - s1_)), (.int (((p3.toUInt32 >>> ((8 : Int32) &&& 31).toUInt32).toInt32) &&& (255 : Int32))), (.int s1_)]) _ _ _
  refine Ends.go (fun _ k => iremM X220 hx rfl (hb hby at_205) rfl (own_nz hs1) k) ?_
  refine Ends.go (fun _ k => XS.iadd X220.here hx rfl (hb hby at_206) rfl k) ?_
  show Ends p e below s T220 (mkF m 207 #[.val (.int p0), .val (.int p1), .val (.long q2), .second, .val (.int p3), .val (.int p4), .val (.int (p0.toInt8.toInt32)), .val (.int ((p0 >>> ((8 : Int32) &&& 31)).toInt8.toInt32)), .val (.ref b197), .val (.ref b204), .val (.long q_), .second, .val (.int s1_), .unset, .unset, .unset, .unset, .unset, .unset, .unset, .unset, .unset, .unset, .unset, .unset, .unset, .unset, .unset, .unset, .unset, .unset, .unset, .unset, .unset] [(.int (s1_ + ((((p3.toUInt32 >>> ((8 : Int32) &&& 31).toUInt32).toInt32) &&& (255 : Int32)) % ((9 : Int32) - s1_))))]) _ _ _
  generalize hg_m1_ : (s1_ + ((((p3.toUInt32 >>> ((8 : Int32) &&& 31).toUInt32).toInt32) &&& (255 : Int32)) % ((9 : Int32) - s1_))) = m1_
  have hm1 := own_lim hs1 hg_m1_
  show Ends p e below s T220 (mkF m 207 #[.val (.int p0), .val (.int p1), .val (.long q2), .second, .val (.int p3), .val (.int p4), .val (.int (p0.toInt8.toInt32)), .val (.int ((p0 >>> ((8 : Int32) &&& 31)).toInt8.toInt32)), .val (.ref b197), .val (.ref b204), .val (.long q_), .second, .val (.int s1_), .unset, .unset, .unset, .unset, .unset, .unset, .unset, .unset, .unset, .unset, .unset, .unset, .unset, .unset, .unset, .unset, .unset, .unset, .unset, .unset, .unset] [(.int m1_)]) _ _ _
  refine Ends.go (fun _ k => XS.istore X220.here hx rfl (hb hby at_207) rfl (l' := #[.val (.int p0), .val (.int p1), .val (.long q2), .second, .val (.int p3), .val (.int p4), .val (.int (p0.toInt8.toInt32)), .val (.int ((p0 >>> ((8 : Int32) &&& 31)).toInt8.toInt32)), .val (.ref b197), .val (.ref b204), .val (.long q_), .second, .val (.int s1_), .val (.int m1_), .unset, .unset, .unset, .unset, .unset, .unset, .unset, .unset, .unset, .unset, .unset, .unset, .unset, .unset, .unset, .unset, .unset, .unset, .unset, .unset]) rfl k) ?_
  refine Ends.go (fun _ k => XS.aload X220.here hx rfl (hb hby at_209) rfl rfl k) ?_
  refine Ends.go (fun _ k => XS.aload X220.here hx rfl (hb hby at_211) rfl rfl k) ?_
  refine Ends.go (fun _ k => XS.iload X220.here hx rfl (hb hby at_213) rfl k) ?_
  show Ends p e below s T220 (mkF m 215 #[.val (.int p0), .val (.int p1), .val (.long q2), .second, .val (.int p3), .val (.int p4), .val (.int (p0.toInt8.toInt32)), .val (.int ((p0 >>> ((8 : Int32) &&& 31)).toInt8.toInt32)), .val (.ref b197), .val (.ref b204), .val (.long q_), .second, .val (.int s1_), .val (.int m1_), .unset, .unset, .unset, .unset, .unset, .unset, .unset, .unset, .unset, .unset, .unset, .unset, .unset, .unset, .unset, .unset, .unset, .unset, .unset, .unset] [(.int s1_), (.ref b197), (.ref b204)]) _ _ _
  refine Ends.go (fun _ k => XS.iload X220.here hx rfl (hb hby at_215) rfl k) ?_
  have ne_b197_b204 : b197 ≠ b204 := Nat.ne_of_lt (Nat.lt_of_lt_of_le V203.lt (Nat.le_of_eq g204.symm))
  obtain ⟨_, _, ⟨T221, L221, k221, n221⟩, -, X221, ⟨Lc221, hQ221, l221, y221, z221⟩, st221⟩ := Jvm.LawKit.callS X220 hx (y := (⟨"com/example/sindano/sindano/boyermoore/ReadingExactPinLaw", "firstEnd", "([B[BII)I"⟩ : MethodName)) hown (mvT hZ (ow hw 6 rfl)) (mvT hZ (ow hw 7 rfl)) (mvT hZ (ow hw 3 rfl)) (mvT hZ (ow hw 8 rfl)) (by decide) (own_backOf (W := 0) (rmE l Z a0 hw [] n0 h220 O220 b204 b197 k204 k197 s1_ m1_ a0_ a1_ a2_ u0_ u1_ u2_ u3_ u4_ u5_ u6_ u7_ V220 (((((((((V203.ext E204).other W206 ne_b197_b204).other W208 ne_b197_b204).other W210 ne_b197_b204).other W212 ne_b197_b204).other W214 ne_b197_b204).other W216 ne_b197_b204).other W218 ne_b197_b204).other W220 ne_b197_b204)) hZ (ow hw 8 rfl) (ow hw 3 rfl) (by decide) (by decide)) (g := (mkF m 217 #[.val (.int p0), .val (.int p1), .val (.long q2), .second, .val (.int p3), .val (.int p4), .val (.int (p0.toInt8.toInt32)), .val (.int ((p0 >>> ((8 : Int32) &&& 31)).toInt8.toInt32)), .val (.ref b197), .val (.ref b204), .val (.long q_), .second, .val (.int s1_), .val (.int m1_), .unset, .unset, .unset, .unset, .unset, .unset, .unset, .unset, .unset, .unset, .unset, .unset, .unset, .unset, .unset, .unset, .unset, .unset, .unset, .unset] [(.int m1_), (.int s1_), (.ref b197), (.ref b204)])) rfl (by rw [hml]; rfl) (argsL := [(.ref b204), (.ref b197), (.int s1_), (.int m1_)]) (rest := []) (lenOf pdx_3 rfl) rfl (by show 2 * 0 + _ ≤ _; exact Nat.le_of_eq rfl) (hb hby at_217) (fun _ _ => ⟨rfl, e220, (by decide : 2 + 0 ≤ _), (by decide : 11 + 0 ≤ _)⟩)
  dsimp only [Pt.U, Pt.locs, Pt.cells, Pt.slots] at X221 l221 y221 z221 st221 hQ221
  subst l221 y221 z221
  obtain ⟨r221, rfl, N221q, e221q, hr221⟩ := hQ221
  have N221 := Fr.app N220 N221q
  refine Ends.go st221 ?_
  have J348 : ∀ (T7 : State) (h7 : Heap) (lcs : List Loc) (e1_ : Int32) (ct_ : Int32) (s2_ : Int32) (m2_ : Int32) (r2_ : Int32) (e2_ : Int32) (k2_ : Int64) (X7 : Stand p l e room_1 s m #[(.int p0), (.int p1), (.long q2), (.int p3), (.int p4)] below meth c T7 lcs 2 11) (eT7 : T7.heap = h7) (O7 : Old Z n0 h7) (N7 : Fr n0 lcs) (K7 : Keep h0 h7 []) (V8 : Arv Z h7 b197 k197 .byte (3 : Int32) [(.int a0_), (.int a1_), (.int a2_)] (.int (0 : Int32))) (V9 : Arv Z h7 b204 k204 .byte (8 : Int32) [(.int u0_), (.int u1_), (.int u2_), (.int u3_), (.int u4_), (.int u5_), (.int u6_), (.int u7_)] (.int (0 : Int32))) (he1 : e1_ = own_end r221 m1_) (hs2 : 2 ≤ s2_.toInt ∧ s2_.toInt ≤ 8) (hm2 : s2_.toInt ≤ m2_.toInt ∧ m2_.toInt ≤ 8) (hr2 : r2_ = own_first a0_ a1_ a2_ u0_ u1_ u2_ u3_ u4_ u5_ u6_ u7_ s2_ m2_) (he2 : e2_ = own_end r2_ m2_) (hk2 : k2_ = if s2_ = e1_ then (0 : Int64) else 2), Ends p e below s T7 (mkF m 348 #[.val (.int p0), .val (.int p1), .val (.long q2), .second, .val (.int p3), .val (.int p4), .val (.int (p0.toInt8.toInt32)), .val (.int ((p0 >>> ((8 : Int32) &&& 31)).toInt8.toInt32)), .val (.ref b197), .val (.ref b204), .val (.long q_), .second, .val (.int s1_), .val (.int m1_), .val (.int r221), .val (.int e1_), .val (.int ct_), .val (.int s2_), .val (.int m2_), .val (.int r2_), .val (.int e2_), .val (.long ((2 : Int64) + ((e1_ - s1_).toInt64))), .second, .unset, .unset, .unset, .unset, .unset, .unset, .unset, .unset, .unset, .unset, .unset] [(.long k2_)]) room_1.cells room_1.slots (fun v h L => v = some (.int (1 : Int32)) ∧ Fr n0 L) := by
    intro T7 h7 lcs e1_ ct_ s2_ m2_ r2_ e2_ k2_ X7 eT7 O7 N7 K7 V8 V9 he1 hs2 hm2 hr2 he2 hk2
    show Ends p e below s T7 (mkF m 348 #[.val (.int p0), .val (.int p1), .val (.long q2), .second, .val (.int p3), .val (.int p4), .val (.int (p0.toInt8.toInt32)), .val (.int ((p0 >>> ((8 : Int32) &&& 31)).toInt8.toInt32)), .val (.ref b197), .val (.ref b204), .val (.long q_), .second, .val (.int s1_), .val (.int m1_), .val (.int r221), .val (.int e1_), .val (.int ct_), .val (.int s2_), .val (.int m2_), .val (.int r2_), .val (.int e2_), .val (.long ((2 : Int64) + ((e1_ - s1_).toInt64))), .second, .unset, .unset, .unset, .unset, .unset, .unset, .unset, .unset, .unset, .unset, .unset] [(.long k2_)]) _ _ _
    refine Ends.go (fun _ k => XS.iload X7.here hx rfl (hb hby at_348) rfl k) ?_
    show Ends p e below s T7 (mkF m 350 #[.val (.int p0), .val (.int p1), .val (.long q2), .second, .val (.int p3), .val (.int p4), .val (.int (p0.toInt8.toInt32)), .val (.int ((p0 >>> ((8 : Int32) &&& 31)).toInt8.toInt32)), .val (.ref b197), .val (.ref b204), .val (.long q_), .second, .val (.int s1_), .val (.int m1_), .val (.int r221), .val (.int e1_), .val (.int ct_), .val (.int s2_), .val (.int m2_), .val (.int r2_), .val (.int e2_), .val (.long ((2 : Int64) + ((e1_ - s1_).toInt64))), .second, .unset, .unset, .unset, .unset, .unset, .unset, .unset, .unset, .unset, .unset, .unset] [(.int e2_), (.long k2_)]) _ _ _
    refine Ends.go (fun _ k => XS.iload X7.here hx rfl (hb hby at_350) rfl k) ?_
    refine Ends.go (fun _ k => XS.isub X7.here hx rfl (hb hby at_352) rfl k) ?_
    refine Ends.go (fun _ k => XS.i2l X7.here hx rfl (hb hby at_353) rfl k) ?_
    refine Ends.go (fun _ k => XS.ladd X7.here hx rfl (hb hby at_354) rfl k) ?_
    show Ends p e below s T7 (mkF m 355 #[.val (.int p0), .val (.int p1), .val (.long q2), .second, .val (.int p3), .val (.int p4), .val (.int (p0.toInt8.toInt32)), .val (.int ((p0 >>> ((8 : Int32) &&& 31)).toInt8.toInt32)), .val (.ref b197), .val (.ref b204), .val (.long q_), .second, .val (.int s1_), .val (.int m1_), .val (.int r221), .val (.int e1_), .val (.int ct_), .val (.int s2_), .val (.int m2_), .val (.int r2_), .val (.int e2_), .val (.long ((2 : Int64) + ((e1_ - s1_).toInt64))), .second, .unset, .unset, .unset, .unset, .unset, .unset, .unset, .unset, .unset, .unset, .unset] [(.long (k2_ + ((e2_ - s2_).toInt64)))]) _ _ _
    refine Ends.go (fun _ k => XS.lstore X7.here hx rfl (hb hby at_355) rfl (l' := #[.val (.int p0), .val (.int p1), .val (.long q2), .second, .val (.int p3), .val (.int p4), .val (.int (p0.toInt8.toInt32)), .val (.int ((p0 >>> ((8 : Int32) &&& 31)).toInt8.toInt32)), .val (.ref b197), .val (.ref b204), .val (.long q_), .second, .val (.int s1_), .val (.int m1_), .val (.int r221), .val (.int e1_), .val (.int ct_), .val (.int s2_), .val (.int m2_), .val (.int r2_), .val (.int e2_), .val (.long ((2 : Int64) + ((e1_ - s1_).toInt64))), .second, .val (.long (k2_ + ((e2_ - s2_).toInt64))), .second, .unset, .unset, .unset, .unset, .unset, .unset, .unset, .unset, .unset]) rfl k) ?_
    obtain ⟨T222, h222, X222, e222, E222, A222, D222, -, st222⟩ := newO X7 hx hZ hown (ow hw 13 rfl) (ow hw 14 rfl) (ow hw 15 rfl) eT7 (g := (mkF m 357 #[.val (.int p0), .val (.int p1), .val (.long q2), .second, .val (.int p3), .val (.int p4), .val (.int (p0.toInt8.toInt32)), .val (.int ((p0 >>> ((8 : Int32) &&& 31)).toInt8.toInt32)), .val (.ref b197), .val (.ref b204), .val (.long q_), .second, .val (.int s1_), .val (.int m1_), .val (.int r221), .val (.int e1_), .val (.int ct_), .val (.int s2_), .val (.int m2_), .val (.int r2_), .val (.int e2_), .val (.long ((2 : Int64) + ((e1_ - s1_).toInt64))), .second, .val (.long (k2_ + ((e2_ - s2_).toInt64))), .second, .unset, .unset, .unset, .unset, .unset, .unset, .unset, .unset, .unset] [])) rfl (hb hby at_357) (by decide) (by decide)
    obtain ⟨b222, g222⟩ : ∃ z, z = h7.size := ⟨_, rfl⟩
    rw [← g222] at A222 D222 st222
    refine Ends.go st222 ?_
    have g_b222 : n0 ≤ b222 := Nat.le_trans (own_old_le O7) (Nat.le_of_eq g222.symm)
    have sz_b222 : h0.size ≤ b222 := Nat.le_trans K7.1 (Nat.le_of_eq g222.symm)
    have K222 := K7.ext E222
    have O222 := O7.ext E222
    have F_missing_b222 : Fld Z h222 b222 "com/example/sindano/sindano/boyermoore/ShiftOr" "missing" "[J" .null := D222 (Or.inr (ow hw 24 rfl)) (ty := (.array .long)) (by decide)
    have F_whole_b222 : Fld Z h222 b222 "com/example/sindano/sindano/boyermoore/ShiftOr" "whole" "J" (.long (0 : Int64)) := D222 (Or.inr (ow hw 31 rfl)) (ty := .long) (by decide)
    have F_back_b222 : Fld Z h222 b222 "com/example/sindano/sindano/boyermoore/ShiftOr" "back" "I" (.int (0 : Int32)) := D222 (Or.inr (ow hw 33 rfl)) (ty := .int) (by decide)
    refine Ends.go (fun _ k => XS.dup X222.here hx rfl (hb hby at_360) rfl rfl k) ?_
    refine Ends.go (fun _ k => XS.aload X222.here hx rfl (hb hby at_361) rfl rfl k) ?_
    show Ends p e below s T222 (mkF m 363 #[.val (.int p0), .val (.int p1), .val (.long q2), .second, .val (.int p3), .val (.int p4), .val (.int (p0.toInt8.toInt32)), .val (.int ((p0 >>> ((8 : Int32) &&& 31)).toInt8.toInt32)), .val (.ref b197), .val (.ref b204), .val (.long q_), .second, .val (.int s1_), .val (.int m1_), .val (.int r221), .val (.int e1_), .val (.int ct_), .val (.int s2_), .val (.int m2_), .val (.int r2_), .val (.int e2_), .val (.long ((2 : Int64) + ((e1_ - s1_).toInt64))), .second, .val (.long (k2_ + ((e2_ - s2_).toInt64))), .second, .unset, .unset, .unset, .unset, .unset, .unset, .unset, .unset, .unset] [(.ref b197), (.ref b222), (.ref b222)]) _ _ _
    have ne_b197_b222 : b197 ≠ b222 := Nat.ne_of_lt (Nat.lt_of_lt_of_le V8.lt (Nat.le_of_eq g222.symm))
    obtain ⟨_, _, ⟨T223, L223, k223, n223⟩, -, X223, ⟨Lc223, hQ223, l223, y223, z223⟩, st223⟩ := X222.specialBack hx (y := (⟨"com/example/sindano/sindano/boyermoore/ShiftOr", "<init>", "([B)V"⟩ : MethodName)) rfl hown (mvT hZ (ow hw 16 rfl)) (mvT hZ (ow hw 17 rfl)) (mvT hZ (ow hw 18 rfl)) (by decide) (own_backOf (W := 1) (rmI l Z a0 hw [] n0 h222 O222 b222 b197 k197 a0_ a1_ a2_ g_b222 ne_b197_b222 A222 F_missing_b222 F_whole_b222 F_back_b222 (V8.ext E222) ha0_ ha1_ ha2_) hZ (ow hw 18 rfl) (ow hw 15 rfl) (by decide) (by decide)) (g := (mkF m 363 #[.val (.int p0), .val (.int p1), .val (.long q2), .second, .val (.int p3), .val (.int p4), .val (.int (p0.toInt8.toInt32)), .val (.int ((p0 >>> ((8 : Int32) &&& 31)).toInt8.toInt32)), .val (.ref b197), .val (.ref b204), .val (.long q_), .second, .val (.int s1_), .val (.int m1_), .val (.int r221), .val (.int e1_), .val (.int ct_), .val (.int s2_), .val (.int m2_), .val (.int r2_), .val (.int e2_), .val (.long ((2 : Int64) + ((e1_ - s1_).toInt64))), .second, .val (.long (k2_ + ((e2_ - s2_).toInt64))), .second, .unset, .unset, .unset, .unset, .unset, .unset, .unset, .unset, .unset] [(.ref b197), (.ref b222), (.ref b222)])) rfl (by rw [hml]; rfl) (Steps.refl _) (a := b222) (argsL := [(.ref b197)]) (rest := [(.ref b222)]) (lenOf pdx_4 rfl) rfl (by show 2 * 0 + _ ≤ _; exact Nat.le_of_eq rfl) (hb hby at_363) (fun _ _ => ⟨rfl, e222, (by decide : 3 + 1 ≤ _), (by decide : 14 + 256 ≤ _)⟩)
    dsimp only [Pt.U, Pt.locs, Pt.cells, Pt.slots] at X223 l223 y223 z223 st223 hQ223
    subst l223 y223 z223
    obtain ⟨x223, f223, rfl, N223q, K223c, hx223, Fm223, Fw223, Fk223, M223, hm223⟩ := hQ223
    have N223 := Fr.app N7 N223q
    refine Ends.go (fun _ k => st223.trans k) ?_
    have g_x223 : n0 ≤ x223 := Nat.le_trans (own_old_le O222) hx223
    have sz_x223 : h0.size ≤ x223 := Nat.le_trans K222.1 hx223
    obtain ⟨h223, e223⟩ : ∃ z, T223.heap = z := ⟨_, rfl⟩
    rw [e223] at K223c Fm223 Fw223 Fk223 M223
    have K223 := K222.trans K223c (allS (Or.inr sz_b222) all0)
    have O223 := O222.keep K223c (allS g_b222 all0)
    refine Ends.go (fun _ k => XS.astore X223.here hx rfl (hb hby at_366) rfl rfl (l' := #[.val (.int p0), .val (.int p1), .val (.long q2), .second, .val (.int p3), .val (.int p4), .val (.int (p0.toInt8.toInt32)), .val (.int ((p0 >>> ((8 : Int32) &&& 31)).toInt8.toInt32)), .val (.ref b197), .val (.ref b204), .val (.long q_), .second, .val (.int s1_), .val (.int m1_), .val (.int r221), .val (.int e1_), .val (.int ct_), .val (.int s2_), .val (.int m2_), .val (.int r2_), .val (.int e2_), .val (.long ((2 : Int64) + ((e1_ - s1_).toInt64))), .second, .val (.long (k2_ + ((e2_ - s2_).toInt64))), .second, .val (.ref b222), .unset, .unset, .unset, .unset, .unset, .unset, .unset, .unset]) rfl k) ?_
    obtain ⟨T224, h224, X224, e224, E224, A224, D224, -, st224⟩ := newO X223 hx hZ hown (ow hw 34 rfl) (ow hw 35 rfl) (ow hw 36 rfl) e223 (g := (mkF m 368 #[.val (.int p0), .val (.int p1), .val (.long q2), .second, .val (.int p3), .val (.int p4), .val (.int (p0.toInt8.toInt32)), .val (.int ((p0 >>> ((8 : Int32) &&& 31)).toInt8.toInt32)), .val (.ref b197), .val (.ref b204), .val (.long q_), .second, .val (.int s1_), .val (.int m1_), .val (.int r221), .val (.int e1_), .val (.int ct_), .val (.int s2_), .val (.int m2_), .val (.int r2_), .val (.int e2_), .val (.long ((2 : Int64) + ((e1_ - s1_).toInt64))), .second, .val (.long (k2_ + ((e2_ - s2_).toInt64))), .second, .val (.ref b222), .unset, .unset, .unset, .unset, .unset, .unset, .unset, .unset] [])) rfl (hb hby at_368) (by decide) (by decide)
    obtain ⟨b224, g224⟩ : ∃ z, z = h223.size := ⟨_, rfl⟩
    rw [← g224] at A224 D224 st224
    refine Ends.go st224 ?_
    have g_b224 : n0 ≤ b224 := Nat.le_trans (own_old_le O223) (Nat.le_of_eq g224.symm)
    have sz_b224 : h0.size ≤ b224 := Nat.le_trans K223.1 (Nat.le_of_eq g224.symm)
    have K224 := K223.ext E224
    have O224 := O223.ext E224
    have F_through_b224 : Fld Z h224 b224 "com/example/sindano/sindano/boyermoore/ShiftOr$Reading" "through" "J" (.long (0 : Int64)) := D224 (Or.inl (ow hw 43 rfl)) (ty := .long) (by decide)
    have F_table_b224 : Fld Z h224 b224 "com/example/sindano/sindano/boyermoore/ShiftOr$Reading" "table" "Lcom/example/sindano/sindano/boyermoore/ShiftOr;" .null := D224 (Or.inr (ow hw 45 rfl)) (ty := (.object "com/example/sindano/sindano/boyermoore/ShiftOr")) (by decide)
    have F_ending_b224 : Fld Z h224 b224 "com/example/sindano/sindano/boyermoore/ShiftOr$Reading" "ending" "J" (.long (0 : Int64)) := D224 (Or.inl (ow hw 115 rfl)) (ty := .long) (by decide)
    refine Ends.go (fun _ k => XS.dup X224.here hx rfl (hb hby at_371) rfl rfl k) ?_
    show Ends p e below s T224 (mkF m 372 #[.val (.int p0), .val (.int p1), .val (.long q2), .second, .val (.int p3), .val (.int p4), .val (.int (p0.toInt8.toInt32)), .val (.int ((p0 >>> ((8 : Int32) &&& 31)).toInt8.toInt32)), .val (.ref b197), .val (.ref b204), .val (.long q_), .second, .val (.int s1_), .val (.int m1_), .val (.int r221), .val (.int e1_), .val (.int ct_), .val (.int s2_), .val (.int m2_), .val (.int r2_), .val (.int e2_), .val (.long ((2 : Int64) + ((e1_ - s1_).toInt64))), .second, .val (.long (k2_ + ((e2_ - s2_).toInt64))), .second, .val (.ref b222), .unset, .unset, .unset, .unset, .unset, .unset, .unset, .unset] [(.ref b224), (.ref b224)]) _ _ _
    refine Ends.go (fun _ k => XS.aload X224.here hx rfl (hb hby at_372) rfl rfl k) ?_
    obtain ⟨_, _, ⟨T229, L229, k229, n229⟩, -, X229, ⟨Lc229, hQ229, l229, y229, z229⟩, st229⟩ := X224.specialBack hx (y := (⟨"com/example/sindano/sindano/boyermoore/ShiftOr$Reading", "<init>", "(Lcom/example/sindano/sindano/boyermoore/ShiftOr;)V"⟩ : MethodName)) rfl hown (mvT hZ (ow hw 37 rfl)) (mvT hZ (ow hw 38 rfl)) (mvT hZ (ow hw 39 rfl)) (by decide) (own_backOf (W := 1) (rx7_225 l Z a0 hw [] n0 h224 O224  b224 b222 A224 F_through_b224 F_table_b224 F_ending_b224 g_b224) hZ (ow hw 39 rfl) (ow hw 36 rfl) (by decide) (by decide)) (g := (mkF m 374 #[.val (.int p0), .val (.int p1), .val (.long q2), .second, .val (.int p3), .val (.int p4), .val (.int (p0.toInt8.toInt32)), .val (.int ((p0 >>> ((8 : Int32) &&& 31)).toInt8.toInt32)), .val (.ref b197), .val (.ref b204), .val (.long q_), .second, .val (.int s1_), .val (.int m1_), .val (.int r221), .val (.int e1_), .val (.int ct_), .val (.int s2_), .val (.int m2_), .val (.int r2_), .val (.int e2_), .val (.long ((2 : Int64) + ((e1_ - s1_).toInt64))), .second, .val (.long (k2_ + ((e2_ - s2_).toInt64))), .second, .val (.ref b222), .unset, .unset, .unset, .unset, .unset, .unset, .unset, .unset] [(.ref b222), (.ref b224), (.ref b224)])) rfl (by rw [hml]; rfl) (Steps.refl _) (a := b224) (argsL := [(.ref b222)]) (rest := [(.ref b224)]) (lenOf pdx_5 rfl) rfl (by show 2 * 0 + _ ≤ _; exact Nat.le_of_eq rfl) (hb hby at_374) (fun _ _ => ⟨rfl, e224, (by decide : 5 + 0 ≤ _), (by decide : 273 + 0 ≤ _)⟩)
    dsimp only [Pt.U, Pt.locs, Pt.cells, Pt.slots] at X229 l229 y229 z229 st229 hQ229
    subst l229 y229 z229
    obtain ⟨rfl, N229q, K229c, Y229_0, Y229_1, Y229_2⟩ := hQ229
    have N229 := Fr.app N223 N229q
    refine Ends.go (fun _ k => st229.trans k) ?_
    obtain ⟨h229, e229⟩ : ∃ z, T229.heap = z := ⟨_, rfl⟩
    rw [e229] at K229c Y229_0 Y229_1 Y229_2
    have K229 := K224.trans K229c (allS (Or.inr sz_b224) all0)
    have O229 := O224.keep K229c (allS g_b224 all0)
    refine Ends.go (fun _ k => XS.astore X229.here hx rfl (hb hby at_377) rfl rfl (l' := #[.val (.int p0), .val (.int p1), .val (.long q2), .second, .val (.int p3), .val (.int p4), .val (.int (p0.toInt8.toInt32)), .val (.int ((p0 >>> ((8 : Int32) &&& 31)).toInt8.toInt32)), .val (.ref b197), .val (.ref b204), .val (.long q_), .second, .val (.int s1_), .val (.int m1_), .val (.int r221), .val (.int e1_), .val (.int ct_), .val (.int s2_), .val (.int m2_), .val (.int r2_), .val (.int e2_), .val (.long ((2 : Int64) + ((e1_ - s1_).toInt64))), .second, .val (.long (k2_ + ((e2_ - s2_).toInt64))), .second, .val (.ref b222), .val (.ref b224), .unset, .unset, .unset, .unset, .unset, .unset, .unset]) rfl k) ?_
    obtain ⟨T230, h230, X230, e230, E230, A230, D230, -, st230⟩ := newO X229 hx hZ hown (ow hw 46 rfl) (ow hw 47 rfl) (ow hw 48 rfl) e229 (g := (mkF m 379 #[.val (.int p0), .val (.int p1), .val (.long q2), .second, .val (.int p3), .val (.int p4), .val (.int (p0.toInt8.toInt32)), .val (.int ((p0 >>> ((8 : Int32) &&& 31)).toInt8.toInt32)), .val (.ref b197), .val (.ref b204), .val (.long q_), .second, .val (.int s1_), .val (.int m1_), .val (.int r221), .val (.int e1_), .val (.int ct_), .val (.int s2_), .val (.int m2_), .val (.int r2_), .val (.int e2_), .val (.long ((2 : Int64) + ((e1_ - s1_).toInt64))), .second, .val (.long (k2_ + ((e2_ - s2_).toInt64))), .second, .val (.ref b222), .val (.ref b224), .unset, .unset, .unset, .unset, .unset, .unset, .unset] [])) rfl (hb hby at_379) (by decide) (by decide)
    obtain ⟨b230, g230⟩ : ∃ z, z = h229.size := ⟨_, rfl⟩
    rw [← g230] at A230 D230 st230
    refine Ends.go st230 ?_
    have g_b230 : n0 ≤ b230 := Nat.le_trans (own_old_le O229) (Nat.le_of_eq g230.symm)
    have sz_b230 : h0.size ≤ b230 := Nat.le_trans K229.1 (Nat.le_of_eq g230.symm)
    have K230 := K229.ext E230
    have O230 := O229.ext E230
    have F_skippedWhole_b230 : Fld Z h230 b230 "com/example/sindano/sindano/boyermoore/Stretches" "skippedWhole" "Z" (.int (0 : Int32)) := D230 (Or.inl (ow hw 80 rfl)) (ty := .boolean) (by decide)
    have F_pause_b230 : Fld Z h230 b230 "com/example/sindano/sindano/boyermoore/Stretches" "pause" "I" (.int (0 : Int32)) := D230 (Or.inl (ow hw 82 rfl)) (ty := .int) (by decide)
    have F_resting_b230 : Fld Z h230 b230 "com/example/sindano/sindano/boyermoore/Stretches" "resting" "Lcom/example/sindano/sindano/boyermoore/Stretches$Opening;" .null := D230 (Or.inl (ow hw 87 rfl)) (ty := (.object "com/example/sindano/sindano/boyermoore/Stretches$Opening")) (by decide)
    have F_plan_b230 : Fld Z h230 b230 "com/example/sindano/sindano/boyermoore/Stretches" "plan" "Lcom/example/sindano/sindano/boyermoore/Stretches$Plan;" .null := D230 (Or.inr (ow hw 89 rfl)) (ty := (.object "com/example/sindano/sindano/boyermoore/Stretches$Plan")) (by decide)
    have F_window_b230 : Fld Z h230 b230 "com/example/sindano/sindano/boyermoore/Stretches" "window" "J" (.long (0 : Int64)) := D230 (Or.inl (ow hw 92 rfl)) (ty := .long) (by decide)
    have F_stretchEnd_b230 : Fld Z h230 b230 "com/example/sindano/sindano/boyermoore/Stretches" "stretchEnd" "J" (.long (0 : Int64)) := D230 (Or.inl (ow hw 99 rfl)) (ty := .long) (by decide)
    have F_seeking_b230 : Fld Z h230 b230 "com/example/sindano/sindano/boyermoore/Stretches" "seeking" "Z" (.int (0 : Int32)) := D230 (Or.inl (ow hw 102 rfl)) (ty := .boolean) (by decide)
    have F_next_b230 : Fld Z h230 b230 "com/example/sindano/sindano/boyermoore/Stretches" "next" "Lcom/example/sindano/sindano/boyermoore/Stretches$Opening;" .null := D230 (Or.inl (ow hw 104 rfl)) (ty := (.object "com/example/sindano/sindano/boyermoore/Stretches$Opening")) (by decide)
    have F_made_b230 : Fld Z h230 b230 "com/example/sindano/sindano/boyermoore/Stretches" "made" "J" (.long (0 : Int64)) := D230 (Or.inl (ow hw 118 rfl)) (ty := .long) (by decide)
    show Ends p e below s T230 (mkF m 382 #[.val (.int p0), .val (.int p1), .val (.long q2), .second, .val (.int p3), .val (.int p4), .val (.int (p0.toInt8.toInt32)), .val (.int ((p0 >>> ((8 : Int32) &&& 31)).toInt8.toInt32)), .val (.ref b197), .val (.ref b204), .val (.long q_), .second, .val (.int s1_), .val (.int m1_), .val (.int r221), .val (.int e1_), .val (.int ct_), .val (.int s2_), .val (.int m2_), .val (.int r2_), .val (.int e2_), .val (.long ((2 : Int64) + ((e1_ - s1_).toInt64))), .second, .val (.long (k2_ + ((e2_ - s2_).toInt64))), .second, .val (.ref b222), .val (.ref b224), .unset, .unset, .unset, .unset, .unset, .unset, .unset] [(.ref b230)]) _ _ _
    refine Ends.go (fun _ k => XS.dup X230.here hx rfl (hb hby at_382) rfl rfl k) ?_
    obtain ⟨T231, h231, X231, e231, E231, A231, D231, -, st231⟩ := newO X230 hx hZ hown (ow hw 49 rfl) (ow hw 50 rfl) (ow hw 51 rfl) e230 (g := (mkF m 383 #[.val (.int p0), .val (.int p1), .val (.long q2), .second, .val (.int p3), .val (.int p4), .val (.int (p0.toInt8.toInt32)), .val (.int ((p0 >>> ((8 : Int32) &&& 31)).toInt8.toInt32)), .val (.ref b197), .val (.ref b204), .val (.long q_), .second, .val (.int s1_), .val (.int m1_), .val (.int r221), .val (.int e1_), .val (.int ct_), .val (.int s2_), .val (.int m2_), .val (.int r2_), .val (.int e2_), .val (.long ((2 : Int64) + ((e1_ - s1_).toInt64))), .second, .val (.long (k2_ + ((e2_ - s2_).toInt64))), .second, .val (.ref b222), .val (.ref b224), .unset, .unset, .unset, .unset, .unset, .unset, .unset] [(.ref b230), (.ref b230)])) rfl (hb hby at_383) (by decide) (by decide)
    obtain ⟨b231, g231⟩ : ∃ z, z = h230.size := ⟨_, rfl⟩
    rw [← g231] at A231 D231 st231
    refine Ends.go st231 ?_
    have g_b231 : n0 ≤ b231 := Nat.le_trans (own_old_le O230) (Nat.le_of_eq g231.symm)
    have sz_b231 : h0.size ≤ b231 := Nat.le_trans K230.1 (Nat.le_of_eq g231.symm)
    have K231 := K230.ext E231
    have O231 := O230.ext E231
    have F_patternLength_b231 : Fld Z h231 b231 "com/example/sindano/sindano/boyermoore/Stretches$Plan" "patternLength" "I" (.int (0 : Int32)) := D231 (Or.inr (ow hw 57 rfl)) (ty := .int) (by decide)
    have F_form_b231 : Fld Z h231 b231 "com/example/sindano/sindano/boyermoore/Stretches$Plan" "form" "Lcom/example/sindano/sindano/boyermoore/Stretches$FastForm;" .null := D231 (Or.inr (ow hw 59 rfl)) (ty := (.object "com/example/sindano/sindano/boyermoore/Stretches$FastForm")) (by decide)
    have F_opening_b231 : Fld Z h231 b231 "com/example/sindano/sindano/boyermoore/Stretches$Plan" "opening" "Lcom/example/sindano/sindano/boyermoore/Stretches$FastForm;" .null := D231 (Or.inr (ow hw 61 rfl)) (ty := (.object "com/example/sindano/sindano/boyermoore/Stretches$FastForm")) (by decide)
    have F_exact_b231 : Fld Z h231 b231 "com/example/sindano/sindano/boyermoore/Stretches$Plan" "exact" "Z" (.int (0 : Int32)) := D231 (Or.inr (ow hw 63 rfl)) (ty := .boolean) (by decide)
    have F_length_b231 : Fld Z h231 b231 "com/example/sindano/sindano/boyermoore/Stretches$Plan" "length" "I" (.int (0 : Int32)) := D231 (Or.inr (ow hw 65 rfl)) (ty := .int) (by decide)
    have F_fullSkips_b231 : Fld Z h231 b231 "com/example/sindano/sindano/boyermoore/Stretches$Plan" "fullSkips" "I" (.int (0 : Int32)) := D231 (Or.inr (ow hw 67 rfl)) (ty := .int) (by decide)
    have F_wholeBudget_b231 : Fld Z h231 b231 "com/example/sindano/sindano/boyermoore/Stretches$Plan" "wholeBudget" "J" (.long (0 : Int64)) := D231 (Or.inr (ow hw 70 rfl)) (ty := .long) (by decide)
    have F_slowClassic_b231 : Fld Z h231 b231 "com/example/sindano/sindano/boyermoore/Stretches$Plan" "slowClassic" "I" (.int (0 : Int32)) := D231 (Or.inr (ow hw 72 rfl)) (ty := .int) (by decide)
    have F_slowerThanExact_b231 : Fld Z h231 b231 "com/example/sindano/sindano/boyermoore/Stretches$Plan" "slowerThanExact" "I" (.int (0 : Int32)) := D231 (Or.inr (ow hw 74 rfl)) (ty := .int) (by decide)
    refine Ends.go (fun _ k => XS.dup X231.here hx rfl (hb hby at_386) rfl rfl k) ?_
    refine Ends.go (fun _ k => XS.iconst X231.here hx rfl (hb hby at_387) k) ?_
    show Ends p e below s T231 (mkF m 388 #[.val (.int p0), .val (.int p1), .val (.long q2), .second, .val (.int p3), .val (.int p4), .val (.int (p0.toInt8.toInt32)), .val (.int ((p0 >>> ((8 : Int32) &&& 31)).toInt8.toInt32)), .val (.ref b197), .val (.ref b204), .val (.long q_), .second, .val (.int s1_), .val (.int m1_), .val (.int r221), .val (.int e1_), .val (.int ct_), .val (.int s2_), .val (.int m2_), .val (.int r2_), .val (.int e2_), .val (.long ((2 : Int64) + ((e1_ - s1_).toInt64))), .second, .val (.long (k2_ + ((e2_ - s2_).toInt64))), .second, .val (.ref b222), .val (.ref b224), .unset, .unset, .unset, .unset, .unset, .unset, .unset] [(.int (3 : Int32)), (.ref b231), (.ref b231), (.ref b230), (.ref b230)]) _ _ _
    refine Ends.go (fun _ k => XS.aconstNull X231.here hx rfl (hb hby at_388) k) ?_
    refine Ends.go (fun _ k => XS.aconstNull X231.here hx rfl (hb hby at_389) k) ?_
    refine Ends.go (fun _ k => XS.iconst X231.here hx rfl (hb hby at_390) k) ?_
    obtain ⟨_, _, ⟨T246, L246, k246, n246⟩, -, X246, ⟨Lc246, hQ246, l246, y246, z246⟩, st246⟩ := X231.specialBack hx (y := (⟨"com/example/sindano/sindano/boyermoore/Stretches$Plan", "<init>", "(ILcom/example/sindano/sindano/boyermoore/Stretches$FastForm;Lcom/example/sindano/sindano/boyermoore/Stretches$FastForm;Z)V"⟩ : MethodName)) rfl hown (mvT hZ (ow hw 52 rfl)) (mvT hZ (ow hw 53 rfl)) (mvT hZ (ow hw 54 rfl)) (by decide) (own_backOf (W := 3) (rx8_232 l Z a0 hw [] n0 h231 O231  b231 A231 F_patternLength_b231 F_form_b231 F_opening_b231 F_exact_b231 F_length_b231 F_fullSkips_b231 F_wholeBudget_b231 F_slowClassic_b231 F_slowerThanExact_b231 g_b231) hZ (ow hw 54 rfl) (ow hw 51 rfl) (by decide) (by decide)) (g := (mkF m 391 #[.val (.int p0), .val (.int p1), .val (.long q2), .second, .val (.int p3), .val (.int p4), .val (.int (p0.toInt8.toInt32)), .val (.int ((p0 >>> ((8 : Int32) &&& 31)).toInt8.toInt32)), .val (.ref b197), .val (.ref b204), .val (.long q_), .second, .val (.int s1_), .val (.int m1_), .val (.int r221), .val (.int e1_), .val (.int ct_), .val (.int s2_), .val (.int m2_), .val (.int r2_), .val (.int e2_), .val (.long ((2 : Int64) + ((e1_ - s1_).toInt64))), .second, .val (.long (k2_ + ((e2_ - s2_).toInt64))), .second, .val (.ref b222), .val (.ref b224), .unset, .unset, .unset, .unset, .unset, .unset, .unset] [(.int (0 : Int32)), .null, .null, (.int (3 : Int32)), (.ref b231), (.ref b231), (.ref b230), (.ref b230)])) rfl (by rw [hml]; rfl) (Steps.refl _) (a := b231) (argsL := [(.int (3 : Int32)), .null, .null, (.int (0 : Int32))]) (rest := [(.ref b231), (.ref b230), (.ref b230)]) (lenOf pdx_6 rfl) rfl (by show 2 * 0 + _ ≤ _; exact Nat.le_of_eq rfl) (hb hby at_391) (fun _ _ => ⟨rfl, e231, (by decide : 7 + 0 ≤ _), (by decide : 308 + 0 ≤ _)⟩)
    dsimp only [Pt.U, Pt.locs, Pt.cells, Pt.slots] at X246 l246 y246 z246 st246 hQ246
    subst l246 y246 z246
    obtain ⟨rfl, N246q, K246c, Y246_0, Y246_1, Y246_2, Y246_3, Y246_4, Y246_5, Y246_6, Y246_7, Y246_8⟩ := hQ246
    have N246 := Fr.app N229 N246q
    refine Ends.go (fun _ k => st246.trans k) ?_
    obtain ⟨h246, e246⟩ : ∃ z, T246.heap = z := ⟨_, rfl⟩
    rw [e246] at K246c Y246_0 Y246_1 Y246_2 Y246_3 Y246_4 Y246_5 Y246_6 Y246_7 Y246_8
    have K246 := K231.trans K246c (allS (Or.inr sz_b231) all0)
    have O246 := O231.keep K246c (allS g_b231 all0)
    show Ends p e below s T246 (mkF m 394 #[.val (.int p0), .val (.int p1), .val (.long q2), .second, .val (.int p3), .val (.int p4), .val (.int (p0.toInt8.toInt32)), .val (.int ((p0 >>> ((8 : Int32) &&& 31)).toInt8.toInt32)), .val (.ref b197), .val (.ref b204), .val (.long q_), .second, .val (.int s1_), .val (.int m1_), .val (.int r221), .val (.int e1_), .val (.int ct_), .val (.int s2_), .val (.int m2_), .val (.int r2_), .val (.int e2_), .val (.long ((2 : Int64) + ((e1_ - s1_).toInt64))), .second, .val (.long (k2_ + ((e2_ - s2_).toInt64))), .second, .val (.ref b222), .val (.ref b224), .unset, .unset, .unset, .unset, .unset, .unset, .unset] [(.ref b231), (.ref b230), (.ref b230)]) _ _ _
    have ne_b230_b231 : b230 ≠ b231 := Nat.ne_of_lt (Nat.lt_of_lt_of_le A230.lt (Nat.le_of_eq g231.symm))
    obtain ⟨_, _, ⟨T266, L266, k266, n266⟩, -, X266, ⟨Lc266, hQ266, l266, y266, z266⟩, st266⟩ := X246.specialBack hx (y := (⟨"com/example/sindano/sindano/boyermoore/Stretches", "<init>", "(Lcom/example/sindano/sindano/boyermoore/Stretches$Plan;)V"⟩ : MethodName)) rfl hown (mvT hZ (ow hw 75 rfl)) (mvT hZ (ow hw 76 rfl)) (mvT hZ (ow hw 77 rfl)) (by decide) (own_backOf (W := 1) (rx9_247 l Z a0 hw [] n0 h246 O246 w_CLASSIC FF0 b230 b231 ((A230.ext E231).keep K246c) ((F_skippedWhole_b230.ext E231).keep K246c (ninS ne_b230_b231 nin0)) ((F_pause_b230.ext E231).keep K246c (ninS ne_b230_b231 nin0)) ((F_resting_b230.ext E231).keep K246c (ninS ne_b230_b231 nin0)) ((F_plan_b230.ext E231).keep K246c (ninS ne_b230_b231 nin0)) Y246_0 ((F_window_b230.ext E231).keep K246c (ninS ne_b230_b231 nin0)) Y246_4 (A231.keep K246c) ((F_stretchEnd_b230.ext E231).keep K246c (ninS ne_b230_b231 nin0)) Y246_2 ((F_seeking_b230.ext E231).keep K246c (ninS ne_b230_b231 nin0)) ((F_next_b230.ext E231).keep K246c (ninS ne_b230_b231 nin0)) ((F_made_b230.ext E231).keep K246c (ninS ne_b230_b231 nin0)) (Ne.symm ne_b230_b231) g_b230) hZ (ow hw 77 rfl) (ow hw 48 rfl) (by decide) (by decide)) (g := (mkF m 394 #[.val (.int p0), .val (.int p1), .val (.long q2), .second, .val (.int p3), .val (.int p4), .val (.int (p0.toInt8.toInt32)), .val (.int ((p0 >>> ((8 : Int32) &&& 31)).toInt8.toInt32)), .val (.ref b197), .val (.ref b204), .val (.long q_), .second, .val (.int s1_), .val (.int m1_), .val (.int r221), .val (.int e1_), .val (.int ct_), .val (.int s2_), .val (.int m2_), .val (.int r2_), .val (.int e2_), .val (.long ((2 : Int64) + ((e1_ - s1_).toInt64))), .second, .val (.long (k2_ + ((e2_ - s2_).toInt64))), .second, .val (.ref b222), .val (.ref b224), .unset, .unset, .unset, .unset, .unset, .unset, .unset] [(.ref b231), (.ref b230), (.ref b230)])) rfl (by rw [hml]; rfl) (Steps.refl _) (a := b230) (argsL := [(.ref b231)]) (rest := [(.ref b230)]) (lenOf pdx_8 rfl) rfl (by show 2 * 0 + _ ≤ _; exact Nat.le_of_eq rfl) (hb hby at_394) (fun _ _ => ⟨rfl, e246, (by decide : 7 + 0 ≤ _), (by decide : 308 + 0 ≤ _)⟩)
    dsimp only [Pt.U, Pt.locs, Pt.cells, Pt.slots] at X266 l266 y266 z266 st266 hQ266
    subst l266 y266 z266
    obtain ⟨rfl, N266q, K266c, Y266_0, Y266_1, Y266_2, Y266_3, Y266_4, Y266_5, Y266_6, Y266_7, Y266_8⟩ := hQ266
    have N266 := Fr.app N246 N266q
    refine Ends.go (fun _ k => st266.trans k) ?_
    obtain ⟨h266, e266⟩ : ∃ z, T266.heap = z := ⟨_, rfl⟩
    rw [e266] at K266c Y266_0 Y266_1 Y266_2 Y266_3 Y266_4 Y266_5 Y266_6 Y266_7 Y266_8
    have K266 := K246.trans K266c (allS (Or.inr sz_b230) all0)
    have O266 := O246.keep K266c (allS g_b230 all0)
    refine Ends.go (fun _ k => XS.astore X266.here hx rfl (hb hby at_397) rfl rfl (l' := #[.val (.int p0), .val (.int p1), .val (.long q2), .second, .val (.int p3), .val (.int p4), .val (.int (p0.toInt8.toInt32)), .val (.int ((p0 >>> ((8 : Int32) &&& 31)).toInt8.toInt32)), .val (.ref b197), .val (.ref b204), .val (.long q_), .second, .val (.int s1_), .val (.int m1_), .val (.int r221), .val (.int e1_), .val (.int ct_), .val (.int s2_), .val (.int m2_), .val (.int r2_), .val (.int e2_), .val (.long ((2 : Int64) + ((e1_ - s1_).toInt64))), .second, .val (.long (k2_ + ((e2_ - s2_).toInt64))), .second, .val (.ref b222), .val (.ref b224), .val (.ref b230), .unset, .unset, .unset, .unset, .unset, .unset]) rfl k) ?_
    refine Ends.go (fun _ k => XS.aload X266.here hx rfl (hb hby at_399) rfl rfl k) ?_
    refine Ends.go (fun _ k => XS.lload X266.here hx rfl (hb hby at_401) rfl k) ?_
    show Ends p e below s T266 (mkF m 403 #[.val (.int p0), .val (.int p1), .val (.long q2), .second, .val (.int p3), .val (.int p4), .val (.int (p0.toInt8.toInt32)), .val (.int ((p0 >>> ((8 : Int32) &&& 31)).toInt8.toInt32)), .val (.ref b197), .val (.ref b204), .val (.long q_), .second, .val (.int s1_), .val (.int m1_), .val (.int r221), .val (.int e1_), .val (.int ct_), .val (.int s2_), .val (.int m2_), .val (.int r2_), .val (.int e2_), .val (.long ((2 : Int64) + ((e1_ - s1_).toInt64))), .second, .val (.long (k2_ + ((e2_ - s2_).toInt64))), .second, .val (.ref b222), .val (.ref b224), .val (.ref b230), .unset, .unset, .unset, .unset, .unset, .unset] [(.long q_), (.ref b230)]) _ _ _
    refine Ends.go (fun _ k => XS.iload X266.here hx rfl (hb hby at_403) rfl k) ?_
    refine Ends.go (fun _ k => XS.i2l X266.here hx rfl (hb hby at_405) rfl k) ?_
    refine Ends.go (fun _ k => XS.ladd X266.here hx rfl (hb hby at_406) rfl k) ?_
    obtain ⟨T267, h267, X267, e267, W267, st267⟩ := putF X266 hx hZ hown (host := "") (Or.inl (ow hw 105 rfl)) Via.refl e266 Y266_4 (((A230.ext E231).keep K246c).keep K266c) (Or.inl (ow hw 92 rfl)) (ow hw 47 rfl) (ty := .long) (by decide) rfl rfl (g := (mkF m 407 #[.val (.int p0), .val (.int p1), .val (.long q2), .second, .val (.int p3), .val (.int p4), .val (.int (p0.toInt8.toInt32)), .val (.int ((p0 >>> ((8 : Int32) &&& 31)).toInt8.toInt32)), .val (.ref b197), .val (.ref b204), .val (.long q_), .second, .val (.int s1_), .val (.int m1_), .val (.int r221), .val (.int e1_), .val (.int ct_), .val (.int s2_), .val (.int m2_), .val (.int r2_), .val (.int e2_), .val (.long ((2 : Int64) + ((e1_ - s1_).toInt64))), .second, .val (.long (k2_ + ((e2_ - s2_).toInt64))), .second, .val (.ref b222), .val (.ref b224), .val (.ref b230), .unset, .unset, .unset, .unset, .unset, .unset] [(.long (q_ + (s1_.toInt64))), (.ref b230)])) rfl rfl (hb hby at_407)
    refine Ends.go st267 ?_
    have Fw267 := Y266_4.same W267
    have K267 := K266.wr W267 (Or.inr sz_b230)
    have O267 := O266.wr W267 g_b230
    have N267 := Fr.snoc X267 N266 g_b230
    show Ends p e below s T267 (mkF m 410 #[.val (.int p0), .val (.int p1), .val (.long q2), .second, .val (.int p3), .val (.int p4), .val (.int (p0.toInt8.toInt32)), .val (.int ((p0 >>> ((8 : Int32) &&& 31)).toInt8.toInt32)), .val (.ref b197), .val (.ref b204), .val (.long q_), .second, .val (.int s1_), .val (.int m1_), .val (.int r221), .val (.int e1_), .val (.int ct_), .val (.int s2_), .val (.int m2_), .val (.int r2_), .val (.int e2_), .val (.long ((2 : Int64) + ((e1_ - s1_).toInt64))), .second, .val (.long (k2_ + ((e2_ - s2_).toInt64))), .second, .val (.ref b222), .val (.ref b224), .val (.ref b230), .unset, .unset, .unset, .unset, .unset, .unset] []) _ _ _
    refine Ends.go (fun _ k => XS.aload X267.here hx rfl (hb hby at_410) rfl rfl k) ?_
    refine Ends.go (fun _ k => XS.aload X267.here hx rfl (hb hby at_412) rfl rfl k) ?_
    refine Ends.go (fun _ k => XS.aload X267.here hx rfl (hb hby at_414) rfl rfl k) ?_
    refine Ends.go (fun _ k => XS.lload X267.here hx rfl (hb hby at_416) rfl k) ?_
    show Ends p e below s T267 (mkF m 418 #[.val (.int p0), .val (.int p1), .val (.long q2), .second, .val (.int p3), .val (.int p4), .val (.int (p0.toInt8.toInt32)), .val (.int ((p0 >>> ((8 : Int32) &&& 31)).toInt8.toInt32)), .val (.ref b197), .val (.ref b204), .val (.long q_), .second, .val (.int s1_), .val (.int m1_), .val (.int r221), .val (.int e1_), .val (.int ct_), .val (.int s2_), .val (.int m2_), .val (.int r2_), .val (.int e2_), .val (.long ((2 : Int64) + ((e1_ - s1_).toInt64))), .second, .val (.long (k2_ + ((e2_ - s2_).toInt64))), .second, .val (.ref b222), .val (.ref b224), .val (.ref b230), .unset, .unset, .unset, .unset, .unset, .unset] [(.long q_), (.ref b204), (.ref b230), (.ref b224)]) _ _ _
    refine Ends.go (fun _ k => XS.iload X267.here hx rfl (hb hby at_418) rfl k) ?_
    have ne_b224_b230 : b224 ≠ b230 := Nat.ne_of_lt (Nat.lt_of_lt_of_le (A224.keep K229c).lt (Nat.le_of_eq g230.symm))
    have ne_b204_b222 : b204 ≠ b222 := Nat.ne_of_lt (Nat.lt_of_lt_of_le V9.lt (Nat.le_of_eq g222.symm))
    have ne_b204_b224 : b204 ≠ b224 := Nat.ne_of_lt (Nat.lt_of_lt_of_le ((V9.ext E222).keep K223c (ninS ne_b204_b222 nin0)).lt (Nat.le_of_eq g224.symm))
    have ne_b204_b230 : b204 ≠ b230 := Nat.ne_of_lt (Nat.lt_of_lt_of_le ((((V9.ext E222).keep K223c (ninS ne_b204_b222 nin0)).ext E224).keep K229c (ninS ne_b204_b224 nin0)).lt (Nat.le_of_eq g230.symm))
    have ne_b222_b224 : b222 ≠ b224 := Nat.ne_of_lt (Nat.lt_of_lt_of_le (A222.keep K223c).lt (Nat.le_of_eq g224.symm))
    have ne_b222_b230 : b222 ≠ b230 := Nat.ne_of_lt (Nat.lt_of_lt_of_le (((A222.keep K223c).ext E224).keep K229c).lt (Nat.le_of_eq g230.symm))
    have ne_x223_b224 : x223 ≠ b224 := Nat.ne_of_lt (Nat.lt_of_lt_of_le M223.lt (Nat.le_of_eq g224.symm))
    have ne_x223_b230 : x223 ≠ b230 := Nat.ne_of_lt (Nat.lt_of_lt_of_le ((M223.ext E224).keep K229c (ninS ne_x223_b224 nin0)).lt (Nat.le_of_eq g230.symm))
    have ne_b224_b231 : b224 ≠ b231 := Nat.ne_of_lt (Nat.lt_of_lt_of_le ((A224.keep K229c).ext E230).lt (Nat.le_of_eq g231.symm))
    have ne_b222_b231 : b222 ≠ b231 := Nat.ne_of_lt (Nat.lt_of_lt_of_le ((((A222.keep K223c).ext E224).keep K229c).ext E230).lt (Nat.le_of_eq g231.symm))
    have ne_b204_b231 : b204 ≠ b231 := Nat.ne_of_lt (Nat.lt_of_lt_of_le (((((V9.ext E222).keep K223c (ninS ne_b204_b222 nin0)).ext E224).keep K229c (ninS ne_b204_b224 nin0)).ext E230).lt (Nat.le_of_eq g231.symm))
    have ne_x223_b231 : x223 ≠ b231 := Nat.ne_of_lt (Nat.lt_of_lt_of_le (((M223.ext E224).keep K229c (ninS ne_x223_b224 nin0)).ext E230).lt (Nat.le_of_eq g231.symm))
    obtain ⟨cq268, kq268, q268a, q268b, q268c⟩ := isOf hZ e267 ((((((A224.keep K229c).ext E230).ext E231).keep K246c).keep K266c).wr W267)
    obtain ⟨_, _, ⟨T268, L268, k268, n268⟩, -, X268, ⟨Lc268, hQ268, l268, y268, z268⟩, st268⟩ := X267.virtualBack hx (y := (⟨"com/example/sindano/sindano/boyermoore/ShiftOr$Reading", "exact", "(Lcom/example/sindano/sindano/boyermoore/Stretches;[BJI)I"⟩ : MethodName)) (z := (⟨"com/example/sindano/sindano/boyermoore/ShiftOr$Reading", "exact", "(Lcom/example/sindano/sindano/boyermoore/Stretches;[BJI)I"⟩ : MethodName)) hown (mvT hZ (ow hw 106 rfl)) (mvT hZ (ow hw 107 rfl)) (notFace_of_selects (args := #[]) (mvT hZ (ow hw 109 rfl))) (mvT hZ (ow hw 109 rfl)) (mvT hZ (ow hw 108 rfl)) (by decide) (own_backOf (W := 0) (rmX l Z a0 hw [] n0 h267 O267 b224 b230 b204 b222 x223 k204 f223 q_ (-1 : Int64) (0 : Int64) (0 : Int64) ((2 : Int64) + ((e1_ - s1_).toInt64)) s1_ m1_ r221 e1_ a0_ a1_ a2_ u0_ u1_ u2_ u3_ u4_ u5_ u6_ u7_ g_b224 g_b230 ne_b224_b230 (Ne.symm ne_b204_b224) (Ne.symm ne_b204_b230) (Ne.symm ne_b222_b224) (Ne.symm ne_b222_b230) (Ne.symm ne_x223_b224) (Ne.symm ne_x223_b230) ((((((A224.keep K229c).ext E230).ext E231).keep K246c).keep K266c).wr W267) ((((A230.ext E231).keep K246c).keep K266c).wr W267) (((((Y229_1.ext E230).ext E231).keep K246c (ninS ne_b224_b231 nin0)).keep K266c (ninS ne_b224_b230 nin0)).other W267 (Or.inl ne_b224_b230)) (((((Y229_0.ext E230).ext E231).keep K246c (ninS ne_b224_b231 nin0)).keep K266c (ninS ne_b224_b230 nin0)).other W267 (Or.inl ne_b224_b230)) (((((Y229_2.ext E230).ext E231).keep K246c (ninS ne_b224_b231 nin0)).keep K266c (ninS ne_b224_b230 nin0)).other W267 (Or.inl ne_b224_b230)) (((((((Fm223.ext E224).keep K229c (ninS ne_b222_b224 nin0)).ext E230).ext E231).keep K246c (ninS ne_b222_b231 nin0)).keep K266c (ninS ne_b222_b230 nin0)).other W267 (Or.inl ne_b222_b230)) (((((((Fw223.ext E224).keep K229c (ninS ne_b222_b224 nin0)).ext E230).ext E231).keep K246c (ninS ne_b222_b231 nin0)).keep K266c (ninS ne_b222_b230 nin0)).other W267 (Or.inl ne_b222_b230)) (((((((Fk223.ext E224).keep K229c (ninS ne_b222_b224 nin0)).ext E230).ext E231).keep K246c (ninS ne_b222_b231 nin0)).keep K266c (ninS ne_b222_b230 nin0)).other W267 (Or.inl ne_b222_b230)) Fw267 (Y266_8.other W267 (Or.inr (slot_ne (Or.inl (ow hw 118 rfl)) (Or.inl (ow hw 92 rfl)) (by decide) (t := .long) (t' := .long) (by decide) (by decide)))) (((((((((V9.ext E222).keep K223c (ninS ne_b204_b222 nin0)).ext E224).keep K229c (ninS ne_b204_b224 nin0)).ext E230).ext E231).keep K246c (ninS ne_b204_b231 nin0)).keep K266c (ninS ne_b204_b230 nin0)).other W267 ne_b204_b230) (((((((M223.ext E224).keep K229c (ninS ne_x223_b224 nin0)).ext E230).ext E231).keep K246c (ninS ne_x223_b231 nin0)).keep K266c (ninS ne_x223_b230 nin0)).other W267 ne_x223_b230) hm223 hu0_ hu1_ hu2_ hu3_ hu4_ hu5_ hu6_ hu7_ hs1 hm1 hr221 he1 (own_dd1 (own_winne hq hs1)) (fun z => absurd z (own_winne hq hs1))) hZ (ow hw 110 rfl) (ow hw 36 rfl) (by decide) (by decide)) q268a q268c (g := (mkF m 420 #[.val (.int p0), .val (.int p1), .val (.long q2), .second, .val (.int p3), .val (.int p4), .val (.int (p0.toInt8.toInt32)), .val (.int ((p0 >>> ((8 : Int32) &&& 31)).toInt8.toInt32)), .val (.ref b197), .val (.ref b204), .val (.long q_), .second, .val (.int s1_), .val (.int m1_), .val (.int r221), .val (.int e1_), .val (.int ct_), .val (.int s2_), .val (.int m2_), .val (.int r2_), .val (.int e2_), .val (.long ((2 : Int64) + ((e1_ - s1_).toInt64))), .second, .val (.long (k2_ + ((e2_ - s2_).toInt64))), .second, .val (.ref b222), .val (.ref b224), .val (.ref b230), .unset, .unset, .unset, .unset, .unset, .unset] [(.int m1_), (.long q_), (.ref b204), (.ref b230), (.ref b224)])) rfl (by rw [hml]; rfl) (Steps.refl _) (argsL := [(.ref b230), (.ref b204), (.long q_), (.int m1_)]) (rest := []) (lenOf pdx_9 rfl) rfl (by show 2 * 0 + _ ≤ _; exact Nat.le_of_eq rfl) (hb hby at_420) (fun _ _ => ⟨rfl, e267, (by decide : 7 + 0 ≤ _), (by decide : 308 + 0 ≤ _)⟩)
    dsimp only [Pt.U, Pt.locs, Pt.cells, Pt.slots] at X268 l268 y268 z268 st268 hQ268
    subst l268 y268 z268
    obtain ⟨e268', rfl, N268q, K268c, Fd268, Fi268, Fh268, Fe268, Ft268, hv268⟩ := hQ268
    have N268 := Fr.app N267 N268q
    refine Ends.go (fun _ k => st268.trans k) ?_
    obtain ⟨h268, e268⟩ : ∃ z, T268.heap = z := ⟨_, rfl⟩
    rw [e268] at K268c Fd268 Fi268 Fh268 Fe268 Ft268
    have K268 := K267.trans K268c (allS (Or.inr sz_b224) (allS (Or.inr sz_b230) all0))
    have O268 := O267.keep K268c (allS g_b224 (allS g_b230 all0))
    refine Ends.go (fun _ k => XS.istore X268.here hx rfl (hb hby at_423) rfl (l' := #[.val (.int p0), .val (.int p1), .val (.long q2), .second, .val (.int p3), .val (.int p4), .val (.int (p0.toInt8.toInt32)), .val (.int ((p0 >>> ((8 : Int32) &&& 31)).toInt8.toInt32)), .val (.ref b197), .val (.ref b204), .val (.long q_), .second, .val (.int s1_), .val (.int m1_), .val (.int r221), .val (.int e1_), .val (.int ct_), .val (.int s2_), .val (.int m2_), .val (.int r2_), .val (.int e2_), .val (.long ((2 : Int64) + ((e1_ - s1_).toInt64))), .second, .val (.long (k2_ + ((e2_ - s2_).toInt64))), .second, .val (.ref b222), .val (.ref b224), .val (.ref b230), .val (.int r221), .unset, .unset, .unset, .unset, .unset]) rfl k) ?_
    refine Ends.go (fun _ k => XS.aload X268.here hx rfl (hb hby at_425) rfl rfl k) ?_
    show Ends p e below s T268 (mkF m 427 #[.val (.int p0), .val (.int p1), .val (.long q2), .second, .val (.int p3), .val (.int p4), .val (.int (p0.toInt8.toInt32)), .val (.int ((p0 >>> ((8 : Int32) &&& 31)).toInt8.toInt32)), .val (.ref b197), .val (.ref b204), .val (.long q_), .second, .val (.int s1_), .val (.int m1_), .val (.int r221), .val (.int e1_), .val (.int ct_), .val (.int s2_), .val (.int m2_), .val (.int r2_), .val (.int e2_), .val (.long ((2 : Int64) + ((e1_ - s1_).toInt64))), .second, .val (.long (k2_ + ((e2_ - s2_).toInt64))), .second, .val (.ref b222), .val (.ref b224), .val (.ref b230), .val (.int r221), .unset, .unset, .unset, .unset, .unset] [(.ref b230)]) _ _ _
    obtain ⟨T269, X269, e269, st269⟩ := getF X268 hx hZ hown (host := "") (Or.inl (ow hw 105 rfl)) Via.refl e268 Fi268 (g := (mkF m 427 #[.val (.int p0), .val (.int p1), .val (.long q2), .second, .val (.int p3), .val (.int p4), .val (.int (p0.toInt8.toInt32)), .val (.int ((p0 >>> ((8 : Int32) &&& 31)).toInt8.toInt32)), .val (.ref b197), .val (.ref b204), .val (.long q_), .second, .val (.int s1_), .val (.int m1_), .val (.int r221), .val (.int e1_), .val (.int ct_), .val (.int s2_), .val (.int m2_), .val (.int r2_), .val (.int e2_), .val (.long ((2 : Int64) + ((e1_ - s1_).toInt64))), .second, .val (.long (k2_ + ((e2_ - s2_).toInt64))), .second, .val (.ref b222), .val (.ref b224), .val (.ref b230), .val (.int r221), .unset, .unset, .unset, .unset, .unset] [(.ref b230)])) rfl rfl (hb hby at_427)
    refine Ends.go st269 ?_
    refine Ends.go (fun _ k => XS.lstore X269.here hx rfl (hb hby at_430) rfl (l' := #[.val (.int p0), .val (.int p1), .val (.long q2), .second, .val (.int p3), .val (.int p4), .val (.int (p0.toInt8.toInt32)), .val (.int ((p0 >>> ((8 : Int32) &&& 31)).toInt8.toInt32)), .val (.ref b197), .val (.ref b204), .val (.long q_), .second, .val (.int s1_), .val (.int m1_), .val (.int r221), .val (.int e1_), .val (.int ct_), .val (.int s2_), .val (.int m2_), .val (.int r2_), .val (.int e2_), .val (.long ((2 : Int64) + ((e1_ - s1_).toInt64))), .second, .val (.long (k2_ + ((e2_ - s2_).toInt64))), .second, .val (.ref b222), .val (.ref b224), .val (.ref b230), .val (.int r221), .val (.long (q_ + (e1_.toInt64))), .second, .unset, .unset, .unset]) rfl k) ?_
    refine Ends.go (fun _ k => XS.aload X269.here hx rfl (hb hby at_432) rfl rfl k) ?_
    obtain ⟨T270, X270, e270, st270⟩ := getF X269 hx hZ hown (host := "") (Or.inl (ow hw 119 rfl)) Via.refl e269 Fd268 (g := (mkF m 434 #[.val (.int p0), .val (.int p1), .val (.long q2), .second, .val (.int p3), .val (.int p4), .val (.int (p0.toInt8.toInt32)), .val (.int ((p0 >>> ((8 : Int32) &&& 31)).toInt8.toInt32)), .val (.ref b197), .val (.ref b204), .val (.long q_), .second, .val (.int s1_), .val (.int m1_), .val (.int r221), .val (.int e1_), .val (.int ct_), .val (.int s2_), .val (.int m2_), .val (.int r2_), .val (.int e2_), .val (.long ((2 : Int64) + ((e1_ - s1_).toInt64))), .second, .val (.long (k2_ + ((e2_ - s2_).toInt64))), .second, .val (.ref b222), .val (.ref b224), .val (.ref b230), .val (.int r221), .val (.long (q_ + (e1_.toInt64))), .second, .unset, .unset, .unset] [(.ref b230)])) rfl rfl (hb hby at_434)
    refine Ends.go st270 ?_
    show Ends p e below s T270 (mkF m 437 #[.val (.int p0), .val (.int p1), .val (.long q2), .second, .val (.int p3), .val (.int p4), .val (.int (p0.toInt8.toInt32)), .val (.int ((p0 >>> ((8 : Int32) &&& 31)).toInt8.toInt32)), .val (.ref b197), .val (.ref b204), .val (.long q_), .second, .val (.int s1_), .val (.int m1_), .val (.int r221), .val (.int e1_), .val (.int ct_), .val (.int s2_), .val (.int m2_), .val (.int r2_), .val (.int e2_), .val (.long ((2 : Int64) + ((e1_ - s1_).toInt64))), .second, .val (.long (k2_ + ((e2_ - s2_).toInt64))), .second, .val (.ref b222), .val (.ref b224), .val (.ref b230), .val (.int r221), .val (.long (q_ + (e1_.toInt64))), .second, .unset, .unset, .unset] [(.long ((2 : Int64) + ((e1_ - s1_).toInt64)))]) _ _ _
    refine Ends.go (fun _ k => XS.lstore X270.here hx rfl (hb hby at_437) rfl (l' := #[.val (.int p0), .val (.int p1), .val (.long q2), .second, .val (.int p3), .val (.int p4), .val (.int (p0.toInt8.toInt32)), .val (.int ((p0 >>> ((8 : Int32) &&& 31)).toInt8.toInt32)), .val (.ref b197), .val (.ref b204), .val (.long q_), .second, .val (.int s1_), .val (.int m1_), .val (.int r221), .val (.int e1_), .val (.int ct_), .val (.int s2_), .val (.int m2_), .val (.int r2_), .val (.int e2_), .val (.long ((2 : Int64) + ((e1_ - s1_).toInt64))), .second, .val (.long (k2_ + ((e2_ - s2_).toInt64))), .second, .val (.ref b222), .val (.ref b224), .val (.ref b230), .val (.int r221), .val (.long (q_ + (e1_.toInt64))), .second, .val (.long ((2 : Int64) + ((e1_ - s1_).toInt64))), .second, .unset]) rfl k) ?_
    refine Ends.go (fun _ k => XS.aload X270.here hx rfl (hb hby at_439) rfl rfl k) ?_
    refine Ends.go (fun _ k => XS.lload X270.here hx rfl (hb hby at_441) rfl k) ?_
    refine Ends.go (fun _ k => XS.iload X270.here hx rfl (hb hby at_443) rfl k) ?_
    show Ends p e below s T270 (mkF m 445 #[.val (.int p0), .val (.int p1), .val (.long q2), .second, .val (.int p3), .val (.int p4), .val (.int (p0.toInt8.toInt32)), .val (.int ((p0 >>> ((8 : Int32) &&& 31)).toInt8.toInt32)), .val (.ref b197), .val (.ref b204), .val (.long q_), .second, .val (.int s1_), .val (.int m1_), .val (.int r221), .val (.int e1_), .val (.int ct_), .val (.int s2_), .val (.int m2_), .val (.int r2_), .val (.int e2_), .val (.long ((2 : Int64) + ((e1_ - s1_).toInt64))), .second, .val (.long (k2_ + ((e2_ - s2_).toInt64))), .second, .val (.ref b222), .val (.ref b224), .val (.ref b230), .val (.int r221), .val (.long (q_ + (e1_.toInt64))), .second, .val (.long ((2 : Int64) + ((e1_ - s1_).toInt64))), .second, .unset] [(.int s2_), (.long q_), (.ref b230)]) _ _ _
    refine Ends.go (fun _ k => XS.i2l X270.here hx rfl (hb hby at_445) rfl k) ?_
    refine Ends.go (fun _ k => XS.ladd X270.here hx rfl (hb hby at_446) rfl k) ?_
    obtain ⟨T271, h271, X271, e271, W271, st271⟩ := putF X270 hx hZ hown (host := "") (Or.inl (ow hw 105 rfl)) Via.refl e270 Fi268 (((((A230.ext E231).keep K246c).keep K266c).wr W267).keep K268c) (Or.inl (ow hw 92 rfl)) (ow hw 47 rfl) (ty := .long) (by decide) rfl rfl (g := (mkF m 447 #[.val (.int p0), .val (.int p1), .val (.long q2), .second, .val (.int p3), .val (.int p4), .val (.int (p0.toInt8.toInt32)), .val (.int ((p0 >>> ((8 : Int32) &&& 31)).toInt8.toInt32)), .val (.ref b197), .val (.ref b204), .val (.long q_), .second, .val (.int s1_), .val (.int m1_), .val (.int r221), .val (.int e1_), .val (.int ct_), .val (.int s2_), .val (.int m2_), .val (.int r2_), .val (.int e2_), .val (.long ((2 : Int64) + ((e1_ - s1_).toInt64))), .second, .val (.long (k2_ + ((e2_ - s2_).toInt64))), .second, .val (.ref b222), .val (.ref b224), .val (.ref b230), .val (.int r221), .val (.long (q_ + (e1_.toInt64))), .second, .val (.long ((2 : Int64) + ((e1_ - s1_).toInt64))), .second, .unset] [(.long (q_ + (s2_.toInt64))), (.ref b230)])) rfl rfl (hb hby at_447)
    refine Ends.go st271 ?_
    have Fw271 := Fi268.same W271
    have K271 := K268.wr W271 (Or.inr sz_b230)
    have O271 := O268.wr W271 g_b230
    have N271 := Fr.snoc X271 N268 g_b230
    refine Ends.go (fun _ k => XS.aload X271.here hx rfl (hb hby at_450) rfl rfl k) ?_
    show Ends p e below s T271 (mkF m 452 #[.val (.int p0), .val (.int p1), .val (.long q2), .second, .val (.int p3), .val (.int p4), .val (.int (p0.toInt8.toInt32)), .val (.int ((p0 >>> ((8 : Int32) &&& 31)).toInt8.toInt32)), .val (.ref b197), .val (.ref b204), .val (.long q_), .second, .val (.int s1_), .val (.int m1_), .val (.int r221), .val (.int e1_), .val (.int ct_), .val (.int s2_), .val (.int m2_), .val (.int r2_), .val (.int e2_), .val (.long ((2 : Int64) + ((e1_ - s1_).toInt64))), .second, .val (.long (k2_ + ((e2_ - s2_).toInt64))), .second, .val (.ref b222), .val (.ref b224), .val (.ref b230), .val (.int r221), .val (.long (q_ + (e1_.toInt64))), .second, .val (.long ((2 : Int64) + ((e1_ - s1_).toInt64))), .second, .unset] [(.ref b224)]) _ _ _
    refine Ends.go (fun _ k => XS.aload X271.here hx rfl (hb hby at_452) rfl rfl k) ?_
    refine Ends.go (fun _ k => XS.aload X271.here hx rfl (hb hby at_454) rfl rfl k) ?_
    refine Ends.go (fun _ k => XS.lload X271.here hx rfl (hb hby at_456) rfl k) ?_
    refine Ends.go (fun _ k => XS.iload X271.here hx rfl (hb hby at_458) rfl k) ?_
    show Ends p e below s T271 (mkF m 460 #[.val (.int p0), .val (.int p1), .val (.long q2), .second, .val (.int p3), .val (.int p4), .val (.int (p0.toInt8.toInt32)), .val (.int ((p0 >>> ((8 : Int32) &&& 31)).toInt8.toInt32)), .val (.ref b197), .val (.ref b204), .val (.long q_), .second, .val (.int s1_), .val (.int m1_), .val (.int r221), .val (.int e1_), .val (.int ct_), .val (.int s2_), .val (.int m2_), .val (.int r2_), .val (.int e2_), .val (.long ((2 : Int64) + ((e1_ - s1_).toInt64))), .second, .val (.long (k2_ + ((e2_ - s2_).toInt64))), .second, .val (.ref b222), .val (.ref b224), .val (.ref b230), .val (.int r221), .val (.long (q_ + (e1_.toInt64))), .second, .val (.long ((2 : Int64) + ((e1_ - s1_).toInt64))), .second, .unset] [(.int m2_), (.long q_), (.ref b204), (.ref b230), (.ref b224)]) _ _ _
    obtain ⟨cq272, kq272, q272a, q272b, q272c⟩ := isOf hZ e271 ((((((((A224.keep K229c).ext E230).ext E231).keep K246c).keep K266c).wr W267).keep K268c).wr W271)
    obtain ⟨_, _, ⟨T272, L272, k272, n272⟩, -, X272, ⟨Lc272, hQ272, l272, y272, z272⟩, st272⟩ := X271.virtualBack hx (y := (⟨"com/example/sindano/sindano/boyermoore/ShiftOr$Reading", "exact", "(Lcom/example/sindano/sindano/boyermoore/Stretches;[BJI)I"⟩ : MethodName)) (z := (⟨"com/example/sindano/sindano/boyermoore/ShiftOr$Reading", "exact", "(Lcom/example/sindano/sindano/boyermoore/Stretches;[BJI)I"⟩ : MethodName)) hown (mvT hZ (ow hw 106 rfl)) (mvT hZ (ow hw 107 rfl)) (notFace_of_selects (args := #[]) (mvT hZ (ow hw 109 rfl))) (mvT hZ (ow hw 109 rfl)) (mvT hZ (ow hw 108 rfl)) (by decide) (own_backOf (W := 0) (rmX l Z a0 hw [] n0 h271 O271 b224 b230 b204 b222 x223 k204 f223 q_ (q_ + (e1_.toInt64)) e268' ((2 : Int64) + ((e1_ - s1_).toInt64)) (((2 : Int64) + ((e1_ - s1_).toInt64)) + (k2_ + ((e2_ - s2_).toInt64))) s2_ m2_ r2_ e2_ a0_ a1_ a2_ u0_ u1_ u2_ u3_ u4_ u5_ u6_ u7_ g_b224 g_b230 ne_b224_b230 (Ne.symm ne_b204_b224) (Ne.symm ne_b204_b230) (Ne.symm ne_b222_b224) (Ne.symm ne_b222_b230) (Ne.symm ne_x223_b224) (Ne.symm ne_x223_b230) ((((((((A224.keep K229c).ext E230).ext E231).keep K246c).keep K266c).wr W267).keep K268c).wr W271) ((((((A230.ext E231).keep K246c).keep K266c).wr W267).keep K268c).wr W271) (Ft268.other W271 (Or.inl ne_b224_b230)) (Fh268.other W271 (Or.inl ne_b224_b230)) (Fe268.other W271 (Or.inl ne_b224_b230)) (((((((((Fm223.ext E224).keep K229c (ninS ne_b222_b224 nin0)).ext E230).ext E231).keep K246c (ninS ne_b222_b231 nin0)).keep K266c (ninS ne_b222_b230 nin0)).other W267 (Or.inl ne_b222_b230)).keep K268c (ninS ne_b222_b224 (ninS ne_b222_b230 nin0))).other W271 (Or.inl ne_b222_b230)) (((((((((Fw223.ext E224).keep K229c (ninS ne_b222_b224 nin0)).ext E230).ext E231).keep K246c (ninS ne_b222_b231 nin0)).keep K266c (ninS ne_b222_b230 nin0)).other W267 (Or.inl ne_b222_b230)).keep K268c (ninS ne_b222_b224 (ninS ne_b222_b230 nin0))).other W271 (Or.inl ne_b222_b230)) (((((((((Fk223.ext E224).keep K229c (ninS ne_b222_b224 nin0)).ext E230).ext E231).keep K246c (ninS ne_b222_b231 nin0)).keep K266c (ninS ne_b222_b230 nin0)).other W267 (Or.inl ne_b222_b230)).keep K268c (ninS ne_b222_b224 (ninS ne_b222_b230 nin0))).other W271 (Or.inl ne_b222_b230)) Fw271 (Fd268.other W271 (Or.inr (slot_ne (Or.inl (ow hw 118 rfl)) (Or.inl (ow hw 92 rfl)) (by decide) (t := .long) (t' := .long) (by decide) (by decide)))) (((((((((((V9.ext E222).keep K223c (ninS ne_b204_b222 nin0)).ext E224).keep K229c (ninS ne_b204_b224 nin0)).ext E230).ext E231).keep K246c (ninS ne_b204_b231 nin0)).keep K266c (ninS ne_b204_b230 nin0)).other W267 ne_b204_b230).keep K268c (ninS ne_b204_b224 (ninS ne_b204_b230 nin0))).other W271 ne_b204_b230) (((((((((M223.ext E224).keep K229c (ninS ne_x223_b224 nin0)).ext E230).ext E231).keep K246c (ninS ne_x223_b231 nin0)).keep K266c (ninS ne_x223_b230 nin0)).other W267 ne_x223_b230).keep K268c (ninS ne_x223_b224 (ninS ne_x223_b230 nin0))).other W271 ne_x223_b230) hm223 hu0_ hu1_ hu2_ hu3_ hu4_ hu5_ hu6_ hu7_ hs2 hm2 hr2 he2 (own_dd2 hk2) (fun z => by rw [own_wineq.mp z]; exact hv268)) hZ (ow hw 110 rfl) (ow hw 36 rfl) (by decide) (by decide)) q272a q272c (g := (mkF m 460 #[.val (.int p0), .val (.int p1), .val (.long q2), .second, .val (.int p3), .val (.int p4), .val (.int (p0.toInt8.toInt32)), .val (.int ((p0 >>> ((8 : Int32) &&& 31)).toInt8.toInt32)), .val (.ref b197), .val (.ref b204), .val (.long q_), .second, .val (.int s1_), .val (.int m1_), .val (.int r221), .val (.int e1_), .val (.int ct_), .val (.int s2_), .val (.int m2_), .val (.int r2_), .val (.int e2_), .val (.long ((2 : Int64) + ((e1_ - s1_).toInt64))), .second, .val (.long (k2_ + ((e2_ - s2_).toInt64))), .second, .val (.ref b222), .val (.ref b224), .val (.ref b230), .val (.int r221), .val (.long (q_ + (e1_.toInt64))), .second, .val (.long ((2 : Int64) + ((e1_ - s1_).toInt64))), .second, .unset] [(.int m2_), (.long q_), (.ref b204), (.ref b230), (.ref b224)])) rfl (by rw [hml]; rfl) (Steps.refl _) (argsL := [(.ref b230), (.ref b204), (.long q_), (.int m2_)]) (rest := []) (lenOf pdx_9 rfl) rfl (by show 2 * 0 + _ ≤ _; exact Nat.le_of_eq rfl) (hb hby at_460) (fun _ _ => ⟨rfl, e271, (by decide : 7 + 0 ≤ _), (by decide : 308 + 0 ≤ _)⟩)
    dsimp only [Pt.U, Pt.locs, Pt.cells, Pt.slots] at X272 l272 y272 z272 st272 hQ272
    subst l272 y272 z272
    obtain ⟨e272', rfl, N272q, K272c, Fd272, Fi272, Fh272, Fe272, Ft272, hv272⟩ := hQ272
    have N272 := Fr.app N271 N272q
    refine Ends.go (fun _ k => st272.trans k) ?_
    obtain ⟨h272, e272⟩ : ∃ z, T272.heap = z := ⟨_, rfl⟩
    rw [e272] at K272c Fd272 Fi272 Fh272 Fe272 Ft272
    have K272 := K271.trans K272c (allS (Or.inr sz_b224) (allS (Or.inr sz_b230) all0))
    have O272 := O271.keep K272c (allS g_b224 (allS g_b230 all0))
    refine Ends.go (fun _ k => XS.istore X272.here hx rfl (hb hby at_463) rfl (l' := #[.val (.int p0), .val (.int p1), .val (.long q2), .second, .val (.int p3), .val (.int p4), .val (.int (p0.toInt8.toInt32)), .val (.int ((p0 >>> ((8 : Int32) &&& 31)).toInt8.toInt32)), .val (.ref b197), .val (.ref b204), .val (.long q_), .second, .val (.int s1_), .val (.int m1_), .val (.int r221), .val (.int e1_), .val (.int ct_), .val (.int s2_), .val (.int m2_), .val (.int r2_), .val (.int e2_), .val (.long ((2 : Int64) + ((e1_ - s1_).toInt64))), .second, .val (.long (k2_ + ((e2_ - s2_).toInt64))), .second, .val (.ref b222), .val (.ref b224), .val (.ref b230), .val (.int r221), .val (.long (q_ + (e1_.toInt64))), .second, .val (.long ((2 : Int64) + ((e1_ - s1_).toInt64))), .second, .val (.int r2_)]) rfl k) ?_
    refine Ends.go (fun _ k => XS.iload X272.here hx rfl (hb hby at_465) rfl k) ?_
    refine Ends.go (fun _ k => XS.iload X272.here hx rfl (hb hby at_467) rfl k) ?_
    show Ends p e below s T272 (mkF m 469 #[.val (.int p0), .val (.int p1), .val (.long q2), .second, .val (.int p3), .val (.int p4), .val (.int (p0.toInt8.toInt32)), .val (.int ((p0 >>> ((8 : Int32) &&& 31)).toInt8.toInt32)), .val (.ref b197), .val (.ref b204), .val (.long q_), .second, .val (.int s1_), .val (.int m1_), .val (.int r221), .val (.int e1_), .val (.int ct_), .val (.int s2_), .val (.int m2_), .val (.int r2_), .val (.int e2_), .val (.long ((2 : Int64) + ((e1_ - s1_).toInt64))), .second, .val (.long (k2_ + ((e2_ - s2_).toInt64))), .second, .val (.ref b222), .val (.ref b224), .val (.ref b230), .val (.int r221), .val (.long (q_ + (e1_.toInt64))), .second, .val (.long ((2 : Int64) + ((e1_ - s1_).toInt64))), .second, .val (.int r2_)] [(.int r221), (.int r221)]) _ _ _
    refine Ends.go (fun _ k => XS.icmpNo X272.here hx rfl (hb hby at_469) rfl (teq (rfl : r221 = r221)).2 k) ?_
    refine Ends.go (fun _ k => XS.lload X272.here hx rfl (hb hby at_472) rfl k) ?_
    refine Ends.go (fun _ k => XS.lload X272.here hx rfl (hb hby at_474) rfl k) ?_
    refine Ends.go (fun _ k => XS.iload X272.here hx rfl (hb hby at_476) rfl k) ?_
    show Ends p e below s T272 (mkF m 478 #[.val (.int p0), .val (.int p1), .val (.long q2), .second, .val (.int p3), .val (.int p4), .val (.int (p0.toInt8.toInt32)), .val (.int ((p0 >>> ((8 : Int32) &&& 31)).toInt8.toInt32)), .val (.ref b197), .val (.ref b204), .val (.long q_), .second, .val (.int s1_), .val (.int m1_), .val (.int r221), .val (.int e1_), .val (.int ct_), .val (.int s2_), .val (.int m2_), .val (.int r2_), .val (.int e2_), .val (.long ((2 : Int64) + ((e1_ - s1_).toInt64))), .second, .val (.long (k2_ + ((e2_ - s2_).toInt64))), .second, .val (.ref b222), .val (.ref b224), .val (.ref b230), .val (.int r221), .val (.long (q_ + (e1_.toInt64))), .second, .val (.long ((2 : Int64) + ((e1_ - s1_).toInt64))), .second, .val (.int r2_)] [(.int e1_), (.long q_), (.long (q_ + (e1_.toInt64)))]) _ _ _
    refine Ends.go (fun _ k => XS.i2l X272.here hx rfl (hb hby at_478) rfl k) ?_
    refine Ends.go (fun _ k => XS.ladd X272.here hx rfl (hb hby at_479) rfl k) ?_
    refine Ends.go (fun _ k => XS.lcmp X272.here hx rfl (hb hby at_480) rfl k) ?_
    refine Ends.go (fun _ k => XS.ifNo X272.here hx rfl (hb hby at_481) rfl ((if0 _ _).trans (teq (((lw_eq _ _).mpr rfl) : (lcmpW (q_ + (e1_.toInt64)) (q_ + (e1_.toInt64))) = (0 : Int32))).2) k) ?_
    show Ends p e below s T272 (mkF m 484 #[.val (.int p0), .val (.int p1), .val (.long q2), .second, .val (.int p3), .val (.int p4), .val (.int (p0.toInt8.toInt32)), .val (.int ((p0 >>> ((8 : Int32) &&& 31)).toInt8.toInt32)), .val (.ref b197), .val (.ref b204), .val (.long q_), .second, .val (.int s1_), .val (.int m1_), .val (.int r221), .val (.int e1_), .val (.int ct_), .val (.int s2_), .val (.int m2_), .val (.int r2_), .val (.int e2_), .val (.long ((2 : Int64) + ((e1_ - s1_).toInt64))), .second, .val (.long (k2_ + ((e2_ - s2_).toInt64))), .second, .val (.ref b222), .val (.ref b224), .val (.ref b230), .val (.int r221), .val (.long (q_ + (e1_.toInt64))), .second, .val (.long ((2 : Int64) + ((e1_ - s1_).toInt64))), .second, .val (.int r2_)] []) _ _ _
    refine Ends.go (fun _ k => XS.lload X272.here hx rfl (hb hby at_484) rfl k) ?_
    refine Ends.go (fun _ k => XS.lload X272.here hx rfl (hb hby at_486) rfl k) ?_
    refine Ends.go (fun _ k => XS.lcmp X272.here hx rfl (hb hby at_488) rfl k) ?_
    refine Ends.go (fun _ k => XS.ifNo X272.here hx rfl (hb hby at_489) rfl ((if0 _ _).trans (teq (((lw_eq _ _).mpr rfl) : (lcmpW ((2 : Int64) + ((e1_ - s1_).toInt64)) ((2 : Int64) + ((e1_ - s1_).toInt64))) = (0 : Int32))).2) k) ?_
    show Ends p e below s T272 (mkF m 492 #[.val (.int p0), .val (.int p1), .val (.long q2), .second, .val (.int p3), .val (.int p4), .val (.int (p0.toInt8.toInt32)), .val (.int ((p0 >>> ((8 : Int32) &&& 31)).toInt8.toInt32)), .val (.ref b197), .val (.ref b204), .val (.long q_), .second, .val (.int s1_), .val (.int m1_), .val (.int r221), .val (.int e1_), .val (.int ct_), .val (.int s2_), .val (.int m2_), .val (.int r2_), .val (.int e2_), .val (.long ((2 : Int64) + ((e1_ - s1_).toInt64))), .second, .val (.long (k2_ + ((e2_ - s2_).toInt64))), .second, .val (.ref b222), .val (.ref b224), .val (.ref b230), .val (.int r221), .val (.long (q_ + (e1_.toInt64))), .second, .val (.long ((2 : Int64) + ((e1_ - s1_).toInt64))), .second, .val (.int r2_)] []) _ _ _
    refine Ends.go (fun _ k => XS.iload X272.here hx rfl (hb hby at_492) rfl k) ?_
    refine Ends.go (fun _ k => XS.iload X272.here hx rfl (hb hby at_494) rfl k) ?_
    refine Ends.go (fun _ k => XS.icmpNo X272.here hx rfl (hb hby at_496) rfl (teq (rfl : r2_ = r2_)).2 k) ?_
    refine Ends.go (fun _ k => XS.aload X272.here hx rfl (hb hby at_499) rfl rfl k) ?_
    show Ends p e below s T272 (mkF m 501 #[.val (.int p0), .val (.int p1), .val (.long q2), .second, .val (.int p3), .val (.int p4), .val (.int (p0.toInt8.toInt32)), .val (.int ((p0 >>> ((8 : Int32) &&& 31)).toInt8.toInt32)), .val (.ref b197), .val (.ref b204), .val (.long q_), .second, .val (.int s1_), .val (.int m1_), .val (.int r221), .val (.int e1_), .val (.int ct_), .val (.int s2_), .val (.int m2_), .val (.int r2_), .val (.int e2_), .val (.long ((2 : Int64) + ((e1_ - s1_).toInt64))), .second, .val (.long (k2_ + ((e2_ - s2_).toInt64))), .second, .val (.ref b222), .val (.ref b224), .val (.ref b230), .val (.int r221), .val (.long (q_ + (e1_.toInt64))), .second, .val (.long ((2 : Int64) + ((e1_ - s1_).toInt64))), .second, .val (.int r2_)] [(.ref b230)]) _ _ _
    obtain ⟨T273, X273, e273, st273⟩ := getF X272 hx hZ hown (host := "") (Or.inl (ow hw 105 rfl)) Via.refl e272 Fi272 (g := (mkF m 501 #[.val (.int p0), .val (.int p1), .val (.long q2), .second, .val (.int p3), .val (.int p4), .val (.int (p0.toInt8.toInt32)), .val (.int ((p0 >>> ((8 : Int32) &&& 31)).toInt8.toInt32)), .val (.ref b197), .val (.ref b204), .val (.long q_), .second, .val (.int s1_), .val (.int m1_), .val (.int r221), .val (.int e1_), .val (.int ct_), .val (.int s2_), .val (.int m2_), .val (.int r2_), .val (.int e2_), .val (.long ((2 : Int64) + ((e1_ - s1_).toInt64))), .second, .val (.long (k2_ + ((e2_ - s2_).toInt64))), .second, .val (.ref b222), .val (.ref b224), .val (.ref b230), .val (.int r221), .val (.long (q_ + (e1_.toInt64))), .second, .val (.long ((2 : Int64) + ((e1_ - s1_).toInt64))), .second, .val (.int r2_)] [(.ref b230)])) rfl rfl (hb hby at_501)
    refine Ends.go st273 ?_
    refine Ends.go (fun _ k => XS.lload X273.here hx rfl (hb hby at_504) rfl k) ?_
    refine Ends.go (fun _ k => XS.iload X273.here hx rfl (hb hby at_506) rfl k) ?_
    refine Ends.go (fun _ k => XS.i2l X273.here hx rfl (hb hby at_508) rfl k) ?_
    show Ends p e below s T273 (mkF m 509 #[.val (.int p0), .val (.int p1), .val (.long q2), .second, .val (.int p3), .val (.int p4), .val (.int (p0.toInt8.toInt32)), .val (.int ((p0 >>> ((8 : Int32) &&& 31)).toInt8.toInt32)), .val (.ref b197), .val (.ref b204), .val (.long q_), .second, .val (.int s1_), .val (.int m1_), .val (.int r221), .val (.int e1_), .val (.int ct_), .val (.int s2_), .val (.int m2_), .val (.int r2_), .val (.int e2_), .val (.long ((2 : Int64) + ((e1_ - s1_).toInt64))), .second, .val (.long (k2_ + ((e2_ - s2_).toInt64))), .second, .val (.ref b222), .val (.ref b224), .val (.ref b230), .val (.int r221), .val (.long (q_ + (e1_.toInt64))), .second, .val (.long ((2 : Int64) + ((e1_ - s1_).toInt64))), .second, .val (.int r2_)] [(.long (e2_.toInt64)), (.long q_), (.long (q_ + (e2_.toInt64)))]) _ _ _
    refine Ends.go (fun _ k => XS.ladd X273.here hx rfl (hb hby at_509) rfl k) ?_
    refine Ends.go (fun _ k => XS.lcmp X273.here hx rfl (hb hby at_510) rfl k) ?_
    refine Ends.go (fun _ k => XS.ifNo X273.here hx rfl (hb hby at_511) rfl ((if0 _ _).trans (teq (((lw_eq _ _).mpr rfl) : (lcmpW (q_ + (e2_.toInt64)) (q_ + (e2_.toInt64))) = (0 : Int32))).2) k) ?_
    refine Ends.go (fun _ k => XS.aload X273.here hx rfl (hb hby at_514) rfl rfl k) ?_
    show Ends p e below s T273 (mkF m 516 #[.val (.int p0), .val (.int p1), .val (.long q2), .second, .val (.int p3), .val (.int p4), .val (.int (p0.toInt8.toInt32)), .val (.int ((p0 >>> ((8 : Int32) &&& 31)).toInt8.toInt32)), .val (.ref b197), .val (.ref b204), .val (.long q_), .second, .val (.int s1_), .val (.int m1_), .val (.int r221), .val (.int e1_), .val (.int ct_), .val (.int s2_), .val (.int m2_), .val (.int r2_), .val (.int e2_), .val (.long ((2 : Int64) + ((e1_ - s1_).toInt64))), .second, .val (.long (k2_ + ((e2_ - s2_).toInt64))), .second, .val (.ref b222), .val (.ref b224), .val (.ref b230), .val (.int r221), .val (.long (q_ + (e1_.toInt64))), .second, .val (.long ((2 : Int64) + ((e1_ - s1_).toInt64))), .second, .val (.int r2_)] [(.ref b230)]) _ _ _
    obtain ⟨T274, X274, e274, st274⟩ := getF X273 hx hZ hown (host := "") (Or.inl (ow hw 119 rfl)) Via.refl e273 Fd272 (g := (mkF m 516 #[.val (.int p0), .val (.int p1), .val (.long q2), .second, .val (.int p3), .val (.int p4), .val (.int (p0.toInt8.toInt32)), .val (.int ((p0 >>> ((8 : Int32) &&& 31)).toInt8.toInt32)), .val (.ref b197), .val (.ref b204), .val (.long q_), .second, .val (.int s1_), .val (.int m1_), .val (.int r221), .val (.int e1_), .val (.int ct_), .val (.int s2_), .val (.int m2_), .val (.int r2_), .val (.int e2_), .val (.long ((2 : Int64) + ((e1_ - s1_).toInt64))), .second, .val (.long (k2_ + ((e2_ - s2_).toInt64))), .second, .val (.ref b222), .val (.ref b224), .val (.ref b230), .val (.int r221), .val (.long (q_ + (e1_.toInt64))), .second, .val (.long ((2 : Int64) + ((e1_ - s1_).toInt64))), .second, .val (.int r2_)] [(.ref b230)])) rfl rfl (hb hby at_516)
    refine Ends.go st274 ?_
    refine Ends.go (fun _ k => XS.lload X274.here hx rfl (hb hby at_519) rfl k) ?_
    refine Ends.go (fun _ k => XS.lload X274.here hx rfl (hb hby at_521) rfl k) ?_
    refine Ends.go (fun _ k => XS.ladd X274.here hx rfl (hb hby at_523) rfl k) ?_
    show Ends p e below s T274 (mkF m 524 #[.val (.int p0), .val (.int p1), .val (.long q2), .second, .val (.int p3), .val (.int p4), .val (.int (p0.toInt8.toInt32)), .val (.int ((p0 >>> ((8 : Int32) &&& 31)).toInt8.toInt32)), .val (.ref b197), .val (.ref b204), .val (.long q_), .second, .val (.int s1_), .val (.int m1_), .val (.int r221), .val (.int e1_), .val (.int ct_), .val (.int s2_), .val (.int m2_), .val (.int r2_), .val (.int e2_), .val (.long ((2 : Int64) + ((e1_ - s1_).toInt64))), .second, .val (.long (k2_ + ((e2_ - s2_).toInt64))), .second, .val (.ref b222), .val (.ref b224), .val (.ref b230), .val (.int r221), .val (.long (q_ + (e1_.toInt64))), .second, .val (.long ((2 : Int64) + ((e1_ - s1_).toInt64))), .second, .val (.int r2_)] [(.long (((2 : Int64) + ((e1_ - s1_).toInt64)) + (k2_ + ((e2_ - s2_).toInt64)))), (.long (((2 : Int64) + ((e1_ - s1_).toInt64)) + (k2_ + ((e2_ - s2_).toInt64))))]) _ _ _
    refine Ends.go (fun _ k => XS.lcmp X274.here hx rfl (hb hby at_524) rfl k) ?_
    refine Ends.go (fun _ k => XS.ifNo X274.here hx rfl (hb hby at_525) rfl ((if0 _ _).trans (teq (((lw_eq _ _).mpr rfl) : (lcmpW (((2 : Int64) + ((e1_ - s1_).toInt64)) + (k2_ + ((e2_ - s2_).toInt64))) (((2 : Int64) + ((e1_ - s1_).toInt64)) + (k2_ + ((e2_ - s2_).toInt64)))) = (0 : Int32))).2) k) ?_
    refine Ends.go (fun _ k => XS.iconst X274.here hx rfl (hb hby at_528) k) ?_
    refine Ends.go (fun _ k => XS.goto X274.here hx rfl (pc0 := 529) (pc' := 533) rfl (hb hby at_529) (by decide) (by decide) k) ?_
    show Ends p e below s T274 (mkF m 533 #[.val (.int p0), .val (.int p1), .val (.long q2), .second, .val (.int p3), .val (.int p4), .val (.int (p0.toInt8.toInt32)), .val (.int ((p0 >>> ((8 : Int32) &&& 31)).toInt8.toInt32)), .val (.ref b197), .val (.ref b204), .val (.long q_), .second, .val (.int s1_), .val (.int m1_), .val (.int r221), .val (.int e1_), .val (.int ct_), .val (.int s2_), .val (.int m2_), .val (.int r2_), .val (.int e2_), .val (.long ((2 : Int64) + ((e1_ - s1_).toInt64))), .second, .val (.long (k2_ + ((e2_ - s2_).toInt64))), .second, .val (.ref b222), .val (.ref b224), .val (.ref b230), .val (.int r221), .val (.long (q_ + (e1_.toInt64))), .second, .val (.long ((2 : Int64) + ((e1_ - s1_).toInt64))), .second, .val (.int r2_)] [(.int (1 : Int32))]) _ _ _
    refine Ends.retZ X274 hx Bd.notSynchronized (t := .boolean) Bd.returns (by simp) (hb hby at_533) (by decide) (by decide) ?_
    exact ⟨rfl, N272⟩
  have J273 : ∀ (T8 : State) (h8 : Heap) (lcs : List Loc) (e1_ : Int32) (ct_ : Int32) (s2_ : Int32) (X8 : Stand p l e room_1 s m #[(.int p0), (.int p1), (.long q2), (.int p3), (.int p4)] below meth c T8 lcs 2 11) (eT8 : T8.heap = h8) (O8 : Old Z n0 h8) (N8 : Fr n0 lcs) (K8 : Keep h0 h8 []) (V8 : Arv Z h8 b197 k197 .byte (3 : Int32) [(.int a0_), (.int a1_), (.int a2_)] (.int (0 : Int32))) (V9 : Arv Z h8 b204 k204 .byte (8 : Int32) [(.int u0_), (.int u1_), (.int u2_), (.int u3_), (.int u4_), (.int u5_), (.int u6_), (.int u7_)] (.int (0 : Int32))) (he1 : e1_ = own_end r221 m1_) (hs2 : 2 ≤ s2_.toInt ∧ s2_.toInt ≤ 8), Ends p e below s T8 (mkF m 273 #[.val (.int p0), .val (.int p1), .val (.long q2), .second, .val (.int p3), .val (.int p4), .val (.int (p0.toInt8.toInt32)), .val (.int ((p0 >>> ((8 : Int32) &&& 31)).toInt8.toInt32)), .val (.ref b197), .val (.ref b204), .val (.long q_), .second, .val (.int s1_), .val (.int m1_), .val (.int r221), .val (.int e1_), .val (.int ct_), .unset, .unset, .unset, .unset, .unset, .unset, .unset, .unset, .unset, .unset, .unset, .unset, .unset, .unset, .unset, .unset, .unset] [(.int s2_)]) room_1.cells room_1.slots (fun v h L => v = some (.int (1 : Int32)) ∧ Fr n0 L) := by
    intro T8 h8 lcs e1_ ct_ s2_ X8 eT8 O8 N8 K8 V8 V9 he1 hs2
    show Ends p e below s T8 (mkF m 273 #[.val (.int p0), .val (.int p1), .val (.long q2), .second, .val (.int p3), .val (.int p4), .val (.int (p0.toInt8.toInt32)), .val (.int ((p0 >>> ((8 : Int32) &&& 31)).toInt8.toInt32)), .val (.ref b197), .val (.ref b204), .val (.long q_), .second, .val (.int s1_), .val (.int m1_), .val (.int r221), .val (.int e1_), .val (.int ct_), .unset, .unset, .unset, .unset, .unset, .unset, .unset, .unset, .unset, .unset, .unset, .unset, .unset, .unset, .unset, .unset, .unset] [(.int s2_)]) _ _ _
    refine Ends.go (fun _ k => XS.istore X8.here hx rfl (hb hby at_273) rfl (l' := #[.val (.int p0), .val (.int p1), .val (.long q2), .second, .val (.int p3), .val (.int p4), .val (.int (p0.toInt8.toInt32)), .val (.int ((p0 >>> ((8 : Int32) &&& 31)).toInt8.toInt32)), .val (.ref b197), .val (.ref b204), .val (.long q_), .second, .val (.int s1_), .val (.int m1_), .val (.int r221), .val (.int e1_), .val (.int ct_), .val (.int s2_), .unset, .unset, .unset, .unset, .unset, .unset, .unset, .unset, .unset, .unset, .unset, .unset, .unset, .unset, .unset, .unset]) rfl k) ?_
    refine Ends.go (fun _ k => XS.iload X8.here hx rfl (hb hby at_275) rfl k) ?_
    refine Ends.go (fun _ k => XS.iload X8.here hx rfl (hb hby at_277) rfl k) ?_
    show Ends p e below s T8 (mkF m 279 #[.val (.int p0), .val (.int p1), .val (.long q2), .second, .val (.int p3), .val (.int p4), .val (.int (p0.toInt8.toInt32)), .val (.int ((p0 >>> ((8 : Int32) &&& 31)).toInt8.toInt32)), .val (.ref b197), .val (.ref b204), .val (.long q_), .second, .val (.int s1_), .val (.int m1_), .val (.int r221), .val (.int e1_), .val (.int ct_), .val (.int s2_), .unset, .unset, .unset, .unset, .unset, .unset, .unset, .unset, .unset, .unset, .unset, .unset, .unset, .unset, .unset, .unset] [(.int p4), (.int s2_)]) _ _ _
    refine Ends.go (fun _ k => XS.bipush X8.here hx rfl (hb hby at_279) k) ?_
    refine Ends.go (fun _ k => XS.iushr X8.here hx rfl (hb hby at_281) rfl k) ?_
    refine Ends.go (fun _ k => XS.sipush X8.here hx rfl (hb hby at_282) k) ?_
    refine Ends.go (fun _ k => XS.iand X8.here hx rfl (hb hby at_285) rfl k) ?_
    show Ends p e below s T8 (mkF m 286 #[.val (.int p0), .val (.int p1), .val (.long q2), .second, .val (.int p3), .val (.int p4), .val (.int (p0.toInt8.toInt32)), .val (.int ((p0 >>> ((8 : Int32) &&& 31)).toInt8.toInt32)), .val (.ref b197), .val (.ref b204), .val (.long q_), .second, .val (.int s1_), .val (.int m1_), .val (.int r221), .val (.int e1_), .val (.int ct_), .val (.int s2_), .unset, .unset, .unset, .unset, .unset, .unset, .unset, .unset, .unset, .unset, .unset, .unset, .unset, .unset, .unset, .unset] [(.int (((p4.toUInt32 >>> ((9 : Int32) &&& 31).toUInt32).toInt32) &&& (255 : Int32))), (.int s2_)]) _ _ _
    refine Ends.go (fun _ k => XS.bipush X8.here hx rfl (hb hby at_286) k) ?_
    refine Ends.go (fun _ k => XS.iload X8.here hx rfl (hb hby at_288) rfl k) ?_
    refine Ends.go (fun _ k => XS.isub X8.here hx rfl (hb hby at_290) rfl k) ?_
    refine Ends.go (fun _ k => iremM X8 hx rfl (hb hby at_291) rfl (own_nz hs2) k) ?_
    show Ends p e below s T8 (mkF m 292 #[.val (.int p0), .val (.int p1), .val (.long q2), .second, .val (.int p3), .val (.int p4), .val (.int (p0.toInt8.toInt32)), .val (.int ((p0 >>> ((8 : Int32) &&& 31)).toInt8.toInt32)), .val (.ref b197), .val (.ref b204), .val (.long q_), .second, .val (.int s1_), .val (.int m1_), .val (.int r221), .val (.int e1_), .val (.int ct_), .val (.int s2_), .unset, .unset, .unset, .unset, .unset, .unset, .unset, .unset, .unset, .unset, .unset, .unset, .unset, .unset, .unset, .unset] [(.int ((((p4.toUInt32 >>> ((9 : Int32) &&& 31).toUInt32).toInt32) &&& (255 : Int32)) % ((9 : Int32) - s2_))), (.int s2_)]) _ _ _
    refine Ends.go (fun _ k => XS.iadd X8.here hx rfl (hb hby at_292) rfl k) ?_
    show Ends p e below s T8 (mkF m 293 #[.val (.int p0), .val (.int p1), .val (.long q2), .second, .val (.int p3), .val (.int p4), .val (.int (p0.toInt8.toInt32)), .val (.int ((p0 >>> ((8 : Int32) &&& 31)).toInt8.toInt32)), .val (.ref b197), .val (.ref b204), .val (.long q_), .second, .val (.int s1_), .val (.int m1_), .val (.int r221), .val (.int e1_), .val (.int ct_), .val (.int s2_), .unset, .unset, .unset, .unset, .unset, .unset, .unset, .unset, .unset, .unset, .unset, .unset, .unset, .unset, .unset, .unset] [(.int (s2_ + ((((p4.toUInt32 >>> ((9 : Int32) &&& 31).toUInt32).toInt32) &&& (255 : Int32)) % ((9 : Int32) - s2_))))]) _ _ _
    generalize hg_m2_ : (s2_ + ((((p4.toUInt32 >>> ((9 : Int32) &&& 31).toUInt32).toInt32) &&& (255 : Int32)) % ((9 : Int32) - s2_))) = m2_
    have hm2 := own_lim hs2 hg_m2_
    show Ends p e below s T8 (mkF m 293 #[.val (.int p0), .val (.int p1), .val (.long q2), .second, .val (.int p3), .val (.int p4), .val (.int (p0.toInt8.toInt32)), .val (.int ((p0 >>> ((8 : Int32) &&& 31)).toInt8.toInt32)), .val (.ref b197), .val (.ref b204), .val (.long q_), .second, .val (.int s1_), .val (.int m1_), .val (.int r221), .val (.int e1_), .val (.int ct_), .val (.int s2_), .unset, .unset, .unset, .unset, .unset, .unset, .unset, .unset, .unset, .unset, .unset, .unset, .unset, .unset, .unset, .unset] [(.int m2_)]) _ _ _
    refine Ends.go (fun _ k => XS.istore X8.here hx rfl (hb hby at_293) rfl (l' := #[.val (.int p0), .val (.int p1), .val (.long q2), .second, .val (.int p3), .val (.int p4), .val (.int (p0.toInt8.toInt32)), .val (.int ((p0 >>> ((8 : Int32) &&& 31)).toInt8.toInt32)), .val (.ref b197), .val (.ref b204), .val (.long q_), .second, .val (.int s1_), .val (.int m1_), .val (.int r221), .val (.int e1_), .val (.int ct_), .val (.int s2_), .val (.int m2_), .unset, .unset, .unset, .unset, .unset, .unset, .unset, .unset, .unset, .unset, .unset, .unset, .unset, .unset, .unset]) rfl k) ?_
    show Ends p e below s T8 (mkF m 295 #[.val (.int p0), .val (.int p1), .val (.long q2), .second, .val (.int p3), .val (.int p4), .val (.int (p0.toInt8.toInt32)), .val (.int ((p0 >>> ((8 : Int32) &&& 31)).toInt8.toInt32)), .val (.ref b197), .val (.ref b204), .val (.long q_), .second, .val (.int s1_), .val (.int m1_), .val (.int r221), .val (.int e1_), .val (.int ct_), .val (.int s2_), .val (.int m2_), .unset, .unset, .unset, .unset, .unset, .unset, .unset, .unset, .unset, .unset, .unset, .unset, .unset, .unset, .unset] []) _ _ _
    refine Ends.go (fun _ k => XS.aload X8.here hx rfl (hb hby at_295) rfl rfl k) ?_
    refine Ends.go (fun _ k => XS.aload X8.here hx rfl (hb hby at_297) rfl rfl k) ?_
    refine Ends.go (fun _ k => XS.iload X8.here hx rfl (hb hby at_299) rfl k) ?_
    refine Ends.go (fun _ k => XS.iload X8.here hx rfl (hb hby at_301) rfl k) ?_
    show Ends p e below s T8 (mkF m 303 #[.val (.int p0), .val (.int p1), .val (.long q2), .second, .val (.int p3), .val (.int p4), .val (.int (p0.toInt8.toInt32)), .val (.int ((p0 >>> ((8 : Int32) &&& 31)).toInt8.toInt32)), .val (.ref b197), .val (.ref b204), .val (.long q_), .second, .val (.int s1_), .val (.int m1_), .val (.int r221), .val (.int e1_), .val (.int ct_), .val (.int s2_), .val (.int m2_), .unset, .unset, .unset, .unset, .unset, .unset, .unset, .unset, .unset, .unset, .unset, .unset, .unset, .unset, .unset] [(.int m2_), (.int s2_), (.ref b197), (.ref b204)]) _ _ _
    obtain ⟨_, _, ⟨T275, L275, k275, n275⟩, -, X275, ⟨Lc275, hQ275, l275, y275, z275⟩, st275⟩ := Jvm.LawKit.callS X8 hx (y := (⟨"com/example/sindano/sindano/boyermoore/ReadingExactPinLaw", "firstEnd", "([B[BII)I"⟩ : MethodName)) hown (mvT hZ (ow hw 6 rfl)) (mvT hZ (ow hw 7 rfl)) (mvT hZ (ow hw 3 rfl)) (mvT hZ (ow hw 8 rfl)) (by decide) (own_backOf (W := 0) (rmE l Z a0 hw [] n0 h8 O8 b204 b197 k204 k197 s2_ m2_ a0_ a1_ a2_ u0_ u1_ u2_ u3_ u4_ u5_ u6_ u7_ V9 V8) hZ (ow hw 8 rfl) (ow hw 3 rfl) (by decide) (by decide)) (g := (mkF m 303 #[.val (.int p0), .val (.int p1), .val (.long q2), .second, .val (.int p3), .val (.int p4), .val (.int (p0.toInt8.toInt32)), .val (.int ((p0 >>> ((8 : Int32) &&& 31)).toInt8.toInt32)), .val (.ref b197), .val (.ref b204), .val (.long q_), .second, .val (.int s1_), .val (.int m1_), .val (.int r221), .val (.int e1_), .val (.int ct_), .val (.int s2_), .val (.int m2_), .unset, .unset, .unset, .unset, .unset, .unset, .unset, .unset, .unset, .unset, .unset, .unset, .unset, .unset, .unset] [(.int m2_), (.int s2_), (.ref b197), (.ref b204)])) rfl (by rw [hml]; rfl) (argsL := [(.ref b204), (.ref b197), (.int s2_), (.int m2_)]) (rest := []) (lenOf pdx_3 rfl) rfl (by show 2 * 0 + _ ≤ _; exact Nat.le_of_eq rfl) (hb hby at_303) (fun _ _ => ⟨rfl, eT8, (by decide : 2 + 0 ≤ _), (by decide : 11 + 0 ≤ _)⟩)
    dsimp only [Pt.U, Pt.locs, Pt.cells, Pt.slots] at X275 l275 y275 z275 st275 hQ275
    subst l275 y275 z275
    obtain ⟨r275, rfl, N275q, e275q, hr275⟩ := hQ275
    have N275 := Fr.app N8 N275q
    refine Ends.go st275 ?_
    refine Ends.go (fun _ k => XS.istore X275.here hx rfl (hb hby at_306) rfl (l' := #[.val (.int p0), .val (.int p1), .val (.long q2), .second, .val (.int p3), .val (.int p4), .val (.int (p0.toInt8.toInt32)), .val (.int ((p0 >>> ((8 : Int32) &&& 31)).toInt8.toInt32)), .val (.ref b197), .val (.ref b204), .val (.long q_), .second, .val (.int s1_), .val (.int m1_), .val (.int r221), .val (.int e1_), .val (.int ct_), .val (.int s2_), .val (.int m2_), .val (.int r275), .unset, .unset, .unset, .unset, .unset, .unset, .unset, .unset, .unset, .unset, .unset, .unset, .unset, .unset]) rfl k) ?_
    refine Ends.go (fun _ k => XS.iload X275.here hx rfl (hb hby at_308) rfl k) ?_
    by_cases hc310_276 : r275 < (0 : Int32)
    · refine Ends.go (fun _ k => XS.ifYes X275.here hx rfl (pc0 := 310) (pc' := 318) rfl (hb hby at_310) rfl ((if0 _ _).trans (tlt hc310_276).1) (by decide) (by decide) k) ?_
      show Ends p e below s T275 (mkF m 318 #[.val (.int p0), .val (.int p1), .val (.long q2), .second, .val (.int p3), .val (.int p4), .val (.int (p0.toInt8.toInt32)), .val (.int ((p0 >>> ((8 : Int32) &&& 31)).toInt8.toInt32)), .val (.ref b197), .val (.ref b204), .val (.long q_), .second, .val (.int s1_), .val (.int m1_), .val (.int r221), .val (.int e1_), .val (.int ct_), .val (.int s2_), .val (.int m2_), .val (.int r275), .unset, .unset, .unset, .unset, .unset, .unset, .unset, .unset, .unset, .unset, .unset, .unset, .unset, .unset] []) _ _ _
      refine Ends.go (fun _ k => XS.iload X275.here hx rfl (hb hby at_318) rfl k) ?_
      refine Ends.go (fun _ k => XS.istore X275.here hx rfl (hb hby at_320) rfl (l' := #[.val (.int p0), .val (.int p1), .val (.long q2), .second, .val (.int p3), .val (.int p4), .val (.int (p0.toInt8.toInt32)), .val (.int ((p0 >>> ((8 : Int32) &&& 31)).toInt8.toInt32)), .val (.ref b197), .val (.ref b204), .val (.long q_), .second, .val (.int s1_), .val (.int m1_), .val (.int r221), .val (.int e1_), .val (.int ct_), .val (.int s2_), .val (.int m2_), .val (.int r275), .val (.int m2_), .unset, .unset, .unset, .unset, .unset, .unset, .unset, .unset, .unset, .unset, .unset, .unset, .unset]) rfl k) ?_
      refine Ends.go (X275.ldc2Long hx hown (mvT hZ (ow hw 12 rfl)) (g := (mkF m 322 #[.val (.int p0), .val (.int p1), .val (.long q2), .second, .val (.int p3), .val (.int p4), .val (.int (p0.toInt8.toInt32)), .val (.int ((p0 >>> ((8 : Int32) &&& 31)).toInt8.toInt32)), .val (.ref b197), .val (.ref b204), .val (.long q_), .second, .val (.int s1_), .val (.int m1_), .val (.int r221), .val (.int e1_), .val (.int ct_), .val (.int s2_), .val (.int m2_), .val (.int r275), .val (.int m2_), .unset, .unset, .unset, .unset, .unset, .unset, .unset, .unset, .unset, .unset, .unset, .unset, .unset] [])) rfl (hb hby at_322)) ?_
      refine Ends.go (fun _ k => XS.iload X275.here hx rfl (hb hby at_325) rfl k) ?_
      show Ends p e below s T275 (mkF m 327 #[.val (.int p0), .val (.int p1), .val (.long q2), .second, .val (.int p3), .val (.int p4), .val (.int (p0.toInt8.toInt32)), .val (.int ((p0 >>> ((8 : Int32) &&& 31)).toInt8.toInt32)), .val (.ref b197), .val (.ref b204), .val (.long q_), .second, .val (.int s1_), .val (.int m1_), .val (.int r221), .val (.int e1_), .val (.int ct_), .val (.int s2_), .val (.int m2_), .val (.int r275), .val (.int m2_), .unset, .unset, .unset, .unset, .unset, .unset, .unset, .unset, .unset, .unset, .unset, .unset, .unset] [(.int e1_), (.long (2 : Int64))]) _ _ _
      refine Ends.go (fun _ k => XS.iload X275.here hx rfl (hb hby at_327) rfl k) ?_
      refine Ends.go (fun _ k => XS.isub X275.here hx rfl (hb hby at_329) rfl k) ?_
      refine Ends.go (fun _ k => XS.i2l X275.here hx rfl (hb hby at_330) rfl k) ?_
      refine Ends.go (fun _ k => XS.ladd X275.here hx rfl (hb hby at_331) rfl k) ?_
      show Ends p e below s T275 (mkF m 332 #[.val (.int p0), .val (.int p1), .val (.long q2), .second, .val (.int p3), .val (.int p4), .val (.int (p0.toInt8.toInt32)), .val (.int ((p0 >>> ((8 : Int32) &&& 31)).toInt8.toInt32)), .val (.ref b197), .val (.ref b204), .val (.long q_), .second, .val (.int s1_), .val (.int m1_), .val (.int r221), .val (.int e1_), .val (.int ct_), .val (.int s2_), .val (.int m2_), .val (.int r275), .val (.int m2_), .unset, .unset, .unset, .unset, .unset, .unset, .unset, .unset, .unset, .unset, .unset, .unset, .unset] [(.long ((2 : Int64) + ((e1_ - s1_).toInt64)))]) _ _ _
      refine Ends.go (fun _ k => XS.lstore X275.here hx rfl (hb hby at_332) rfl (l' := #[.val (.int p0), .val (.int p1), .val (.long q2), .second, .val (.int p3), .val (.int p4), .val (.int (p0.toInt8.toInt32)), .val (.int ((p0 >>> ((8 : Int32) &&& 31)).toInt8.toInt32)), .val (.ref b197), .val (.ref b204), .val (.long q_), .second, .val (.int s1_), .val (.int m1_), .val (.int r221), .val (.int e1_), .val (.int ct_), .val (.int s2_), .val (.int m2_), .val (.int r275), .val (.int m2_), .val (.long ((2 : Int64) + ((e1_ - s1_).toInt64))), .second, .unset, .unset, .unset, .unset, .unset, .unset, .unset, .unset, .unset, .unset, .unset]) rfl k) ?_
      refine Ends.go (fun _ k => XS.iload X275.here hx rfl (hb hby at_334) rfl k) ?_
      refine Ends.go (fun _ k => XS.iload X275.here hx rfl (hb hby at_336) rfl k) ?_
      by_cases hc338_277 : s2_ = e1_
      · refine Ends.go (fun _ k => XS.icmpYes X275.here hx rfl (pc0 := 338) (pc' := 347) rfl (hb hby at_338) rfl (teq hc338_277).1 (by decide) (by decide) k) ?_
        show Ends p e below s T275 (mkF m 347 #[.val (.int p0), .val (.int p1), .val (.long q2), .second, .val (.int p3), .val (.int p4), .val (.int (p0.toInt8.toInt32)), .val (.int ((p0 >>> ((8 : Int32) &&& 31)).toInt8.toInt32)), .val (.ref b197), .val (.ref b204), .val (.long q_), .second, .val (.int s1_), .val (.int m1_), .val (.int r221), .val (.int e1_), .val (.int ct_), .val (.int s2_), .val (.int m2_), .val (.int r275), .val (.int m2_), .val (.long ((2 : Int64) + ((e1_ - s1_).toInt64))), .second, .unset, .unset, .unset, .unset, .unset, .unset, .unset, .unset, .unset, .unset, .unset] []) _ _ _
        refine Ends.go (fun _ k => XS.lconst X275.here hx rfl (hb hby at_347) k) ?_
        exact J348 _ _ _ e1_ ct_ s2_ m2_ r275 _ _ X275 e275q O8 N275 K8 V8 V9 he1 hs2 hm2 hr275 (own_et hc310_276) (if_pos hc338_277).symm
      · refine Ends.go (fun _ k => XS.icmpNo X275.here hx rfl (hb hby at_338) rfl (feq hc338_277).1 k) ?_
        refine Ends.go (X275.ldc2Long hx hown (mvT hZ (ow hw 12 rfl)) (g := (mkF m 341 #[.val (.int p0), .val (.int p1), .val (.long q2), .second, .val (.int p3), .val (.int p4), .val (.int (p0.toInt8.toInt32)), .val (.int ((p0 >>> ((8 : Int32) &&& 31)).toInt8.toInt32)), .val (.ref b197), .val (.ref b204), .val (.long q_), .second, .val (.int s1_), .val (.int m1_), .val (.int r221), .val (.int e1_), .val (.int ct_), .val (.int s2_), .val (.int m2_), .val (.int r275), .val (.int m2_), .val (.long ((2 : Int64) + ((e1_ - s1_).toInt64))), .second, .unset, .unset, .unset, .unset, .unset, .unset, .unset, .unset, .unset, .unset, .unset] [])) rfl (hb hby at_341)) ?_
        refine Ends.go (fun _ k => XS.goto X275.here hx rfl (pc0 := 344) (pc' := 348) rfl (hb hby at_344) (by decide) (by decide) k) ?_
        show Ends p e below s T275 (mkF m 348 #[.val (.int p0), .val (.int p1), .val (.long q2), .second, .val (.int p3), .val (.int p4), .val (.int (p0.toInt8.toInt32)), .val (.int ((p0 >>> ((8 : Int32) &&& 31)).toInt8.toInt32)), .val (.ref b197), .val (.ref b204), .val (.long q_), .second, .val (.int s1_), .val (.int m1_), .val (.int r221), .val (.int e1_), .val (.int ct_), .val (.int s2_), .val (.int m2_), .val (.int r275), .val (.int m2_), .val (.long ((2 : Int64) + ((e1_ - s1_).toInt64))), .second, .unset, .unset, .unset, .unset, .unset, .unset, .unset, .unset, .unset, .unset, .unset] [(.long (2 : Int64))]) _ _ _
        exact J348 _ _ _ e1_ ct_ s2_ m2_ r275 _ _ X275 e275q O8 N275 K8 V8 V9 he1 hs2 hm2 hr275 (own_et hc310_276) (if_neg hc338_277).symm
    · refine Ends.go (fun _ k => XS.ifNo X275.here hx rfl (hb hby at_310) rfl ((if0 _ _).trans (flt hc310_276).1) k) ?_
      refine Ends.go (fun _ k => XS.iload X275.here hx rfl (hb hby at_313) rfl k) ?_
      refine Ends.go (fun _ k => XS.goto X275.here hx rfl (pc0 := 315) (pc' := 320) rfl (hb hby at_315) (by decide) (by decide) k) ?_
      refine Ends.go (fun _ k => XS.istore X275.here hx rfl (hb hby at_320) rfl (l' := #[.val (.int p0), .val (.int p1), .val (.long q2), .second, .val (.int p3), .val (.int p4), .val (.int (p0.toInt8.toInt32)), .val (.int ((p0 >>> ((8 : Int32) &&& 31)).toInt8.toInt32)), .val (.ref b197), .val (.ref b204), .val (.long q_), .second, .val (.int s1_), .val (.int m1_), .val (.int r221), .val (.int e1_), .val (.int ct_), .val (.int s2_), .val (.int m2_), .val (.int r275), .val (.int r275), .unset, .unset, .unset, .unset, .unset, .unset, .unset, .unset, .unset, .unset, .unset, .unset, .unset]) rfl k) ?_
      show Ends p e below s T275 (mkF m 322 #[.val (.int p0), .val (.int p1), .val (.long q2), .second, .val (.int p3), .val (.int p4), .val (.int (p0.toInt8.toInt32)), .val (.int ((p0 >>> ((8 : Int32) &&& 31)).toInt8.toInt32)), .val (.ref b197), .val (.ref b204), .val (.long q_), .second, .val (.int s1_), .val (.int m1_), .val (.int r221), .val (.int e1_), .val (.int ct_), .val (.int s2_), .val (.int m2_), .val (.int r275), .val (.int r275), .unset, .unset, .unset, .unset, .unset, .unset, .unset, .unset, .unset, .unset, .unset, .unset, .unset] []) _ _ _
      refine Ends.go (X275.ldc2Long hx hown (mvT hZ (ow hw 12 rfl)) (g := (mkF m 322 #[.val (.int p0), .val (.int p1), .val (.long q2), .second, .val (.int p3), .val (.int p4), .val (.int (p0.toInt8.toInt32)), .val (.int ((p0 >>> ((8 : Int32) &&& 31)).toInt8.toInt32)), .val (.ref b197), .val (.ref b204), .val (.long q_), .second, .val (.int s1_), .val (.int m1_), .val (.int r221), .val (.int e1_), .val (.int ct_), .val (.int s2_), .val (.int m2_), .val (.int r275), .val (.int r275), .unset, .unset, .unset, .unset, .unset, .unset, .unset, .unset, .unset, .unset, .unset, .unset, .unset] [])) rfl (hb hby at_322)) ?_
      refine Ends.go (fun _ k => XS.iload X275.here hx rfl (hb hby at_325) rfl k) ?_
      refine Ends.go (fun _ k => XS.iload X275.here hx rfl (hb hby at_327) rfl k) ?_
      refine Ends.go (fun _ k => XS.isub X275.here hx rfl (hb hby at_329) rfl k) ?_
      show Ends p e below s T275 (mkF m 330 #[.val (.int p0), .val (.int p1), .val (.long q2), .second, .val (.int p3), .val (.int p4), .val (.int (p0.toInt8.toInt32)), .val (.int ((p0 >>> ((8 : Int32) &&& 31)).toInt8.toInt32)), .val (.ref b197), .val (.ref b204), .val (.long q_), .second, .val (.int s1_), .val (.int m1_), .val (.int r221), .val (.int e1_), .val (.int ct_), .val (.int s2_), .val (.int m2_), .val (.int r275), .val (.int r275), .unset, .unset, .unset, .unset, .unset, .unset, .unset, .unset, .unset, .unset, .unset, .unset, .unset] [(.int (e1_ - s1_)), (.long (2 : Int64))]) _ _ _
      refine Ends.go (fun _ k => XS.i2l X275.here hx rfl (hb hby at_330) rfl k) ?_
      refine Ends.go (fun _ k => XS.ladd X275.here hx rfl (hb hby at_331) rfl k) ?_
      refine Ends.go (fun _ k => XS.lstore X275.here hx rfl (hb hby at_332) rfl (l' := #[.val (.int p0), .val (.int p1), .val (.long q2), .second, .val (.int p3), .val (.int p4), .val (.int (p0.toInt8.toInt32)), .val (.int ((p0 >>> ((8 : Int32) &&& 31)).toInt8.toInt32)), .val (.ref b197), .val (.ref b204), .val (.long q_), .second, .val (.int s1_), .val (.int m1_), .val (.int r221), .val (.int e1_), .val (.int ct_), .val (.int s2_), .val (.int m2_), .val (.int r275), .val (.int r275), .val (.long ((2 : Int64) + ((e1_ - s1_).toInt64))), .second, .unset, .unset, .unset, .unset, .unset, .unset, .unset, .unset, .unset, .unset, .unset]) rfl k) ?_
      refine Ends.go (fun _ k => XS.iload X275.here hx rfl (hb hby at_334) rfl k) ?_
      show Ends p e below s T275 (mkF m 336 #[.val (.int p0), .val (.int p1), .val (.long q2), .second, .val (.int p3), .val (.int p4), .val (.int (p0.toInt8.toInt32)), .val (.int ((p0 >>> ((8 : Int32) &&& 31)).toInt8.toInt32)), .val (.ref b197), .val (.ref b204), .val (.long q_), .second, .val (.int s1_), .val (.int m1_), .val (.int r221), .val (.int e1_), .val (.int ct_), .val (.int s2_), .val (.int m2_), .val (.int r275), .val (.int r275), .val (.long ((2 : Int64) + ((e1_ - s1_).toInt64))), .second, .unset, .unset, .unset, .unset, .unset, .unset, .unset, .unset, .unset, .unset, .unset] [(.int s2_)]) _ _ _
      refine Ends.go (fun _ k => XS.iload X275.here hx rfl (hb hby at_336) rfl k) ?_
      by_cases hc338_278 : s2_ = e1_
      · refine Ends.go (fun _ k => XS.icmpYes X275.here hx rfl (pc0 := 338) (pc' := 347) rfl (hb hby at_338) rfl (teq hc338_278).1 (by decide) (by decide) k) ?_
        refine Ends.go (fun _ k => XS.lconst X275.here hx rfl (hb hby at_347) k) ?_
        exact J348 _ _ _ e1_ ct_ s2_ m2_ r275 _ _ X275 e275q O8 N275 K8 V8 V9 he1 hs2 hm2 hr275 (own_ef hc310_276) (if_pos hc338_278).symm
      · refine Ends.go (fun _ k => XS.icmpNo X275.here hx rfl (hb hby at_338) rfl (feq hc338_278).1 k) ?_
        show Ends p e below s T275 (mkF m 341 #[.val (.int p0), .val (.int p1), .val (.long q2), .second, .val (.int p3), .val (.int p4), .val (.int (p0.toInt8.toInt32)), .val (.int ((p0 >>> ((8 : Int32) &&& 31)).toInt8.toInt32)), .val (.ref b197), .val (.ref b204), .val (.long q_), .second, .val (.int s1_), .val (.int m1_), .val (.int r221), .val (.int e1_), .val (.int ct_), .val (.int s2_), .val (.int m2_), .val (.int r275), .val (.int r275), .val (.long ((2 : Int64) + ((e1_ - s1_).toInt64))), .second, .unset, .unset, .unset, .unset, .unset, .unset, .unset, .unset, .unset, .unset, .unset] []) _ _ _
        refine Ends.go (X275.ldc2Long hx hown (mvT hZ (ow hw 12 rfl)) (g := (mkF m 341 #[.val (.int p0), .val (.int p1), .val (.long q2), .second, .val (.int p3), .val (.int p4), .val (.int (p0.toInt8.toInt32)), .val (.int ((p0 >>> ((8 : Int32) &&& 31)).toInt8.toInt32)), .val (.ref b197), .val (.ref b204), .val (.long q_), .second, .val (.int s1_), .val (.int m1_), .val (.int r221), .val (.int e1_), .val (.int ct_), .val (.int s2_), .val (.int m2_), .val (.int r275), .val (.int r275), .val (.long ((2 : Int64) + ((e1_ - s1_).toInt64))), .second, .unset, .unset, .unset, .unset, .unset, .unset, .unset, .unset, .unset, .unset, .unset] [])) rfl (hb hby at_341)) ?_
        refine Ends.go (fun _ k => XS.goto X275.here hx rfl (pc0 := 344) (pc' := 348) rfl (hb hby at_344) (by decide) (by decide) k) ?_
        exact J348 _ _ _ e1_ ct_ s2_ m2_ r275 _ _ X275 e275q O8 N275 K8 V8 V9 he1 hs2 hm2 hr275 (own_ef hc310_276) (if_neg hc338_278).symm
  have J234 : ∀ (T9 : State) (h9 : Heap) (lcs : List Loc) (e1_ : Int32) (X9 : Stand p l e room_1 s m #[(.int p0), (.int p1), (.long q2), (.int p3), (.int p4)] below meth c T9 lcs 2 11) (eT9 : T9.heap = h9) (O9 : Old Z n0 h9) (N9 : Fr n0 lcs) (K9 : Keep h0 h9 []) (V8 : Arv Z h9 b197 k197 .byte (3 : Int32) [(.int a0_), (.int a1_), (.int a2_)] (.int (0 : Int32))) (V9 : Arv Z h9 b204 k204 .byte (8 : Int32) [(.int u0_), (.int u1_), (.int u2_), (.int u3_), (.int u4_), (.int u5_), (.int u6_), (.int u7_)] (.int (0 : Int32))) (he1 : e1_ = own_end r221 m1_), Ends p e below s T9 (mkF m 234 #[.val (.int p0), .val (.int p1), .val (.long q2), .second, .val (.int p3), .val (.int p4), .val (.int (p0.toInt8.toInt32)), .val (.int ((p0 >>> ((8 : Int32) &&& 31)).toInt8.toInt32)), .val (.ref b197), .val (.ref b204), .val (.long q_), .second, .val (.int s1_), .val (.int m1_), .val (.int r221), .unset, .unset, .unset, .unset, .unset, .unset, .unset, .unset, .unset, .unset, .unset, .unset, .unset, .unset, .unset, .unset, .unset, .unset, .unset] [(.int e1_)]) room_1.cells room_1.slots (fun v h L => v = some (.int (1 : Int32)) ∧ Fr n0 L) := by
    intro T9 h9 lcs e1_ X9 eT9 O9 N9 K9 V8 V9 he1
    show Ends p e below s T9 (mkF m 234 #[.val (.int p0), .val (.int p1), .val (.long q2), .second, .val (.int p3), .val (.int p4), .val (.int (p0.toInt8.toInt32)), .val (.int ((p0 >>> ((8 : Int32) &&& 31)).toInt8.toInt32)), .val (.ref b197), .val (.ref b204), .val (.long q_), .second, .val (.int s1_), .val (.int m1_), .val (.int r221), .unset, .unset, .unset, .unset, .unset, .unset, .unset, .unset, .unset, .unset, .unset, .unset, .unset, .unset, .unset, .unset, .unset, .unset, .unset] [(.int e1_)]) _ _ _
    refine Ends.go (fun _ k => XS.istore X9.here hx rfl (hb hby at_234) rfl (l' := #[.val (.int p0), .val (.int p1), .val (.long q2), .second, .val (.int p3), .val (.int p4), .val (.int (p0.toInt8.toInt32)), .val (.int ((p0 >>> ((8 : Int32) &&& 31)).toInt8.toInt32)), .val (.ref b197), .val (.ref b204), .val (.long q_), .second, .val (.int s1_), .val (.int m1_), .val (.int r221), .val (.int e1_), .unset, .unset, .unset, .unset, .unset, .unset, .unset, .unset, .unset, .unset, .unset, .unset, .unset, .unset, .unset, .unset, .unset, .unset]) rfl k) ?_
    show Ends p e below s T9 (mkF m 236 #[.val (.int p0), .val (.int p1), .val (.long q2), .second, .val (.int p3), .val (.int p4), .val (.int (p0.toInt8.toInt32)), .val (.int ((p0 >>> ((8 : Int32) &&& 31)).toInt8.toInt32)), .val (.ref b197), .val (.ref b204), .val (.long q_), .second, .val (.int s1_), .val (.int m1_), .val (.int r221), .val (.int e1_), .unset, .unset, .unset, .unset, .unset, .unset, .unset, .unset, .unset, .unset, .unset, .unset, .unset, .unset, .unset, .unset, .unset, .unset] []) _ _ _
    refine Ends.go (fun _ k => XS.iload X9.here hx rfl (hb hby at_236) rfl k) ?_
    refine Ends.go (fun _ k => XS.iconst X9.here hx rfl (hb hby at_238) k) ?_
    refine Ends.go (fun _ k => XS.iand X9.here hx rfl (hb hby at_239) rfl k) ?_
    by_cases hc240_279 : (p4 &&& (1 : Int32)) = (0 : Int32)
    · refine Ends.go (fun _ k => XS.ifYes X9.here hx rfl (pc0 := 240) (pc' := 247) rfl (hb hby at_240) rfl ((if0 _ _).trans (teq hc240_279).1) (by decide) (by decide) k) ?_
      show Ends p e below s T9 (mkF m 247 #[.val (.int p0), .val (.int p1), .val (.long q2), .second, .val (.int p3), .val (.int p4), .val (.int (p0.toInt8.toInt32)), .val (.int ((p0 >>> ((8 : Int32) &&& 31)).toInt8.toInt32)), .val (.ref b197), .val (.ref b204), .val (.long q_), .second, .val (.int s1_), .val (.int m1_), .val (.int r221), .val (.int e1_), .unset, .unset, .unset, .unset, .unset, .unset, .unset, .unset, .unset, .unset, .unset, .unset, .unset, .unset, .unset, .unset, .unset, .unset] []) _ _ _
      refine Ends.go (fun _ k => XS.iconst X9.here hx rfl (hb hby at_247) k) ?_
      refine Ends.go (fun _ k => XS.istore X9.here hx rfl (hb hby at_248) rfl (l' := #[.val (.int p0), .val (.int p1), .val (.long q2), .second, .val (.int p3), .val (.int p4), .val (.int (p0.toInt8.toInt32)), .val (.int ((p0 >>> ((8 : Int32) &&& 31)).toInt8.toInt32)), .val (.ref b197), .val (.ref b204), .val (.long q_), .second, .val (.int s1_), .val (.int m1_), .val (.int r221), .val (.int e1_), .val (.int (0 : Int32)), .unset, .unset, .unset, .unset, .unset, .unset, .unset, .unset, .unset, .unset, .unset, .unset, .unset, .unset, .unset, .unset, .unset]) rfl k) ?_
      refine Ends.go (fun _ k => XS.iload X9.here hx rfl (hb hby at_250) rfl k) ?_
      refine Ends.go (fun _ k => XS.ifYes X9.here hx rfl (pc0 := 252) (pc' := 260) rfl (hb hby at_252) rfl ((if0 _ _).trans (teq (by decide : (0 : Int32) = (0 : Int32))).1) (by decide) (by decide) k) ?_
      show Ends p e below s T9 (mkF m 260 #[.val (.int p0), .val (.int p1), .val (.long q2), .second, .val (.int p3), .val (.int p4), .val (.int (p0.toInt8.toInt32)), .val (.int ((p0 >>> ((8 : Int32) &&& 31)).toInt8.toInt32)), .val (.ref b197), .val (.ref b204), .val (.long q_), .second, .val (.int s1_), .val (.int m1_), .val (.int r221), .val (.int e1_), .val (.int (0 : Int32)), .unset, .unset, .unset, .unset, .unset, .unset, .unset, .unset, .unset, .unset, .unset, .unset, .unset, .unset, .unset, .unset, .unset] []) _ _ _
      refine Ends.go (fun _ k => XS.iconst X9.here hx rfl (hb hby at_260) k) ?_
      refine Ends.go (fun _ k => XS.iload X9.here hx rfl (hb hby at_261) rfl k) ?_
      refine Ends.go (fun _ k => XS.iconst X9.here hx rfl (hb hby at_263) k) ?_
      refine Ends.go (fun _ k => XS.iushr X9.here hx rfl (hb hby at_264) rfl k) ?_
      show Ends p e below s T9 (mkF m 265 #[.val (.int p0), .val (.int p1), .val (.long q2), .second, .val (.int p3), .val (.int p4), .val (.int (p0.toInt8.toInt32)), .val (.int ((p0 >>> ((8 : Int32) &&& 31)).toInt8.toInt32)), .val (.ref b197), .val (.ref b204), .val (.long q_), .second, .val (.int s1_), .val (.int m1_), .val (.int r221), .val (.int e1_), .val (.int (0 : Int32)), .unset, .unset, .unset, .unset, .unset, .unset, .unset, .unset, .unset, .unset, .unset, .unset, .unset, .unset, .unset, .unset, .unset] [(.int ((p4.toUInt32 >>> ((1 : Int32) &&& 31).toUInt32).toInt32)), (.int (2 : Int32))]) _ _ _
      refine Ends.go (fun _ k => XS.sipush X9.here hx rfl (hb hby at_265) k) ?_
      refine Ends.go (fun _ k => XS.iand X9.here hx rfl (hb hby at_268) rfl k) ?_
      refine Ends.go (fun _ k => XS.bipush X9.here hx rfl (hb hby at_269) k) ?_
      refine Ends.go (fun _ k => iremM X9 hx rfl (hb hby at_271) rfl (by decide) k) ?_
      show Ends p e below s T9 (mkF m 272 #[.val (.int p0), .val (.int p1), .val (.long q2), .second, .val (.int p3), .val (.int p4), .val (.int (p0.toInt8.toInt32)), .val (.int ((p0 >>> ((8 : Int32) &&& 31)).toInt8.toInt32)), .val (.ref b197), .val (.ref b204), .val (.long q_), .second, .val (.int s1_), .val (.int m1_), .val (.int r221), .val (.int e1_), .val (.int (0 : Int32)), .unset, .unset, .unset, .unset, .unset, .unset, .unset, .unset, .unset, .unset, .unset, .unset, .unset, .unset, .unset, .unset, .unset] [(.int ((((p4.toUInt32 >>> ((1 : Int32) &&& 31).toUInt32).toInt32) &&& (255 : Int32)) % (7 : Int32))), (.int (2 : Int32))]) _ _ _
      refine Ends.go (fun _ k => XS.iadd X9.here hx rfl (hb hby at_272) rfl k) ?_
      exact J273 _ _ _ e1_ _ _ X9 eT9 O9 N9 K9 V8 V9 he1 (own_st8 rfl)
    · refine Ends.go (fun _ k => XS.ifNo X9.here hx rfl (hb hby at_240) rfl ((if0 _ _).trans (feq hc240_279).1) k) ?_
      refine Ends.go (fun _ k => XS.iconst X9.here hx rfl (hb hby at_243) k) ?_
      refine Ends.go (fun _ k => XS.goto X9.here hx rfl (pc0 := 244) (pc' := 248) rfl (hb hby at_244) (by decide) (by decide) k) ?_
      show Ends p e below s T9 (mkF m 248 #[.val (.int p0), .val (.int p1), .val (.long q2), .second, .val (.int p3), .val (.int p4), .val (.int (p0.toInt8.toInt32)), .val (.int ((p0 >>> ((8 : Int32) &&& 31)).toInt8.toInt32)), .val (.ref b197), .val (.ref b204), .val (.long q_), .second, .val (.int s1_), .val (.int m1_), .val (.int r221), .val (.int e1_), .unset, .unset, .unset, .unset, .unset, .unset, .unset, .unset, .unset, .unset, .unset, .unset, .unset, .unset, .unset, .unset, .unset, .unset] [(.int (1 : Int32))]) _ _ _
      refine Ends.go (fun _ k => XS.istore X9.here hx rfl (hb hby at_248) rfl (l' := #[.val (.int p0), .val (.int p1), .val (.long q2), .second, .val (.int p3), .val (.int p4), .val (.int (p0.toInt8.toInt32)), .val (.int ((p0 >>> ((8 : Int32) &&& 31)).toInt8.toInt32)), .val (.ref b197), .val (.ref b204), .val (.long q_), .second, .val (.int s1_), .val (.int m1_), .val (.int r221), .val (.int e1_), .val (.int (1 : Int32)), .unset, .unset, .unset, .unset, .unset, .unset, .unset, .unset, .unset, .unset, .unset, .unset, .unset, .unset, .unset, .unset, .unset]) rfl k) ?_
      refine Ends.go (fun _ k => XS.iload X9.here hx rfl (hb hby at_250) rfl k) ?_
      refine Ends.go (fun _ k => XS.ifNo X9.here hx rfl (hb hby at_252) rfl ((if0 _ _).trans (feq (by decide : ¬ ((1 : Int32) = (0 : Int32)))).1) k) ?_
      refine Ends.go (fun _ k => XS.iload X9.here hx rfl (hb hby at_255) rfl k) ?_
      show Ends p e below s T9 (mkF m 257 #[.val (.int p0), .val (.int p1), .val (.long q2), .second, .val (.int p3), .val (.int p4), .val (.int (p0.toInt8.toInt32)), .val (.int ((p0 >>> ((8 : Int32) &&& 31)).toInt8.toInt32)), .val (.ref b197), .val (.ref b204), .val (.long q_), .second, .val (.int s1_), .val (.int m1_), .val (.int r221), .val (.int e1_), .val (.int (1 : Int32)), .unset, .unset, .unset, .unset, .unset, .unset, .unset, .unset, .unset, .unset, .unset, .unset, .unset, .unset, .unset, .unset, .unset] [(.int e1_)]) _ _ _
      refine Ends.go (fun _ k => XS.goto X9.here hx rfl (pc0 := 257) (pc' := 273) rfl (hb hby at_257) (by decide) (by decide) k) ?_
      exact J273 _ _ _ e1_ _ e1_ X9 eT9 O9 N9 K9 V8 V9 he1 (by rw [he1, hr221]; exact own_firstb hs1 hm1)
  show Ends p e below s T221 (mkF m 220 #[.val (.int p0), .val (.int p1), .val (.long q2), .second, .val (.int p3), .val (.int p4), .val (.int (p0.toInt8.toInt32)), .val (.int ((p0 >>> ((8 : Int32) &&& 31)).toInt8.toInt32)), .val (.ref b197), .val (.ref b204), .val (.long q_), .second, .val (.int s1_), .val (.int m1_), .unset, .unset, .unset, .unset, .unset, .unset, .unset, .unset, .unset, .unset, .unset, .unset, .unset, .unset, .unset, .unset, .unset, .unset, .unset, .unset] [(.int r221)]) _ _ _
  refine Ends.go (fun _ k => XS.istore X221.here hx rfl (hb hby at_220) rfl (l' := #[.val (.int p0), .val (.int p1), .val (.long q2), .second, .val (.int p3), .val (.int p4), .val (.int (p0.toInt8.toInt32)), .val (.int ((p0 >>> ((8 : Int32) &&& 31)).toInt8.toInt32)), .val (.ref b197), .val (.ref b204), .val (.long q_), .second, .val (.int s1_), .val (.int m1_), .val (.int r221), .unset, .unset, .unset, .unset, .unset, .unset, .unset, .unset, .unset, .unset, .unset, .unset, .unset, .unset, .unset, .unset, .unset, .unset, .unset]) rfl k) ?_
  refine Ends.go (fun _ k => XS.iload X221.here hx rfl (hb hby at_222) rfl k) ?_
  show Ends p e below s T221 (mkF m 224 #[.val (.int p0), .val (.int p1), .val (.long q2), .second, .val (.int p3), .val (.int p4), .val (.int (p0.toInt8.toInt32)), .val (.int ((p0 >>> ((8 : Int32) &&& 31)).toInt8.toInt32)), .val (.ref b197), .val (.ref b204), .val (.long q_), .second, .val (.int s1_), .val (.int m1_), .val (.int r221), .unset, .unset, .unset, .unset, .unset, .unset, .unset, .unset, .unset, .unset, .unset, .unset, .unset, .unset, .unset, .unset, .unset, .unset, .unset] [(.int r221)]) _ _ _
  by_cases hc224_280 : r221 < (0 : Int32)
  · refine Ends.go (fun _ k => XS.ifYes X221.here hx rfl (pc0 := 224) (pc' := 232) rfl (hb hby at_224) rfl ((if0 _ _).trans (tlt hc224_280).1) (by decide) (by decide) k) ?_
    refine Ends.go (fun _ k => XS.iload X221.here hx rfl (hb hby at_232) rfl k) ?_
    exact J234 _ _ _ _ X221 e221q O220 N221 K220 (((((((((V203.ext E204).other W206 ne_b197_b204).other W208 ne_b197_b204).other W210 ne_b197_b204).other W212 ne_b197_b204).other W214 ne_b197_b204).other W216 ne_b197_b204).other W218 ne_b197_b204).other W220 ne_b197_b204) V220 (own_et hc224_280)
  · refine Ends.go (fun _ k => XS.ifNo X221.here hx rfl (hb hby at_224) rfl ((if0 _ _).trans (flt hc224_280).1) k) ?_
    refine Ends.go (fun _ k => XS.iload X221.here hx rfl (hb hby at_227) rfl k) ?_
    show Ends p e below s T221 (mkF m 229 #[.val (.int p0), .val (.int p1), .val (.long q2), .second, .val (.int p3), .val (.int p4), .val (.int (p0.toInt8.toInt32)), .val (.int ((p0 >>> ((8 : Int32) &&& 31)).toInt8.toInt32)), .val (.ref b197), .val (.ref b204), .val (.long q_), .second, .val (.int s1_), .val (.int m1_), .val (.int r221), .unset, .unset, .unset, .unset, .unset, .unset, .unset, .unset, .unset, .unset, .unset, .unset, .unset, .unset, .unset, .unset, .unset, .unset, .unset] [(.int r221)]) _ _ _
    refine Ends.go (fun _ k => XS.goto X221.here hx rfl (pc0 := 229) (pc' := 234) rfl (hb hby at_229) (by decide) (by decide) k) ?_
    exact J234 _ _ _ _ X221 e221q O220 N221 K220 (((((((((V203.ext E204).other W206 ne_b197_b204).other W208 ne_b197_b204).other W210 ne_b197_b204).other W212 ne_b197_b204).other W214 ne_b197_b204).other W216 ne_b197_b204).other W218 ne_b197_b204).other W220 ne_b197_b204) V220 (own_ef hc224_280)
set_option maxRecDepth 65536 in
set_option maxHeartbeats 40000000 in
theorem comes_1 {Post : Tables → Env → Array Value → State → Outcome → State → Prop} (hpost : ∀ tb e args s v u, (limb_1_1.after args s (.returned v) u = true ∧ limb_1_2.after args s (.returned v) u = true ∧ True) → FrameEnd s (.returned v) u (Jvm.fieldLocs frame_1_writes args s ++ Jvm.arrayLocs frame_1_arrays args s ++ Jvm.staticLocs frame_1_statics s) 24 704 → Post tb e args s (.returned v) u) :
    ArmFor flags0 classFile x code maxLocals ret World_1 tables_1 room_1 Calls_1 rest_1 Pre_1 Post := by
  intro l hfl _ _ p e ha hc hk s m args below hf hA hF happ hP
  obtain ⟨hcalls, hrest, hpre⟩ := hP
  obtain ⟨-, -, -, hnamed, -, -, -, hat⟩ := (Spec.applies_iff hf).mp happ
  obtain ⟨hg, hn⟩ := and_e (Cond.before_iff.mp (show (Jvm.Cond.and given_1 narrow_1).before args s = true from hpre))
  obtain ⟨g0a, g0b⟩ := and_e hg
  obtain ⟨g1a, g1b⟩ := and_e g0b
  obtain ⟨g2a, g2b⟩ := and_e g1b
  obtain ⟨g3a, g3b⟩ := and_e g2b
  obtain ⟨g4a, g4b⟩ := and_e g3b
  obtain ⟨w0, w1, w2, w3, w4, rfl⟩ : ∃ w0 w1 w2 w3 w4 : Value, args = #[w0, w1, w2, w3, w4] := by
    have hs : args.size = 5 := by simpa [Cond.value, given_1] using g0a
    obtain ⟨L⟩ := args
    match L, hs with
    | [w0, w1, w2, w3, w4], _ => exact ⟨w0, w1, w2, w3, w4, rfl⟩
  have hw := fun d (hd : d ∈ tables_1) => atoms_spec (ws := Jvm.Cond.code x code maxLocals ret :: tables_1) hat d (List.mem_cons_of_mem _ hd)
  have hfit : Fit s := fun {y c} hc i hi => by
    obtain ⟨ha, rfl⟩ := Array.getElem?_eq_some_iff.mp hc
    have q := List.all_eq_true.mp ((Array.all_eq_true_iff_forall_mem.mp hF) _ (Array.getElem_mem ha)) i (List.mem_range.mpr hi)
    simpa [Array.getElem?_eq_getElem hi] using q
  obtain ⟨i0, ei0⟩ := is_v g1a
  obtain rfl : w0 = (.int i0) := Option.some.inj ei0
  obtain ⟨i1, ei1⟩ := is_v g2a
  obtain rfl : w1 = (.int i1) := Option.some.inj ei1
  obtain ⟨i2, ei2⟩ := isL_v g3a
  obtain rfl : w2 = (.long i2) := Option.some.inj ei2
  obtain ⟨i3, ei3⟩ := is_v g4a
  obtain rfl : w3 = (.int i3) := Option.some.inj ei3
  obtain ⟨i4, ei4⟩ := is_v g4b
  obtain rfl : w4 = (.int i4) := Option.some.inj ei4
  obtain ⟨w_CLASSIC, ev_CLASSIC⟩ := exa_v hn
  obtain ⟨n, o, h1, h2, h3, _, L, rfl, ⟨rfl, N⟩, hq⟩ := rm0 l s _ hw tables_1 s.heap.size s.heap (Old.start s) i0 i1 i2 i3 i4 w_CLASSIC ⟨Sta.start ev_CLASSIC (Or.inr ⟨(ow hw 84 rfl), (ow hw 85 rfl)⟩), Exa.start ev_CLASSIC hn⟩ p e ha hc hk s m _ below hf ((Spec.applies_iff_loose hf).mp happ).1 ⟨rfl, State.Warmed39.refl s, rfl⟩ trivial
  refine ⟨n, _, h1, h2, h3, hpost _ _ _ _ _ _ ⟨Cond.after_iff.mpr rfl, Cond.after_iff.mpr (eq_i res_at (Term.int_eval (1)) rfl), trivial⟩ ⟨hq.1, hq.2.1, (hq.2.2.sift fun y hy => Or.inr (N y hy)).mono (by decide) (by decide)⟩⟩
theorem main_1_1 : Claimed_1_1 := comes_1 fun _ _ _ _ _ _ h hF => ⟨h.1, hF⟩
theorem main_1_2 : Claimed_1_2 := comes_1 fun _ _ _ _ _ _ h hF => ⟨h.2.1, hF⟩
end Jvm.Pilot.@@N@@
namespace Jvm.Pilot.@@N@@
open Jvm Jvm.ClassFile Sem Op Lib Jvm.Free Jvm.Stand Jvm.Pilot.@@N@@.Jvm.D
/-! MADE BY PROGRAM (witnessworld.py) out of the Statement's table words and the real class files: 19 classes; the members and pool entries that the words name. The judged class is class 1, her method 4. -/
namespace start1
open Jvm.ClassFile
def u (s : String) : CpInfo := .utf8 (stringToUtf16 s)
/-- a pool by its gaps: so many unusable entries, then the entry; so many at the end -/
def gap : Nat → List CpInfo → List CpInfo
  | 0, r => r
  | n + 1, r => .unusable :: gap n r
def poolList (es : List (Nat × CpInfo)) (last : Nat) : List CpInfo := es.foldr (fun e r => gap e.1 (e.2 :: r)) (gap last [])
def pool (es : List (Nat × CpInfo)) (last : Nat) : Array CpInfo := ⟨poolList es last⟩
def fileOf (pool : Array CpInfo) (this : Nat) (attrs : Array Attribute := #[]) (ms : Array MethodInfo := #[]) (fl : Nat := 33) (sup : Nat := 0) (ifs : Array Nat := #[]) (fds : Array FieldInfo := #[]) : ClassFile where
  minorVersion := 0
  majorVersion := 65
  constantPool := pool
  accessFlags := fl
  thisClass := this
  superClass := sup
  interfaces := ifs
  fields := fds
  methods := ms
  attributes := attrs
def plain (name : String) (sup : Option ClassId) : Class where
  name := name
  kind := .ordinary
  loader := none
  accessFlags := 33
  super := sup
  interfaces := #[]
  cf := none
  fields := #[]
  methods := #[]
  instanceTypes := #[]
  staticTypes := #[]
  resolved := #[]
  callSites := []
  init := .initialized
  statics := none
  mirror := none

def pool0 : Array CpInfo := pool [(5, u "<init>"), (0, u "()V"), (1, .class_ 10), (1, u "java/lang/Object")] 113

def k0c0 : Code := { maxStack := 0, maxLocals := 1, code := object_method_1_code, exceptionTable := #[], attributes := #[] }
def k0m0 : Method := { name := "<init>", desc := "()V", sig := { parameters := [], returnType := none }, accessFlags := 1, code := some k0c0 }
/-- java/lang/Object -/
def k0 : Class := { plain "java/lang/Object" none with
  accessFlags := 33
  interfaces := #[]
  cf := some (fileOf pool0 8 #[] #[{ accessFlags := 1, nameIndex := 5, descriptorIndex := 6, attributes := #[] }] 33 0 #[] #[])
  fields := #[]
  methods := #[k0m0]
  instanceTypes := #[]
  staticTypes := #[]
  resolved := Array.replicate 124 none
  statics := none }

def pool1 : Array CpInfo := pool [(2, .class_ 4), (1, u "java/lang/Object"), (0, u "<init>"), (0, u "()V"), (0, .methodref 8 9), (0, .class_ 10), (0, .nameAndType 11 12), (0, u "com/example/sindano/sindano/boyermoore/ReadingExactPinLaw"), (0, u "hit"), (0, u "([B[BIII)Z"), (0, .methodref 8 14), (0, .nameAndType 15 16), (0, u "pick"), (0, u "(IIBB)B"), (0, .integer 2147483647), (0, .methodref 8 19), (0, .nameAndType 20 21), (0, u "firstEnd"), (0, u "([B[BII)I"), (0, .long 2), (1, .class_ 25), (0, u "com/example/sindano/sindano/boyermoore/ShiftOr"), (0, .methodref 24 27), (0, .nameAndType 5 28), (0, u "([B)V"), (0, .class_ 30), (0, u "com/example/sindano/sindano/boyermoore/ShiftOr$Reading"), (0, .methodref 29 32), (0, .nameAndType 5 33), (0, u "(Lcom/example/sindano/sindano/boyermoore/ShiftOr;)V"), (0, .class_ 35), (0, u "com/example/sindano/sindano/boyermoore/Stretches"), (0, .class_ 37), (0, u "com/example/sindano/sindano/boyermoore/Stretches$Plan"), (0, .methodref 36 39), (0, .nameAndType 5 40), (0, u "(ILcom/example/sindano/sindano/boyermoore/Stretches$FastForm;Lcom/example/sindano/sindano/boyermoore/Stretches$FastForm;Z)V"), (0, .methodref 34 42), (0, .nameAndType 5 43), (0, u "(Lcom/example/sindano/sindano/boyermoore/Stretches$Plan;)V"), (0, .fieldref 34 45), (0, .nameAndType 46 47), (0, u "window"), (0, u "J"), (0, .methodref 29 49), (0, .nameAndType 50 51), (0, u "exact"), (0, u "(Lcom/example/sindano/sindano/boyermoore/Stretches;[BJI)I"), (0, .fieldref 34 53), (0, .nameAndType 54 47), (0, u "made"), (3, u "law"), (0, u "(IIJII)Z")] 10

def k1m0 : Method := { name := "<init>", desc := "()V", sig := { parameters := [], returnType := none }, accessFlags := 1, code := none }
def k1c1 : Code := { maxStack := 2, maxLocals := 4, code := method_2_code, exceptionTable := #[], attributes := #[] }
def k1m1 : Method := { name := "pick", desc := "(IIBB)B", sig := { parameters := [.int, .int, .byte, .byte], returnType := some .byte }, accessFlags := 10, code := some k1c1 }
def k1c2 : Code := { maxStack := 3, maxLocals := 5, code := method_3_code, exceptionTable := #[], attributes := #[] }
def k1m2 : Method := { name := "hit", desc := "([B[BIII)Z", sig := { parameters := [(.array .byte), (.array .byte), .int, .int, .int], returnType := some .boolean }, accessFlags := 10, code := some k1c2 }
def k1c3 : Code := { maxStack := 5, maxLocals := 4, code := method_4_code, exceptionTable := #[], attributes := #[] }
def k1m3 : Method := { name := "firstEnd", desc := "([B[BII)I", sig := { parameters := [(.array .byte), (.array .byte), .int, .int], returnType := some .int }, accessFlags := 10, code := some k1c3 }
def k1c4 : Code := { maxStack := 8, maxLocals := 34, code := code, exceptionTable := #[], attributes := #[] }
def k1m4 : Method := { name := "law", desc := "(IIJII)Z", sig := { parameters := [.int, .int, .long, .int, .int], returnType := some .boolean }, accessFlags := 9, code := some k1c4 }
/-- com/example/sindano/sindano/boyermoore/ReadingExactPinLaw -/
def k1 : Class := { plain "com/example/sindano/sindano/boyermoore/ReadingExactPinLaw" (some 0) with
  accessFlags := 49
  interfaces := #[]
  cf := some (fileOf pool1 8 #[] #[{ accessFlags := 1, nameIndex := 5, descriptorIndex := 6, attributes := #[] }, { accessFlags := 10, nameIndex := 15, descriptorIndex := 16, attributes := #[] }, { accessFlags := 10, nameIndex := 11, descriptorIndex := 12, attributes := #[] }, { accessFlags := 10, nameIndex := 20, descriptorIndex := 21, attributes := #[] }, { accessFlags := 9, nameIndex := 58, descriptorIndex := 59, attributes := #[] }] 49 2 #[] #[])
  fields := #[]
  methods := #[k1m0, k1m1, k1m2, k1m3, k1m4]
  instanceTypes := #[]
  staticTypes := #[]
  resolved := Array.replicate 70 none
  statics := none }

def pool2 : Array CpInfo := pool [(3, .methodref 4 5), (0, .class_ 6), (0, .nameAndType 7 8), (0, u "java/lang/Object"), (0, u "<init>"), (0, u "()V"), (0, .fieldref 10 11), (0, .class_ 12), (0, .nameAndType 13 14), (0, u "com/example/sindano/sindano/boyermoore/ShiftOr"), (0, u "missing"), (0, u "[J"), (0, .long 18446744073709551615), (1, .methodref 18 19), (0, .class_ 20), (0, .nameAndType 21 22), (0, u "java/util/Arrays"), (0, u "fill"), (0, u "([JJ)V"), (0, .fieldref 10 24), (0, .nameAndType 25 26), (0, u "whole"), (0, u "J"), (0, .fieldref 10 28), (0, .nameAndType 29 30), (0, u "back"), (0, u "I"), (0, u "LONGEST"), (2, u "([B)V"), (8, .class_ 44), (0, u "com/example/sindano/sindano/boyermoore/ShiftOr$Reading")] 2

def k2c0 : Code := { maxStack := 8, maxLocals := 3, code := prog_46_method_1_code, exceptionTable := #[], attributes := #[] }
def k2m0 : Method := { name := "<init>", desc := "([B)V", sig := { parameters := [(.array .byte)], returnType := none }, accessFlags := 0, code := some k2c0 }
/-- com/example/sindano/sindano/boyermoore/ShiftOr -/
def k2 : Class := { plain "com/example/sindano/sindano/boyermoore/ShiftOr" (some 0) with
  accessFlags := 48
  interfaces := #[]
  cf := some (fileOf pool2 10 #[.nestMembers #[43]] #[{ accessFlags := 0, nameIndex := 7, descriptorIndex := 34, attributes := #[] }] 48 4 #[] #[{ accessFlags := 24, nameIndex := 31, descriptorIndex := 30, attributes := #[] }, { accessFlags := 18, nameIndex := 13, descriptorIndex := 14, attributes := #[] }, { accessFlags := 18, nameIndex := 25, descriptorIndex := 26, attributes := #[] }, { accessFlags := 18, nameIndex := 29, descriptorIndex := 30, attributes := #[] }])
  fields := #[{ name := "LONGEST", type := .int, accessFlags := 24, slot := 0, constantValue := 0 }, { name := "missing", type := (.array .long), accessFlags := 18, slot := 0, constantValue := 0 }, { name := "whole", type := .long, accessFlags := 18, slot := 1, constantValue := 0 }, { name := "back", type := .int, accessFlags := 18, slot := 2, constantValue := 0 }]
  methods := #[k2m0]
  instanceTypes := #[(.array .long), .long, .int]
  staticTypes := #[.int]
  resolved := Array.replicate 47 none
  statics := none }

def pool3 : Array CpInfo := pool [(2, .class_ 4), (1, u "java/lang/Object"), (0, u "<init>"), (0, u "()V"), (7, .class_ 16), (1, u "java/util/Arrays"), (57, .class_ 76), (1, u "java/util/Arrays$NaturalOrder"), (36, .class_ 115), (1, u "java/util/Arrays$LegacyMergeSort"), (1, u "Z"), (257, .class_ 376), (0, u "java/util/Arrays$ArrayList"), (68, u "$assertionsDisabled"), (269, u "MIN_ARRAY_SORT_GRAN"), (0, u "I"), (2, u "INSERTIONSORT_THRESHOLD"), (120, u "fill"), (0, u "([JJ)V"), (133, .class_ 976), (0, u "java/util/Arrays$ArrayItr")] 52

def k3m0 : Method := { name := "<init>", desc := "()V", sig := { parameters := [], returnType := none }, accessFlags := 2, code := none }
def k3c1 : Code := { maxStack := 4, maxLocals := 5, code := jdk_65_method_101_code, exceptionTable := #[], attributes := #[] }
def k3m1 : Method := { name := "fill", desc := "([JJ)V", sig := { parameters := [(.array .long), .long], returnType := none }, accessFlags := 9, code := some k3c1 }
/-- java/util/Arrays -/
def k3 : Class := { plain "java/util/Arrays" (some 0) with
  accessFlags := 49
  interfaces := #[]
  cf := some (fileOf pool3 14 #[.nestMembers #[975, 375, 113, 74]] #[{ accessFlags := 2, nameIndex := 5, descriptorIndex := 6, attributes := #[] }, { accessFlags := 9, nameIndex := 840, descriptorIndex := 841, attributes := #[] }] 49 2 #[] #[{ accessFlags := 26, nameIndex := 715, descriptorIndex := 716, attributes := #[] }, { accessFlags := 26, nameIndex := 719, descriptorIndex := 716, attributes := #[] }, { accessFlags := 4120, nameIndex := 445, descriptorIndex := 117, attributes := #[] }])
  fields := #[{ name := "MIN_ARRAY_SORT_GRAN", type := .int, accessFlags := 26, slot := 0, constantValue := 0 }, { name := "INSERTIONSORT_THRESHOLD", type := .int, accessFlags := 26, slot := 1, constantValue := 0 }, { name := "$assertionsDisabled", type := .boolean, accessFlags := 4120, slot := 2, constantValue := 0 }]
  methods := #[k3m0, k3m1]
  instanceTypes := #[]
  staticTypes := #[.int, .int, .boolean]
  resolved := Array.replicate 1029 none
  statics := none }

def pool4 : Array CpInfo := pool [(1, .methodref 2 3), (0, .class_ 4), (0, .nameAndType 5 6), (0, u "java/lang/Object"), (0, u "<init>"), (0, u "()V"), (0, .long 18446744073709551615), (1, .fieldref 10 11), (0, .class_ 12), (0, .nameAndType 13 14), (0, u "com/example/sindano/sindano/boyermoore/ShiftOr$Reading"), (0, u "through"), (0, u "J"), (0, .fieldref 10 16), (0, .nameAndType 17 18), (0, u "table"), (0, u "Lcom/example/sindano/sindano/boyermoore/ShiftOr;"), (0, .fieldref 20 21), (0, .class_ 22), (0, .nameAndType 23 24), (0, u "com/example/sindano/sindano/boyermoore/ShiftOr"), (0, u "missing"), (0, u "[J"), (0, .fieldref 20 26), (0, .nameAndType 27 14), (0, u "whole"), (0, .fieldref 29 30), (0, .class_ 31), (0, .nameAndType 32 14), (0, u "com/example/sindano/sindano/boyermoore/Stretches"), (0, u "window"), (0, .fieldref 10 34), (0, .nameAndType 35 14), (0, u "ending"), (0, .fieldref 20 37), (0, .nameAndType 38 39), (0, u "back"), (0, u "I"), (0, .fieldref 29 41), (0, .nameAndType 42 14), (0, u "made"), (0, u "(Lcom/example/sindano/sindano/boyermoore/ShiftOr;)V"), (2, u "exact"), (0, u "(Lcom/example/sindano/sindano/boyermoore/Stretches;[BJI)I")] 9

def k4c0 : Code := { maxStack := 3, maxLocals := 2, code := prog_47_method_1_code, exceptionTable := #[], attributes := #[] }
def k4m0 : Method := { name := "<init>", desc := "(Lcom/example/sindano/sindano/boyermoore/ShiftOr;)V", sig := { parameters := [(.object "com/example/sindano/sindano/boyermoore/ShiftOr")], returnType := none }, accessFlags := 0, code := some k4c0 }
def k4c1 : Code := { maxStack := 5, maxLocals := 15, code := prog_47_method_2_code, exceptionTable := #[], attributes := #[] }
def k4m1 : Method := { name := "exact", desc := "(Lcom/example/sindano/sindano/boyermoore/Stretches;[BJI)I", sig := { parameters := [(.object "com/example/sindano/sindano/boyermoore/Stretches"), (.array .byte), .long, .int], returnType := some .int }, accessFlags := 0, code := some k4c1 }
/-- com/example/sindano/sindano/boyermoore/ShiftOr$Reading -/
def k4 : Class := { plain "com/example/sindano/sindano/boyermoore/ShiftOr$Reading" (some 0) with
  accessFlags := 48
  interfaces := #[]
  cf := some (fileOf pool4 10 #[.nestHost 20] #[{ accessFlags := 0, nameIndex := 5, descriptorIndex := 43, attributes := #[] }, { accessFlags := 0, nameIndex := 46, descriptorIndex := 47, attributes := #[] }] 48 2 #[] #[{ accessFlags := 18, nameIndex := 17, descriptorIndex := 18, attributes := #[] }, { accessFlags := 2, nameIndex := 35, descriptorIndex := 14, attributes := #[] }, { accessFlags := 2, nameIndex := 13, descriptorIndex := 14, attributes := #[] }])
  fields := #[{ name := "table", type := (.object "com/example/sindano/sindano/boyermoore/ShiftOr"), accessFlags := 18, slot := 0, constantValue := 0 }, { name := "ending", type := .long, accessFlags := 2, slot := 1, constantValue := 0 }, { name := "through", type := .long, accessFlags := 2, slot := 2, constantValue := 0 }]
  methods := #[k4m0, k4m1]
  instanceTypes := #[(.object "com/example/sindano/sindano/boyermoore/ShiftOr"), .long, .long]
  staticTypes := #[]
  resolved := Array.replicate 57 none
  statics := none }

def pool5 : Array CpInfo := pool [(1, .methodref 2 3), (0, .class_ 4), (0, .nameAndType 5 6), (0, u "java/lang/Object"), (0, u "<init>"), (0, u "()V"), (0, .fieldref 8 9), (0, .class_ 10), (0, .nameAndType 11 12), (0, u "com/example/sindano/sindano/boyermoore/Stretches"), (0, u "skippedWhole"), (0, u "Z"), (0, .fieldref 8 14), (0, .nameAndType 15 16), (0, u "pause"), (0, u "I"), (0, .fieldref 18 19), (0, .class_ 20), (0, .nameAndType 21 22), (0, u "com/example/sindano/sindano/boyermoore/Stretches$Opening"), (0, u "CLASSIC"), (0, u "Lcom/example/sindano/sindano/boyermoore/Stretches$Opening;"), (0, .fieldref 8 24), (0, .nameAndType 25 22), (0, u "resting"), (0, .fieldref 8 27), (0, .nameAndType 28 29), (0, u "plan"), (0, u "Lcom/example/sindano/sindano/boyermoore/Stretches$Plan;"), (0, .fieldref 31 32), (0, .class_ 33), (0, .nameAndType 34 16), (0, u "com/example/sindano/sindano/boyermoore/Stretches$Plan"), (0, u "patternLength"), (0, .fieldref 8 36), (0, .nameAndType 37 38), (0, u "window"), (0, u "J"), (0, .methodref 31 40), (0, .nameAndType 41 42), (0, u "firstStretchEnd"), (0, u "()J"), (0, .fieldref 8 44), (0, .nameAndType 45 38), (0, u "stretchEnd"), (0, .fieldref 31 47), (0, .nameAndType 48 49), (0, u "opening"), (0, u "Lcom/example/sindano/sindano/boyermoore/Stretches$FastForm;"), (0, .fieldref 8 51), (0, .nameAndType 52 12), (0, u "seeking"), (3, .fieldref 8 57), (0, .nameAndType 58 22), (0, u "next"), (31, u "beganFast"), (2, u "tried"), (2, u "fast"), (2, u "exact"), (1, .class_ 103), (1, u "com/example/sindano/sindano/boyermoore/Stretches$FastForm"), (0, u "byEnds"), (5, u "known"), (2, u "compared"), (2, u "budget"), (5, u "growth"), (5, u "budgetFrom"), (16, u "accesses"), (2, u "made"), (6, u "classicWindows"), (5, u "restingByEnds"), (5, u "found"), (0, u "[I"), (16, u "pausing"), (21, u "due"), (2, u "handed"), (0, u "STRETCH"), (2, u "LONGEST_PAUSE"), (0, u "FIRST_QUEUE"), (1, u "FIXED"), (1, u "(Lcom/example/sindano/sindano/boyermoore/Stretches$Plan;)V")] 27

def k5c0 : Code := { maxStack := 3, maxLocals := 2, code := prog_48_method_1_code, exceptionTable := #[], attributes := #[] }
def k5m0 : Method := { name := "<init>", desc := "(Lcom/example/sindano/sindano/boyermoore/Stretches$Plan;)V", sig := { parameters := [(.object "com/example/sindano/sindano/boyermoore/Stretches$Plan")], returnType := none }, accessFlags := 0, code := some k5c0 }
/-- com/example/sindano/sindano/boyermoore/Stretches -/
def k5 : Class := { plain "com/example/sindano/sindano/boyermoore/Stretches" (some 0) with
  accessFlags := 32
  interfaces := #[]
  cf := some (fileOf pool5 8 #[.nestMembers #[18, 101, 31]] #[{ accessFlags := 0, nameIndex := 5, descriptorIndex := 219, attributes := #[] }] 32 2 #[] #[{ accessFlags := 26, nameIndex := 211, descriptorIndex := 16, attributes := #[] }, { accessFlags := 26, nameIndex := 214, descriptorIndex := 16, attributes := #[] }, { accessFlags := 26, nameIndex := 215, descriptorIndex := 16, attributes := #[] }, { accessFlags := 24, nameIndex := 217, descriptorIndex := 16, attributes := #[] }, { accessFlags := 18, nameIndex := 28, descriptorIndex := 29, attributes := #[] }, { accessFlags := 0, nameIndex := 37, descriptorIndex := 38, attributes := #[] }, { accessFlags := 0, nameIndex := 110, descriptorIndex := 16, attributes := #[] }, { accessFlags := 0, nameIndex := 45, descriptorIndex := 38, attributes := #[] }, { accessFlags := 0, nameIndex := 96, descriptorIndex := 12, attributes := #[] }, { accessFlags := 0, nameIndex := 99, descriptorIndex := 12, attributes := #[] }, { accessFlags := 0, nameIndex := 52, descriptorIndex := 12, attributes := #[] }, { accessFlags := 0, nameIndex := 104, descriptorIndex := 12, attributes := #[] }, { accessFlags := 0, nameIndex := 148, descriptorIndex := 38, attributes := #[] }, { accessFlags := 0, nameIndex := 155, descriptorIndex := 38, attributes := #[] }, { accessFlags := 0, nameIndex := 113, descriptorIndex := 16, attributes := #[] }, { accessFlags := 0, nameIndex := 116, descriptorIndex := 38, attributes := #[] }, { accessFlags := 0, nameIndex := 122, descriptorIndex := 16, attributes := #[] }, { accessFlags := 0, nameIndex := 128, descriptorIndex := 38, attributes := #[] }, { accessFlags := 2, nameIndex := 93, descriptorIndex := 49, attributes := #[] }, { accessFlags := 2, nameIndex := 90, descriptorIndex := 12, attributes := #[] }, { accessFlags := 2, nameIndex := 161, descriptorIndex := 12, attributes := #[] }, { accessFlags := 2, nameIndex := 11, descriptorIndex := 12, attributes := #[] }, { accessFlags := 2, nameIndex := 58, descriptorIndex := 22, attributes := #[] }, { accessFlags := 2, nameIndex := 145, descriptorIndex := 38, attributes := #[] }, { accessFlags := 2, nameIndex := 185, descriptorIndex := 16, attributes := #[] }, { accessFlags := 2, nameIndex := 15, descriptorIndex := 16, attributes := #[] }, { accessFlags := 2, nameIndex := 25, descriptorIndex := 22, attributes := #[] }, { accessFlags := 2, nameIndex := 167, descriptorIndex := 168, attributes := #[] }, { accessFlags := 2, nameIndex := 207, descriptorIndex := 16, attributes := #[] }, { accessFlags := 2, nameIndex := 210, descriptorIndex := 16, attributes := #[] }])
  fields := #[{ name := "STRETCH", type := .int, accessFlags := 26, slot := 0, constantValue := 0 }, { name := "LONGEST_PAUSE", type := .int, accessFlags := 26, slot := 1, constantValue := 0 }, { name := "FIRST_QUEUE", type := .int, accessFlags := 26, slot := 2, constantValue := 0 }, { name := "FIXED", type := .int, accessFlags := 24, slot := 3, constantValue := 0 }, { name := "plan", type := (.object "com/example/sindano/sindano/boyermoore/Stretches$Plan"), accessFlags := 18, slot := 0, constantValue := 0 }, { name := "window", type := .long, accessFlags := 0, slot := 1, constantValue := 0 }, { name := "known", type := .int, accessFlags := 0, slot := 2, constantValue := 0 }, { name := "stretchEnd", type := .long, accessFlags := 0, slot := 3, constantValue := 0 }, { name := "fast", type := .boolean, accessFlags := 0, slot := 4, constantValue := 0 }, { name := "exact", type := .boolean, accessFlags := 0, slot := 5, constantValue := 0 }, { name := "seeking", type := .boolean, accessFlags := 0, slot := 6, constantValue := 0 }, { name := "byEnds", type := .boolean, accessFlags := 0, slot := 7, constantValue := 0 }, { name := "made", type := .long, accessFlags := 0, slot := 8, constantValue := 0 }, { name := "classicWindows", type := .long, accessFlags := 0, slot := 9, constantValue := 0 }, { name := "compared", type := .int, accessFlags := 0, slot := 10, constantValue := 0 }, { name := "budget", type := .long, accessFlags := 0, slot := 11, constantValue := 0 }, { name := "growth", type := .int, accessFlags := 0, slot := 12, constantValue := 0 }, { name := "budgetFrom", type := .long, accessFlags := 0, slot := 13, constantValue := 0 }, { name := "tried", type := (.object "com/example/sindano/sindano/boyermoore/Stretches$FastForm"), accessFlags := 2, slot := 14, constantValue := 0 }, { name := "beganFast", type := .boolean, accessFlags := 2, slot := 15, constantValue := 0 }, { name := "restingByEnds", type := .boolean, accessFlags := 2, slot := 16, constantValue := 0 }, { name := "skippedWhole", type := .boolean, accessFlags := 2, slot := 17, constantValue := 0 }, { name := "next", type := (.object "com/example/sindano/sindano/boyermoore/Stretches$Opening"), accessFlags := 2, slot := 18, constantValue := 0 }, { name := "accesses", type := .long, accessFlags := 2, slot := 19, constantValue := 0 }, { name := "pausing", type := .int, accessFlags := 2, slot := 20, constantValue := 0 }, { name := "pause", type := .int, accessFlags := 2, slot := 21, constantValue := 0 }, { name := "resting", type := (.object "com/example/sindano/sindano/boyermoore/Stretches$Opening"), accessFlags := 2, slot := 22, constantValue := 0 }, { name := "found", type := (.array .int), accessFlags := 2, slot := 23, constantValue := 0 }, { name := "due", type := .int, accessFlags := 2, slot := 24, constantValue := 0 }, { name := "handed", type := .int, accessFlags := 2, slot := 25, constantValue := 0 }]
  methods := #[k5m0]
  instanceTypes := #[(.object "com/example/sindano/sindano/boyermoore/Stretches$Plan"), .long, .int, .long, .boolean, .boolean, .boolean, .boolean, .long, .long, .int, .long, .int, .long, (.object "com/example/sindano/sindano/boyermoore/Stretches$FastForm"), .boolean, .boolean, .boolean, (.object "com/example/sindano/sindano/boyermoore/Stretches$Opening"), .long, .int, .int, (.object "com/example/sindano/sindano/boyermoore/Stretches$Opening"), (.array .int), .int, .int]
  staticTypes := #[.int, .int, .int, .int]
  resolved := ((Array.replicate 247 none).setIfInBounds 30 (some (.field 6 0))).setIfInBounds 46 (some (.field 6 2))
  statics := none }

def pool6 : Array CpInfo := pool [(1, .class_ 2), (0, u "com/example/sindano/sindano/boyermoore/Stretches"), (0, .methodref 4 5), (0, .class_ 6), (0, .nameAndType 7 8), (0, u "java/lang/Object"), (0, u "<init>"), (0, u "()V"), (0, .fieldref 10 11), (0, .class_ 12), (0, .nameAndType 13 14), (0, u "com/example/sindano/sindano/boyermoore/Stretches$Plan"), (0, u "patternLength"), (0, u "I"), (0, .fieldref 10 16), (0, .nameAndType 17 18), (0, u "form"), (0, u "Lcom/example/sindano/sindano/boyermoore/Stretches$FastForm;"), (0, .fieldref 10 20), (0, .nameAndType 21 18), (0, u "opening"), (0, .fieldref 10 23), (0, .nameAndType 24 25), (0, u "exact"), (0, u "Z"), (0, .fieldref 10 27), (0, .nameAndType 28 14), (0, u "length"), (0, .fieldref 10 30), (0, .nameAndType 31 14), (0, u "fullSkips"), (0, .long 18446744073709551615), (7, .fieldref 10 41), (0, .nameAndType 42 43), (0, u "wholeBudget"), (0, u "J"), (0, .fieldref 10 45), (0, .nameAndType 46 14), (0, u "slowClassic"), (0, .fieldref 10 48), (0, .nameAndType 49 14), (0, u "slowerThanExact"), (0, u "(ILcom/example/sindano/sindano/boyermoore/Stretches$FastForm;Lcom/example/sindano/sindano/boyermoore/Stretches$FastForm;Z)V"), (3, u "firstStretchEnd"), (0, u "()J")] 6

def k6c0 : Code := { maxStack := 6, maxLocals := 5, code := prog_51_method_1_code, exceptionTable := #[], attributes := #[] }
def k6m0 : Method := { name := "<init>", desc := "(ILcom/example/sindano/sindano/boyermoore/Stretches$FastForm;Lcom/example/sindano/sindano/boyermoore/Stretches$FastForm;Z)V", sig := { parameters := [.int, (.object "com/example/sindano/sindano/boyermoore/Stretches$FastForm"), (.object "com/example/sindano/sindano/boyermoore/Stretches$FastForm"), .boolean], returnType := none }, accessFlags := 0, code := some k6c0 }
def k6c1 : Code := { maxStack := 4, maxLocals := 1, code := prog_51_method_2_code, exceptionTable := #[], attributes := #[] }
def k6m1 : Method := { name := "firstStretchEnd", desc := "()J", sig := { parameters := [], returnType := some .long }, accessFlags := 0, code := some k6c1 }
/-- com/example/sindano/sindano/boyermoore/Stretches$Plan -/
def k6 : Class := { plain "com/example/sindano/sindano/boyermoore/Stretches$Plan" (some 0) with
  accessFlags := 48
  interfaces := #[]
  cf := some (fileOf pool6 10 #[.nestHost 1] #[{ accessFlags := 0, nameIndex := 7, descriptorIndex := 50, attributes := #[] }, { accessFlags := 0, nameIndex := 54, descriptorIndex := 55, attributes := #[] }] 48 4 #[] #[{ accessFlags := 18, nameIndex := 13, descriptorIndex := 14, attributes := #[] }, { accessFlags := 18, nameIndex := 17, descriptorIndex := 18, attributes := #[] }, { accessFlags := 18, nameIndex := 21, descriptorIndex := 18, attributes := #[] }, { accessFlags := 18, nameIndex := 28, descriptorIndex := 14, attributes := #[] }, { accessFlags := 18, nameIndex := 31, descriptorIndex := 14, attributes := #[] }, { accessFlags := 18, nameIndex := 42, descriptorIndex := 43, attributes := #[] }, { accessFlags := 18, nameIndex := 24, descriptorIndex := 25, attributes := #[] }, { accessFlags := 18, nameIndex := 46, descriptorIndex := 14, attributes := #[] }, { accessFlags := 18, nameIndex := 49, descriptorIndex := 14, attributes := #[] }])
  fields := #[{ name := "patternLength", type := .int, accessFlags := 18, slot := 0, constantValue := 0 }, { name := "form", type := (.object "com/example/sindano/sindano/boyermoore/Stretches$FastForm"), accessFlags := 18, slot := 1, constantValue := 0 }, { name := "opening", type := (.object "com/example/sindano/sindano/boyermoore/Stretches$FastForm"), accessFlags := 18, slot := 2, constantValue := 0 }, { name := "length", type := .int, accessFlags := 18, slot := 3, constantValue := 0 }, { name := "fullSkips", type := .int, accessFlags := 18, slot := 4, constantValue := 0 }, { name := "wholeBudget", type := .long, accessFlags := 18, slot := 5, constantValue := 0 }, { name := "exact", type := .boolean, accessFlags := 18, slot := 6, constantValue := 0 }, { name := "slowClassic", type := .int, accessFlags := 18, slot := 7, constantValue := 0 }, { name := "slowerThanExact", type := .int, accessFlags := 18, slot := 8, constantValue := 0 }]
  methods := #[k6m0, k6m1]
  instanceTypes := #[.int, (.object "com/example/sindano/sindano/boyermoore/Stretches$FastForm"), (.object "com/example/sindano/sindano/boyermoore/Stretches$FastForm"), .int, .int, .long, .boolean, .int, .int]
  staticTypes := #[]
  resolved := Array.replicate 62 none
  statics := none }

def pool7 : Array CpInfo := pool [(1, .class_ 2), (0, u "java/lang/constant/Constable"), (0, .class_ 4), (0, u "java/lang/Object")] 6

/-- java/lang/constant/Constable -/
def k7 : Class := { plain "java/lang/constant/Constable" (some 0) with
  accessFlags := 1537
  interfaces := #[]
  cf := some (fileOf pool7 1 #[] #[] 1537 3 #[] #[])
  fields := #[]
  methods := #[]
  instanceTypes := #[]
  staticTypes := #[]
  resolved := Array.replicate 11 none
  statics := none }

def pool8 : Array CpInfo := pool [(1, .class_ 2), (0, u "java/lang/Comparable"), (0, .class_ 4), (0, u "java/lang/Object")] 7

/-- java/lang/Comparable -/
def k8 : Class := { plain "java/lang/Comparable" (some 0) with
  accessFlags := 1537
  interfaces := #[]
  cf := some (fileOf pool8 1 #[] #[] 1537 3 #[] #[])
  fields := #[]
  methods := #[]
  instanceTypes := #[]
  staticTypes := #[]
  resolved := Array.replicate 12 none
  statics := none }

def pool9 : Array CpInfo := pool [(1, .class_ 2), (0, u "java/io/Serializable"), (0, .class_ 4), (0, u "java/lang/Object")] 2

/-- java/io/Serializable -/
def k9 : Class := { plain "java/io/Serializable" (some 0) with
  accessFlags := 1537
  interfaces := #[]
  cf := some (fileOf pool9 1 #[] #[] 1537 3 #[] #[])
  fields := #[]
  methods := #[]
  instanceTypes := #[]
  staticTypes := #[]
  resolved := Array.replicate 7 none
  statics := none }

def pool10 : Array CpInfo := pool [(2, .class_ 4), (1, u "java/lang/Enum"), (0, u "name"), (0, u "Ljava/lang/String;"), (2, u "ordinal"), (0, u "I"), (1, .class_ 14), (1, u "java/lang/Object"), (4, u "hash"), (86, .class_ 108), (1, u "java/lang/Enum$EnumDesc"), (2, .class_ 112), (0, u "java/lang/constant/Constable"), (0, .class_ 114), (0, u "java/lang/Comparable"), (0, .class_ 116), (0, u "java/io/Serializable")] 87

/-- java/lang/Enum -/
def k10 : Class := { plain "java/lang/Enum" (some 0) with
  accessFlags := 1057
  interfaces := #[7, 8, 9]
  cf := some (fileOf pool10 2 #[.nestMembers #[106]] #[] 1057 12 #[111, 113, 115] #[{ accessFlags := 18, nameIndex := 5, descriptorIndex := 6, attributes := #[] }, { accessFlags := 18, nameIndex := 9, descriptorIndex := 10, attributes := #[] }, { accessFlags := 2, nameIndex := 19, descriptorIndex := 10, attributes := #[] }])
  fields := #[{ name := "name", type := (.object "java/lang/String"), accessFlags := 18, slot := 0, constantValue := 0 }, { name := "ordinal", type := .int, accessFlags := 18, slot := 1, constantValue := 0 }, { name := "hash", type := .int, accessFlags := 2, slot := 2, constantValue := 0 }]
  methods := #[]
  instanceTypes := #[(.object "java/lang/String"), .int, .int]
  staticTypes := #[]
  resolved := Array.replicate 204 none
  statics := none }

def pool11 : Array CpInfo := pool [(1, .class_ 2), (0, u "com/example/sindano/sindano/boyermoore/Stretches$Opening"), (2, u "CLASSIC"), (0, u "Lcom/example/sindano/sindano/boyermoore/Stretches$Opening;"), (2, u "FAST"), (2, u "EXACT"), (2, u "SEEKING"), (2, u "ENDS_THEN_CLASSIC"), (2, u "ENDS_THEN_EXACT"), (2, u "$VALUES"), (0, u "[Lcom/example/sindano/sindano/boyermoore/Stretches$Opening;"), (6, .class_ 34), (1, u "java/lang/Enum"), (8, u "endsForm"), (0, u "Lcom/example/sindano/sindano/boyermoore/Stretches$FastForm;"), (32, .class_ 78), (0, u "com/example/sindano/sindano/boyermoore/Stretches")] 3

/-- com/example/sindano/sindano/boyermoore/Stretches$Opening -/
def k11 : Class := { plain "com/example/sindano/sindano/boyermoore/Stretches$Opening" (some 10) with
  accessFlags := 16432
  interfaces := #[]
  cf := some (fileOf pool11 1 #[.nestHost 77] #[] 16432 32 #[] #[{ accessFlags := 16409, nameIndex := 5, descriptorIndex := 6, attributes := #[] }, { accessFlags := 16409, nameIndex := 9, descriptorIndex := 6, attributes := #[] }, { accessFlags := 16409, nameIndex := 12, descriptorIndex := 6, attributes := #[] }, { accessFlags := 16409, nameIndex := 15, descriptorIndex := 6, attributes := #[] }, { accessFlags := 16409, nameIndex := 18, descriptorIndex := 6, attributes := #[] }, { accessFlags := 16409, nameIndex := 21, descriptorIndex := 6, attributes := #[] }, { accessFlags := 18, nameIndex := 43, descriptorIndex := 44, attributes := #[] }, { accessFlags := 4122, nameIndex := 24, descriptorIndex := 25, attributes := #[] }])
  fields := #[{ name := "CLASSIC", type := (.object "com/example/sindano/sindano/boyermoore/Stretches$Opening"), accessFlags := 16409, slot := 0, constantValue := 0 }, { name := "FAST", type := (.object "com/example/sindano/sindano/boyermoore/Stretches$Opening"), accessFlags := 16409, slot := 1, constantValue := 0 }, { name := "EXACT", type := (.object "com/example/sindano/sindano/boyermoore/Stretches$Opening"), accessFlags := 16409, slot := 2, constantValue := 0 }, { name := "SEEKING", type := (.object "com/example/sindano/sindano/boyermoore/Stretches$Opening"), accessFlags := 16409, slot := 3, constantValue := 0 }, { name := "ENDS_THEN_CLASSIC", type := (.object "com/example/sindano/sindano/boyermoore/Stretches$Opening"), accessFlags := 16409, slot := 4, constantValue := 0 }, { name := "ENDS_THEN_EXACT", type := (.object "com/example/sindano/sindano/boyermoore/Stretches$Opening"), accessFlags := 16409, slot := 5, constantValue := 0 }, { name := "endsForm", type := (.object "com/example/sindano/sindano/boyermoore/Stretches$FastForm"), accessFlags := 18, slot := 3, constantValue := 0 }, { name := "$VALUES", type := (.array (.object "com/example/sindano/sindano/boyermoore/Stretches$Opening")), accessFlags := 4122, slot := 6, constantValue := 0 }]
  methods := #[]
  instanceTypes := #[(.object "java/lang/String"), .int, .int, (.object "com/example/sindano/sindano/boyermoore/Stretches$FastForm")]
  staticTypes := #[(.object "com/example/sindano/sindano/boyermoore/Stretches$Opening"), (.object "com/example/sindano/sindano/boyermoore/Stretches$Opening"), (.object "com/example/sindano/sindano/boyermoore/Stretches$Opening"), (.object "com/example/sindano/sindano/boyermoore/Stretches$Opening"), (.object "com/example/sindano/sindano/boyermoore/Stretches$Opening"), (.object "com/example/sindano/sindano/boyermoore/Stretches$Opening"), (.array (.object "com/example/sindano/sindano/boyermoore/Stretches$Opening"))]
  resolved := Array.replicate 82 none
  statics := some 0 }

def pool12 : Array CpInfo := pool [(1, u "java/lang/Cloneable"), (0, .class_ 1), (0, u "java/lang/Object"), (0, .class_ 3)] 3

/-- java/lang/Cloneable -/
def k12 : Class := { plain "java/lang/Cloneable" (some 0) with
  accessFlags := 1537
  interfaces := #[]
  cf := some (fileOf pool12 2 #[] #[] 1537 4 #[] #[])
  fields := #[]
  methods := #[]
  instanceTypes := #[]
  staticTypes := #[]
  resolved := Array.replicate 8 none
  statics := none }

/-- the primitive byte -/
def k13 : Class := { plain "byte" none with kind := .primitive 'B', accessFlags := 0x411 }
/-- [B -/
def k14 : Class := { plain "[B" (some 0) with kind := .array 13 .byte, interfaces := #[12, 9], accessFlags := 1041 }

/-- the primitive int -/
def k15 : Class := { plain "int" none with kind := .primitive 'I', accessFlags := 0x411 }
/-- [I -/
def k16 : Class := { plain "[I" (some 0) with kind := .array 15 .int, interfaces := #[12, 9], accessFlags := 1041 }

/-- the primitive long -/
def k17 : Class := { plain "long" none with kind := .primitive 'J', accessFlags := 0x411 }
/-- [J -/
def k18 : Class := { plain "[J" (some 0) with kind := .array 17 .long, interfaces := #[12, 9], accessFlags := 1041 }

def heap : Heap := #[{ cls := 11, slots := #[.ref 1, .null, .null, .null, .null, .null, .null], vm := .statics 11 },
  { cls := 11, slots := #[.null, .int 0, .int 0, .null], vm := .none }]
def classes : Array Class := #[k0, k1, k2, k3, k4, k5, k6, k7, k8, k9, k10, k11, k12, k13, k14, k15, k16, k17, k18]
def interned : List (Array UInt16 × Addr) := []
def slotsUsed : Nat := 11
def theMethod : MethodId := ⟨1, 4⟩
def args0 : Array Value := #[.int 5, .int 7, .long 9, .int 3, .int 4]
def aboutOver (below : List Frame) : State where
  vm := { classes := classes, interned := interned.toArray }
  heap := heap
  slotsUsed := slotsUsed
  threads := #[{ frames := .invoking theMethod args0 :: below }]
def below0 : List Frame := [.native { method := ⟨0, 0⟩, args := #[] }]
def about1 : State := aboutOver below0
def p0 : Program := .bare "" "" ""
def e0 : Env := launch0.env 0 0 0
theorem w_frames : about1.frames = Frame.invoking theMethod args0 :: below0 := rfl
set_option maxRecDepth 65536 in
theorem w_args : argsFit about1.vm theMethod args0 = true := by decide +kernel
set_option maxRecDepth 65536 in
theorem w_heap : heapFits about1 = true := by decide +kernel
set_option maxRecDepth 65536 in
theorem w_runnable : about1.curStatus? = some .runnable := by decide +kernel
set_option maxRecDepth 65536 in
theorem w_alone : about1.alone = true := by decide +kernel
set_option maxRecDepth 65536 in
theorem w_named : about1.methodNamed? x = some theMethod := by decide +kernel
set_option maxRecDepth 65536 in
theorem w_hears : about1.hears theMethod below0 = true := by decide +kernel
set_option maxRecDepth 65536 in
theorem w_ripe : about1.ripe theMethod args0 below0 = true := by decide +kernel
theorem w_running : about1.status = .running := rfl
set_option maxRecDepth 65536 in
theorem w_room : about1.hasRoom e0.platform room_1 = true :=
  launch0.hasRoom_least _ room_1 (by decide +kernel) (by decide +kernel) (by decide +kernel) (by decide +kernel) (by decide +kernel) (by decide +kernel)
theorem allAtoms_all (ts : List Jvm.Cond) (a : Array Jvm.Value) (st : Jvm.State) : (allAtoms ts).before a st = ts.all (fun c => c.before a st) := by
  induction ts with
  | nil => rfl
  | cons c t ih =>
    show (Jvm.Cond.and c (allAtoms t)).before a st = _
    rw [Jvm.Cond.before_and, ih, List.all_cons]
def words1 : List Jvm.Cond := Jvm.Cond.code x code maxLocals ret :: tables_1
/-- a 'code' word, met by the world's own term for the bytes: nothing is compared byte by byte -/
theorem code_word {y : MethodName} {bytes : ByteArray} {mx : Nat} {rt : Option FieldType} {a : Array Value} {s : State} {m : MethodId} {meth : Method} {c : Code} (h1 : s.methodNamed? y = some m) (h2 : s.vm.method? m = some meth) (h3 : meth.code = some c) (h4 : c.code = bytes)
    (h5 : (c.maxLocals == mx && c.exceptionTable.isEmpty && decide (c.maxStack ≤ mostOperands) && decide (meth.sig.returnType = rt) && !meth.locks && decide (parseMethodDescriptor y.desc = some meth.sig)) = true) : (Jvm.Cond.code y bytes mx rt).before a s = true := by
  simp only [Bool.and_eq_true, beq_iff_eq, Bool.not_eq_true', decide_eq_true_eq] at h5
  obtain ⟨⟨⟨⟨⟨g1, g2⟩, g3⟩, g4⟩, g5⟩, g6⟩ := h5
  simp [Cond.before, Cond.holds, Cond.value, h1, h2, h3, h4, g1, g2, g3, g4, g5, g6]
def isCode : Jvm.Cond → Bool
  | .code _ _ _ _ => true
  | _ => false
theorem all_split {L : List Jvm.Cond} {P : Jvm.Cond → Bool} (h1 : L.all (fun c => isCode c || P c) = true) (h2 : ∀ c ∈ L.filter isCode, P c = true) : L.all P = true := by
  refine List.all_eq_true.mpr fun c hc => ?_
  have h := List.all_eq_true.mp h1 c hc
  rcases Bool.eq_false_or_eq_true (isCode c) with hi | hi
  · exact h2 c (List.mem_filter.mpr ⟨hc, hi⟩)
  · simpa [hi] using h
set_option maxRecDepth 65536 in
theorem w_c0 : (Jvm.Cond.code x code maxLocals ret).before args0 about1 = true := code_word (m := ⟨1, 4⟩) (meth := k1m4) (c := k1c4) (by decide +kernel) rfl rfl rfl (by decide +kernel)
set_option maxRecDepth 65536 in
theorem w_c1 : (Jvm.Cond.code ({ cls := "com/example/sindano/sindano/boyermoore/ReadingExactPinLaw", name := "pick", desc := "(IIBB)B" } : Jvm.MethodName) method_2_code (4 : Nat) (Option.some Jvm.ClassFile.FieldType.byte)).before args0 about1 = true := code_word (m := ⟨1, 1⟩) (meth := k1m1) (c := k1c1) (by decide +kernel) rfl rfl rfl (by decide +kernel)
set_option maxRecDepth 65536 in
theorem w_c2 : (Jvm.Cond.code ({ cls := "com/example/sindano/sindano/boyermoore/ReadingExactPinLaw", name := "firstEnd", desc := "([B[BII)I" } : Jvm.MethodName) method_4_code (4 : Nat) (Option.some Jvm.ClassFile.FieldType.int)).before args0 about1 = true := code_word (m := ⟨1, 3⟩) (meth := k1m3) (c := k1c3) (by decide +kernel) rfl rfl rfl (by decide +kernel)
set_option maxRecDepth 65536 in
theorem w_c3 : (Jvm.Cond.code ({ cls := "com/example/sindano/sindano/boyermoore/ReadingExactPinLaw", name := "hit", desc := "([B[BIII)Z" } : Jvm.MethodName) method_3_code (5 : Nat) (Option.some Jvm.ClassFile.FieldType.boolean)).before args0 about1 = true := code_word (m := ⟨1, 2⟩) (meth := k1m2) (c := k1c2) (by decide +kernel) rfl rfl rfl (by decide +kernel)
set_option maxRecDepth 65536 in
theorem w_c4 : (Jvm.Cond.code ({ cls := "com/example/sindano/sindano/boyermoore/ShiftOr", name := "<init>", desc := "([B)V" } : Jvm.MethodName) prog_46_method_1_code (3 : Nat) (Option.none : Option Jvm.ClassFile.FieldType)).before args0 about1 = true := code_word (m := ⟨2, 0⟩) (meth := k2m0) (c := k2c0) (by decide +kernel) rfl rfl rfl (by decide +kernel)
set_option maxRecDepth 65536 in
theorem w_c5 : (Jvm.Cond.code ({ cls := "java/lang/Object", name := "<init>", desc := "()V" } : Jvm.MethodName) object_method_1_code (1 : Nat) (Option.none : Option Jvm.ClassFile.FieldType)).before args0 about1 = true := code_word (m := ⟨0, 0⟩) (meth := k0m0) (c := k0c0) (by decide +kernel) rfl rfl rfl (by decide +kernel)
set_option maxRecDepth 65536 in
theorem w_c6 : (Jvm.Cond.code ({ cls := "java/util/Arrays", name := "fill", desc := "([JJ)V" } : Jvm.MethodName) jdk_65_method_101_code (5 : Nat) (Option.none : Option Jvm.ClassFile.FieldType)).before args0 about1 = true := code_word (m := ⟨3, 1⟩) (meth := k3m1) (c := k3c1) (by decide +kernel) rfl rfl rfl (by decide +kernel)
set_option maxRecDepth 65536 in
theorem w_c7 : (Jvm.Cond.code ({ cls := "com/example/sindano/sindano/boyermoore/ShiftOr$Reading", name := "<init>", desc := "(Lcom/example/sindano/sindano/boyermoore/ShiftOr;)V" } : Jvm.MethodName) prog_47_method_1_code (2 : Nat) (Option.none : Option Jvm.ClassFile.FieldType)).before args0 about1 = true := code_word (m := ⟨4, 0⟩) (meth := k4m0) (c := k4c0) (by decide +kernel) rfl rfl rfl (by decide +kernel)
set_option maxRecDepth 65536 in
theorem w_c8 : (Jvm.Cond.code ({ cls := "com/example/sindano/sindano/boyermoore/Stretches$Plan", name := "<init>", desc := "(ILcom/example/sindano/sindano/boyermoore/Stretches$FastForm;Lcom/example/sindano/sindano/boyermoore/Stretches$FastForm;Z)V" } : Jvm.MethodName) prog_51_method_1_code (5 : Nat) (Option.none : Option Jvm.ClassFile.FieldType)).before args0 about1 = true := code_word (m := ⟨6, 0⟩) (meth := k6m0) (c := k6c0) (by decide +kernel) rfl rfl rfl (by decide +kernel)
set_option maxRecDepth 65536 in
theorem w_c9 : (Jvm.Cond.code ({ cls := "com/example/sindano/sindano/boyermoore/Stretches", name := "<init>", desc := "(Lcom/example/sindano/sindano/boyermoore/Stretches$Plan;)V" } : Jvm.MethodName) prog_48_method_1_code (2 : Nat) (Option.none : Option Jvm.ClassFile.FieldType)).before args0 about1 = true := code_word (m := ⟨5, 0⟩) (meth := k5m0) (c := k5c0) (by decide +kernel) rfl rfl rfl (by decide +kernel)
set_option maxRecDepth 65536 in
theorem w_c10 : (Jvm.Cond.code ({ cls := "com/example/sindano/sindano/boyermoore/Stretches$Plan", name := "firstStretchEnd", desc := "()J" } : Jvm.MethodName) prog_51_method_2_code (1 : Nat) (Option.some Jvm.ClassFile.FieldType.long)).before args0 about1 = true := code_word (m := ⟨6, 1⟩) (meth := k6m1) (c := k6c1) (by decide +kernel) rfl rfl rfl (by decide +kernel)
set_option maxRecDepth 65536 in
theorem w_c11 : (Jvm.Cond.code ({ cls := "com/example/sindano/sindano/boyermoore/ShiftOr$Reading", name := "exact", desc := "(Lcom/example/sindano/sindano/boyermoore/Stretches;[BJI)I" } : Jvm.MethodName) prog_47_method_2_code (15 : Nat) (Option.some Jvm.ClassFile.FieldType.int)).before args0 about1 = true := code_word (m := ⟨4, 1⟩) (meth := k4m1) (c := k4c1) (by decide +kernel) rfl rfl rfl (by decide +kernel)
def codes1 : List Jvm.Cond := [Jvm.Cond.code x code maxLocals ret, Jvm.Cond.code ({ cls := "com/example/sindano/sindano/boyermoore/ReadingExactPinLaw", name := "pick", desc := "(IIBB)B" } : Jvm.MethodName) method_2_code (4 : Nat) (Option.some Jvm.ClassFile.FieldType.byte), Jvm.Cond.code ({ cls := "com/example/sindano/sindano/boyermoore/ReadingExactPinLaw", name := "firstEnd", desc := "([B[BII)I" } : Jvm.MethodName) method_4_code (4 : Nat) (Option.some Jvm.ClassFile.FieldType.int), Jvm.Cond.code ({ cls := "com/example/sindano/sindano/boyermoore/ReadingExactPinLaw", name := "hit", desc := "([B[BIII)Z" } : Jvm.MethodName) method_3_code (5 : Nat) (Option.some Jvm.ClassFile.FieldType.boolean), Jvm.Cond.code ({ cls := "com/example/sindano/sindano/boyermoore/ShiftOr", name := "<init>", desc := "([B)V" } : Jvm.MethodName) prog_46_method_1_code (3 : Nat) (Option.none : Option Jvm.ClassFile.FieldType), Jvm.Cond.code ({ cls := "java/lang/Object", name := "<init>", desc := "()V" } : Jvm.MethodName) object_method_1_code (1 : Nat) (Option.none : Option Jvm.ClassFile.FieldType), Jvm.Cond.code ({ cls := "java/util/Arrays", name := "fill", desc := "([JJ)V" } : Jvm.MethodName) jdk_65_method_101_code (5 : Nat) (Option.none : Option Jvm.ClassFile.FieldType), Jvm.Cond.code ({ cls := "com/example/sindano/sindano/boyermoore/ShiftOr$Reading", name := "<init>", desc := "(Lcom/example/sindano/sindano/boyermoore/ShiftOr;)V" } : Jvm.MethodName) prog_47_method_1_code (2 : Nat) (Option.none : Option Jvm.ClassFile.FieldType), Jvm.Cond.code ({ cls := "com/example/sindano/sindano/boyermoore/Stretches$Plan", name := "<init>", desc := "(ILcom/example/sindano/sindano/boyermoore/Stretches$FastForm;Lcom/example/sindano/sindano/boyermoore/Stretches$FastForm;Z)V" } : Jvm.MethodName) prog_51_method_1_code (5 : Nat) (Option.none : Option Jvm.ClassFile.FieldType), Jvm.Cond.code ({ cls := "com/example/sindano/sindano/boyermoore/Stretches", name := "<init>", desc := "(Lcom/example/sindano/sindano/boyermoore/Stretches$Plan;)V" } : Jvm.MethodName) prog_48_method_1_code (2 : Nat) (Option.none : Option Jvm.ClassFile.FieldType), Jvm.Cond.code ({ cls := "com/example/sindano/sindano/boyermoore/Stretches$Plan", name := "firstStretchEnd", desc := "()J" } : Jvm.MethodName) prog_51_method_2_code (1 : Nat) (Option.some Jvm.ClassFile.FieldType.long), Jvm.Cond.code ({ cls := "com/example/sindano/sindano/boyermoore/ShiftOr$Reading", name := "exact", desc := "(Lcom/example/sindano/sindano/boyermoore/Stretches;[BJI)I" } : Jvm.MethodName) prog_47_method_2_code (15 : Nat) (Option.some Jvm.ClassFile.FieldType.int)]
set_option maxRecDepth 65536 in
theorem codes_eq : words1.filter isCode = codes1 := rfl
theorem w_codes : ∀ c ∈ words1.filter isCode, c.before args0 about1 = true := by
  rw [codes_eq]
  intro c hc
  simp only [codes1, List.mem_cons, List.not_mem_nil, or_false] at hc
  rcases hc with rfl | rfl | rfl | rfl | rfl | rfl | rfl | rfl | rfl | rfl | rfl | rfl
  · exact w_c0
  · exact w_c1
  · exact w_c2
  · exact w_c3
  · exact w_c4
  · exact w_c5
  · exact w_c6
  · exact w_c7
  · exact w_c8
  · exact w_c9
  · exact w_c10
  · exact w_c11
set_option maxRecDepth 65536 in
theorem w_t1 : (words1.take 24).all (fun c => isCode c || c.before args0 about1) = true := by decide +kernel
set_option maxRecDepth 65536 in
theorem w_t2 : ((words1.drop 24).take 24).all (fun c => isCode c || c.before args0 about1) = true := by decide +kernel
set_option maxRecDepth 65536 in
theorem w_t3 : (((words1.drop 24).drop 24).take 24).all (fun c => isCode c || c.before args0 about1) = true := by decide +kernel
set_option maxRecDepth 65536 in
theorem w_t4 : ((((words1.drop 24).drop 24).drop 24).take 24).all (fun c => isCode c || c.before args0 about1) = true := by decide +kernel
set_option maxRecDepth 65536 in
theorem w_t5 : (((((words1.drop 24).drop 24).drop 24).drop 24).take 24).all (fun c => isCode c || c.before args0 about1) = true := by decide +kernel
set_option maxRecDepth 65536 in
theorem w_t6 : (((((words1.drop 24).drop 24).drop 24).drop 24).drop 24).all (fun c => isCode c || c.before args0 about1) = true := by decide +kernel
theorem w_tables : (allAtoms (Jvm.Cond.code x code maxLocals ret :: tables_1)).before args0 about1 = true := by
  rw [allAtoms_all]
  show words1.all (fun c => c.before args0 about1) = true
  refine all_split ?_ w_codes
  rw [← List.take_append_drop 24 words1, List.all_append, w_t1, ← List.take_append_drop 24 (words1.drop 24), List.all_append, w_t2, ← List.take_append_drop 24 ((words1.drop 24).drop 24), List.all_append, w_t3, ← List.take_append_drop 24 (((words1.drop 24).drop 24).drop 24), List.all_append, w_t4, ← List.take_append_drop 24 ((((words1.drop 24).drop 24).drop 24).drop 24), List.all_append, w_t5, w_t6]
  rfl
set_option maxRecDepth 65536 in
theorem w_case : (Jvm.Cond.and given_1 narrow_1).before args0 about1 = true := by decide +kernel
theorem w_applies : (headSpec (Jvm.Cond.code x code maxLocals ret :: tables_1) room_1).applies x e0.platform about1 = true :=
  (Spec.applies_iff w_frames).mpr ⟨w_running, w_runnable, w_alone, w_named, w_hears, w_ripe, w_room, w_tables⟩
theorem atStart : AtStart classFile x code maxLocals ret World_1 tables_1 room_1 Calls_1 rest_1 Pre_1 launch0 p0 e0 about1 theMethod args0 below0 :=
  ⟨lists_1, trivial, launch0.admits_env _ _ _, launch0.least_env, fairChoices_fair.cas, fairChoices_fair.clock, w_frames, w_args, w_heap, w_applies, trivial, trivial, w_case⟩
end start1
theorem witness_1 : WitnessClaimed_1 := ⟨start1.p0, start1.e0, start1.about1, start1.theMethod, start1.args0, start1.below0, start1.atStart⟩
end Jvm.Pilot.@@N@@
