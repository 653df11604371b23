import JvmDerived
import JvmDerived.Pilot.@@N@@Statement
import JvmDerived.Pilot.@@N@@Code
set_option linter.unusedVariables false
set_option linter.unusedSimpArgs false
namespace Jvm.Pilot.@@N@@
open Jvm Jvm.ClassFile Sem Op Lib Jvm.Free Jvm.Stand Jvm.LawKit Jvm.RoadKit Bundle Jvm.Pilot.@@N@@.Jvm.D

section OwnEnds
variable {p : Program} {l : Launch} {e : Env} {R : Room} {s : State} {m : MethodId} {args : Array Value} {below : List Frame} {meth : Method} {c : Code} {T : State} {locs : List Loc} {cells slots : Nat}
/-- from here the body comes to its end, returns, and leaves what Q says -/
def Ends (p : Program) (e : Env) (below : List Frame) (s T : State) (g : JFrame) (kc ks : Nat) (Q : Option Value → Heap → List Loc → Prop) : Prop :=
  ∃ s₂ o, Steps p.tables e below (T.setTop g) s₂ ∧ s₂.status = .running ∧ Ended s₂ below o ∧ ∃ v L, o = .returned v ∧ Q v s₂.heap L ∧ FrameEnd s o s₂ L kc ks
theorem Ends.go {T' : State} {g g' : JFrame} {kc ks : Nat} {Q : Option Value → Heap → List Loc → Prop} (h : ∀ target, Steps p.tables e below (T'.setTop g') target → Steps p.tables e below (T.setTop g) target) (k : Ends p e below s T' g' kc ks Q) : Ends p e below s T g kc ks Q := by
  obtain ⟨s₂, o, h1, h2⟩ := k
  exact ⟨s₂, o, h _ h1, h2⟩
theorem Ends.ret (X : Stand p l e R s m args below meth c T locs cells slots) (hx : p.tables.exec = Jvm.exec) (hlocks : meth.locks = false) {pc : Nat} {Ls : Array Slot} {w : Value} {t : FieldType} {i : Instr} {rest : List Value} (hret : meth.sig.returnType = some t) (hn : narrow t w = w)
    (hi : (i = .ireturn ∧ (t = .int ∨ t = .boolean ∨ t = .byte ∨ t = .char ∨ t = .short) ∧ ∃ z, w = .int z) ∨ (i = .lreturn ∧ t = .long ∧ ∃ z, w = .long z) ∨ (i = .dreturn ∧ t = .double ∧ ∃ z, w = .double z) ∨ (i = .freturn ∧ t = .float ∧ ∃ z, w = .float z) ∨ (i = .areturn ∧ t.isReference = true ∧ w.isRef = true))
    (hd : decode c.code pc = .ok (i, 1)) {kc ks : Nat} {Q : Option Value → Heap → List Loc → Prop} (hc : cells ≤ kc) (hs : slots ≤ ks) (hq : Q (some w) T.heap locs) : Ends p e below s T (mkF m pc Ls (w :: rest)) kc ks Q := by
  obtain ⟨fs, hr, hrun, hended, hW, hsame⟩ := X.leave (v := some w) (fun h => by rw [hret] at h; cases h) hlocks
  exact ⟨_, _, retOut X hx hret hn hi hd hr, hrun, hended, _, _, rfl, hq, ⟨_, rfl⟩, hW, hsame.mono hc hs⟩
theorem Ends.retZ (X : Stand p l e R s m args below meth c T locs cells slots) (hx : p.tables.exec = Jvm.exec) (hlocks : meth.locks = false) {pc : Nat} {Ls : Array Slot} {z : Int32} {t : FieldType} {rest : List Value} (hret : meth.sig.returnType = some t) (ht : t = .boolean ∨ t = .byte ∨ t = .char ∨ t = .short)
    (hd : decode c.code pc = .ok (.ireturn, 1)) {kc ks : Nat} {Q : Option Value → Heap → List Loc → Prop} (hc : cells ≤ kc) (hs : slots ≤ ks) (hq : Q (some (.int (nar t z))) T.heap locs) : Ends p e below s T (mkF m pc Ls (.int z :: rest)) kc ks Q := by
  obtain ⟨fs, hr, hrun, hended, hW, hsame⟩ := X.leave (v := some (.int (nar t z))) (fun h => by rw [hret] at h; cases h) hlocks
  exact ⟨_, _, retN X hx hret ht hd hr, hrun, hended, _, _, rfl, hq, ⟨_, rfl⟩, hW, hsame.mono hc hs⟩
theorem Ends.retV (X : Stand p l e R s m args below meth c T locs cells slots) (hx : p.tables.exec = Jvm.exec) (hlocks : meth.locks = false) {pc : Nat} {Ls : Array Slot} (hret : meth.sig.returnType = none)
    (hd : decode c.code pc = .ok (.return_, 1)) {kc ks : Nat} {Q : Option Value → Heap → List Loc → Prop} (hc : cells ≤ kc) (hs : slots ≤ ks) (hq : Q none T.heap locs) : Ends p e below s T (mkF m pc Ls []) kc ks Q := by
  obtain ⟨fs, hr, hrun, hended, hW, hsame⟩ := X.leave (v := none) (fun _ => rfl) hlocks
  exact ⟨_, _, X.returnOut hx hret hd hr, hrun, hended, _, _, rfl, hq, ⟨_, rfl⟩, hW, hsame.mono hc hs⟩
end OwnEnds
abbrev Meets1 (l : Launch) (y : MethodName) (bytes : ByteArray) (ml : Nat) (rt : Option FieldType) (ws : List Jvm.Cond) (rm : Room) (av : Array Value) (Z : State) (h0 : Heap) (Q : Option Value → Heap → List Loc → Prop) : Prop :=
  MetFree l y (head1 (Jvm.Cond.code y bytes ml rt :: ws) rm) (fun a U => a = av ∧ Z.Warmed39 U.vm ∧ U.heap = h0) (fun _ _ _ _ _ => True) (fun _ U o U' => ∃ v L, o = .returned v ∧ Q v U'.heap L ∧ FrameEnd U o U' L rm.cells rm.slots)
theorem own_backOf {p : Program} {l : Launch} {e : Env} {R : Room} {s : State} {args : Array Value} {below : List Frame} {Z : State} {a0 : Array Value} {h : Heap} {y : MethodName} {bytes : ByteArray} {maxL : Nat} {ret : Option FieldType} {rm : Room} {len W : Nat} {as' : Array Value} {Q : Option Value → Heap → List Loc → Prop}
    (hM : Meets1 l y bytes maxL ret [] rm as' Z h Q) (hZ : Z.Warmed39 s.vm) (wc : (Jvm.Cond.code y bytes maxL ret).before a0 Z = true) (wz : (Jvm.Cond.initialized y.cls).before a0 Z = true) (hf : rm.frames + 1 ≤ R.frames) (hl : W + (maxL + 11) + rm.locals ≤ R.locals) :
    Back l R p e below s args y len W (fun A a => a = as' ∧ A.U.heap = h ∧ A.cells + rm.cells ≤ R.cells ∧ A.slots + rm.slots ≤ R.slots)
      (fun A _ v B => ∃ L, Q v B.U.heap L ∧ B.locs = A.locs ++ L ∧ B.cells = A.cells + rm.cells ∧ B.slots = A.slots + rm.slots) := backOf (Q := Q) hM hZ wc wz hf hl
theorem own_old_le {Z : State} {n0 : Nat} {h : Heap} (O : Old Z n0 h) : n0 ≤ h.size := O.1 ▸ O.2.1
theorem own_eqI {args : Array Value} {s : State} {t : Term} {k : Int32} (h : (Jvm.Cond.eq t (.int k)).value args s none s [] = some true) : t.eval args s none [] s = some (.int k) := by
  cases ht : t.eval args s none [] s with
  | none => simp [Cond.value, ht] at h
  | some x => cases x <;> simp_all [Cond.value, Term.eval]
theorem own_and3 (p0 i : Int32) (h : (p0 &&& (3 : Int32)) = i) : i = 0 ∨ i = 1 ∨ i = 2 ∨ i = 3 := by
  have h1 : 0 ≤ (p0 &&& (3 : Int32)).toInt ∧ (p0 &&& (3 : Int32)).toInt ≤ 3 := c_and p0 3 (by decide)
  rw [h] at h1
  have h3 : i.toInt = 0 ∨ i.toInt = 1 ∨ i.toInt = 2 ∨ i.toInt = 3 := by omega
  rcases h3 with q | q | q | q
  · exact Or.inl (Int32.toInt_inj.mp q)
  · exact Or.inr (Or.inl (Int32.toInt_inj.mp q))
  · exact Or.inr (Or.inr (Or.inl (Int32.toInt_inj.mp q)))
  · exact Or.inr (Or.inr (Or.inr (Int32.toInt_inj.mp q)))
theorem own_w (q : Int64) : 0 ≤ (q &&& (9223372036854775807 : Int64)).toInt := by
  have h := c_maskL q 9223372036854775807 63 (by decide) (by decide)
  rw [h]; omega
theorem own_d (q : Int64) : ((q &&& (9223372036854775807 : Int64)) / (2 : Int64)).toInt = (q &&& (9223372036854775807 : Int64)).toInt / 2 :=
  (c_ldiv _ 2 2 (by decide) (by decide)).1 (own_w q)
theorem own_rest (q : Int64) : ((q &&& (9223372036854775807 : Int64)) - ((2 : Int64) * ((q &&& (9223372036854775807 : Int64)) / (2 : Int64)))).toInt = (q &&& (9223372036854775807 : Int64)).toInt % 2 := by
  have h1 := own_w q
  have h2 := own_d q
  have h3 := rng64 (q &&& (9223372036854775807 : Int64))
  have h4 := c_lmul 2 ((q &&& (9223372036854775807 : Int64)) / (2 : Int64))
  have h5 := c_lsub (q &&& (9223372036854775807 : Int64)) ((2 : Int64) * ((q &&& (9223372036854775807 : Int64)) / (2 : Int64)))
  have h6 := rng64 ((2 : Int64) * ((q &&& (9223372036854775807 : Int64)) / (2 : Int64)))
  have h7 := rng64 ((q &&& (9223372036854775807 : Int64)) - ((2 : Int64) * ((q &&& (9223372036854775807 : Int64)) / (2 : Int64))))
  have h8 : (2 : Int64).toInt = 2 := by decide
  rw [h8] at h4
  omega
theorem own_b0 (q : Int64) : ¬ (lcmpW ((q &&& (9223372036854775807 : Int64)) / (2 : Int64)) (0 : Int64)) < (0 : Int32) := by
  rw [lw_lt, Int64.lt_iff_toInt_lt, own_d]
  have := own_w q
  have h8 : (0 : Int64).toInt = 0 := by decide
  omega
theorem own_r0 (q : Int64) : ¬ (lcmpW ((q &&& (9223372036854775807 : Int64)) - ((2 : Int64) * ((q &&& (9223372036854775807 : Int64)) / (2 : Int64)))) (0 : Int64)) < (0 : Int32) := by
  rw [lw_lt, Int64.lt_iff_toInt_lt, own_rest]
  have h8 : (0 : Int64).toInt = 0 := by decide
  omega
theorem own_r1 (q : Int64) : ¬ (0 : Int32) < (lcmpW ((q &&& (9223372036854775807 : Int64)) - ((2 : Int64) * ((q &&& (9223372036854775807 : Int64)) / (2 : Int64)))) (1 : Int64)) := by
  rw [lw_gt, Int64.lt_iff_toInt_lt, own_rest]
  have h8 : (1 : Int64).toInt = 1 := by decide
  omega
def Facts (Z : State) (w_ENDS_THEN_CLASSIC : Addr) (w_PAIRS : Addr) (w_ENDS : Addr) (w_ENDS_THEN_EXACT : Addr) : Prop :=
  Sta Z Z.heap "com/example/sindano/sindano/boyermoore/Stretches$FastForm" "ENDS_THEN_CLASSIC" "Lcom/example/sindano/sindano/boyermoore/Stretches$FastForm;" (.ref w_ENDS_THEN_CLASSIC) ∧
  Exa Z Z.heap w_ENDS_THEN_CLASSIC "com/example/sindano/sindano/boyermoore/Stretches$FastForm" ∧
  Sta Z Z.heap "com/example/sindano/sindano/boyermoore/Stretches$FastForm" "PAIRS" "Lcom/example/sindano/sindano/boyermoore/Stretches$FastForm;" (.ref w_PAIRS) ∧
  Exa Z Z.heap w_PAIRS "com/example/sindano/sindano/boyermoore/Stretches$FastForm" ∧
  Fld Z Z.heap w_ENDS_THEN_CLASSIC "java/lang/Enum" "ordinal" "I" (.int (1 : Int32)) ∧
  Fld Z Z.heap w_PAIRS "java/lang/Enum" "ordinal" "I" (.int (3 : Int32)) ∧
  Sta Z Z.heap "com/example/sindano/sindano/boyermoore/Stretches$FastForm" "ENDS" "Lcom/example/sindano/sindano/boyermoore/Stretches$FastForm;" (.ref w_ENDS) ∧
  Exa Z Z.heap w_ENDS "com/example/sindano/sindano/boyermoore/Stretches$FastForm" ∧
  Fld Z Z.heap w_ENDS "java/lang/Enum" "ordinal" "I" (.int (0 : Int32)) ∧
  Sta Z Z.heap "com/example/sindano/sindano/boyermoore/Stretches$FastForm" "ENDS_THEN_EXACT" "Lcom/example/sindano/sindano/boyermoore/Stretches$FastForm;" (.ref w_ENDS_THEN_EXACT) ∧
  Exa Z Z.heap w_ENDS_THEN_EXACT "com/example/sindano/sindano/boyermoore/Stretches$FastForm" ∧
  Fld Z Z.heap w_ENDS_THEN_EXACT "java/lang/Enum" "ordinal" "I" (.int (2 : Int32))
theorem d1_0 : decode method_2_code 0 = .ok (.iload_n 0, 1) := by decide +kernel
theorem d1_1 : decode method_2_code 1 = .ok (.iconst 3, 1) := by decide +kernel
theorem d1_2 : decode method_2_code 2 = .ok (.iand, 1) := by decide +kernel
theorem d1_3 : decode method_2_code 3 = .ok (.istore_n 1, 1) := by decide +kernel
theorem d1_4 : decode method_2_code 4 = .ok (.iload_n 1, 1) := by decide +kernel
theorem d1_5 : decode method_2_code 5 = .ok (.ifCond .ne 7, 3) := by decide +kernel
theorem d1_8 : decode method_2_code 8 = .ok (.getstatic 7, 3) := by decide +kernel
theorem d1_11 : decode method_2_code 11 = .ok (.areturn, 1) := by decide +kernel
theorem d1_12 : decode method_2_code 12 = .ok (.iload_n 1, 1) := by decide +kernel
theorem d1_13 : decode method_2_code 13 = .ok (.iconst 1, 1) := by decide +kernel
theorem d1_14 : decode method_2_code 14 = .ok (.if_icmp .ne 7, 3) := by decide +kernel
theorem d1_17 : decode method_2_code 17 = .ok (.getstatic 13, 3) := by decide +kernel
theorem d1_20 : decode method_2_code 20 = .ok (.areturn, 1) := by decide +kernel
theorem d1_21 : decode method_2_code 21 = .ok (.iload_n 1, 1) := by decide +kernel
theorem d1_22 : decode method_2_code 22 = .ok (.iconst 2, 1) := by decide +kernel
theorem d1_23 : decode method_2_code 23 = .ok (.if_icmp .ne 7, 3) := by decide +kernel
theorem d1_26 : decode method_2_code 26 = .ok (.getstatic 16, 3) := by decide +kernel
theorem d1_29 : decode method_2_code 29 = .ok (.areturn, 1) := by decide +kernel
theorem d1_30 : decode method_2_code 30 = .ok (.getstatic 19, 3) := by decide +kernel
theorem d1_33 : decode method_2_code 33 = .ok (.areturn, 1) := by decide +kernel
theorem pn1 : plainName "com/example/sindano/sindano/boyermoore/FastFormBudgetPinLaw" = true := by first | (simp [plainName, overriddenIn]; done) | decide +kernel
theorem ef1 (m : MethodId) (p0 : Int32) : entryFrame m #[(.int p0)] 2 = mkF m 0 #[.val (.int p0), .unset] [] := by first | (simp [entryFrame, mkF, argsToLocals, Value.category]; done) | rfl
set_option maxRecDepth 65536 in
set_option maxHeartbeats 40000000 in
theorem rmP (l : Launch) (Z : State) (a0 : Array Value) (hw : ∀ d ∈ tables_1, d.before a0 Z = true) (ws : List Jvm.Cond) (n0 : Nat) (h0 : Heap) (O0 : Old Z n0 h0) (p0 : Int32) (w_ENDS_THEN_CLASSIC : Addr) (w_PAIRS : Addr) (w_ENDS : Addr) (w_ENDS_THEN_EXACT : Addr) (FF : Facts Z w_ENDS_THEN_CLASSIC w_PAIRS w_ENDS w_ENDS_THEN_EXACT) (r : Addr) (hr : r = if (p0 &&& (3 : Int32)) = 0 then w_ENDS else if (p0 &&& (3 : Int32)) = 1 then w_ENDS_THEN_CLASSIC else if (p0 &&& (3 : Int32)) = 2 then w_ENDS_THEN_EXACT else w_PAIRS) :
    Meets1 l (⟨"com/example/sindano/sindano/boyermoore/FastFormBudgetPinLaw", "pick", "(I)Lcom/example/sindano/sindano/boyermoore/Stretches$FastForm;"⟩ : MethodName) method_2_code 2 (some (.object "com/example/sindano/sindano/boyermoore/Stretches$FastForm")) ws ({ frames := 0, cells := 0, slots := 0, locals := 0 } : Room) #[(.int p0)] Z h0 (fun v h L => v = some (.ref r) ∧ Fr n0 L ∧ h = h0) := by
  refine MetFree.of_bodySF (plainFor_of_name pn1) hisR ?_
  intro p e s m args below meth c s₁ Bd hml0 hP hK
  obtain ⟨rfl, hZ, hh⟩ := hP
  have hx := Bd.exec
  have hby := Bd.bytes
  have hml : c.maxLocals = 2 := hml0
  have hown : s.vm.findClass "com/example/sindano/sindano/boyermoore/FastFormBudgetPinLaw" = some m.cls := findClass_of_methodNamed Bd.named
  have hnm := (name_of_methodNamed Bd.named Bd.method).1
  have X0 : Stand p l e ({ frames := 0, cells := 0, slots := 0, locals := 0 } : Room) s m #[(.int p0)] below meth c s₁ [] 0 0 := Stand.of_body Bd
  have e0 : s₁.heap = h0 := by rw [← hh, Bd.state]; rfl
  have N0 := Fr.nil n0
  have Z0 := own_old_le O0
  show Ends p e below s s₁ (entryFrame m #[(.int p0)] 2) ({ frames := 0, cells := 0, slots := 0, locals := 0 } : Room).cells ({ frames := 0, cells := 0, slots := 0, locals := 0 } : Room).slots (fun v h L => v = some (.ref r) ∧ Fr n0 L ∧ h = h0)
  refine Ends.go (fun _ k => castTop (ef1 m p0) k) ?_
  have K0 := Keep.refl h0 []
  have FF0 := FF
  obtain ⟨S_ENDS_THEN_CLASSIC, E_ENDS_THEN_CLASSIC, S_PAIRS, E_PAIRS, F_ordinal_ENDS_THEN_CLASSIC, F_ordinal_PAIRS, S_ENDS, E_ENDS, F_ordinal_ENDS, S_ENDS_THEN_EXACT, E_ENDS_THEN_EXACT, F_ordinal_ENDS_THEN_EXACT⟩ := FF
  show Ends p e below s s₁ (mkF m 0 #[.val (.int p0), .unset] []) _ _ _
  refine Ends.go (fun _ k => XS.iloadN X0.here hx rfl (hb hby d1_0) rfl k) ?_
  show Ends p e below s s₁ (mkF m 1 #[.val (.int p0), .unset] [(.int p0)]) _ _ _
  refine Ends.go (fun _ k => XS.iconst X0.here hx rfl (hb hby d1_1) k) ?_
  show Ends p e below s s₁ (mkF m 2 #[.val (.int p0), .unset] [(.int (3 : Int32)), (.int p0)]) _ _ _
  refine Ends.go (fun _ k => XS.iand X0.here hx rfl (hb hby d1_2) rfl k) ?_
  show Ends p e below s s₁ (mkF m 3 #[.val (.int p0), .unset] [(.int (p0 &&& (3 : Int32)))]) _ _ _
  refine Ends.go (fun _ k => XS.istoreN X0.here hx rfl (hb hby d1_3) rfl (l' := #[.val (.int p0), .val (.int (p0 &&& (3 : Int32)))]) rfl k) ?_
  show Ends p e below s s₁ (mkF m 4 #[.val (.int p0), .val (.int (p0 &&& (3 : Int32)))] []) _ _ _
  refine Ends.go (fun _ k => XS.iloadN X0.here hx rfl (hb hby d1_4) rfl k) ?_
  show Ends p e below s s₁ (mkF m 5 #[.val (.int p0), .val (.int (p0 &&& (3 : Int32)))] [(.int (p0 &&& (3 : Int32)))]) _ _ _
  by_cases hc5_1 : (p0 &&& (3 : Int32)) = (0 : Int32)
  · refine Ends.go (fun _ k => XS.ifNo X0.here hx rfl (hb hby d1_5) rfl ((if0 _ _).trans (teq hc5_1).2) k) ?_
    show Ends p e below s s₁ (mkF m 8 #[.val (.int p0), .val (.int (p0 &&& (3 : Int32)))] []) _ _ _
    obtain ⟨T2, X2, e2, st2⟩ := getS2 X0 hx hZ hown (host := "") (Or.inl (hw _ (List.mem_of_getElem? (i := 19) rfl))) Via.refl e0 (S_ENDS.ext O0.2) (g := (mkF m 8 #[.val (.int p0), .val (.int (p0 &&& (3 : Int32)))] [])) rfl (hb hby d1_8)
    refine Ends.go st2 ?_
    show Ends p e below s T2 (mkF m 11 #[.val (.int p0), .val (.int (p0 &&& (3 : Int32)))] [(.ref w_ENDS)]) _ _ _
    refine Ends.ret X2 hx Bd.notSynchronized (t := (.object "com/example/sindano/sindano/boyermoore/Stretches$FastForm")) Bd.returns rfl (Or.inr (Or.inr (Or.inr (Or.inr ⟨rfl, rfl, rfl⟩)))) (hb hby d1_11) (by decide) (by decide) ?_
    refine ⟨?_, N0, e2⟩
    show (some (.ref w_ENDS) : Option Value) = _
    rw [hr]; simp [hc5_1]
  · refine Ends.go (fun _ k => XS.ifYes X0.here hx rfl (pc0 := 5) (pc' := 12) rfl (hb hby d1_5) rfl ((if0 _ _).trans (feq hc5_1).2) (by decide) (by decide) k) ?_
    show Ends p e below s s₁ (mkF m 12 #[.val (.int p0), .val (.int (p0 &&& (3 : Int32)))] []) _ _ _
    refine Ends.go (fun _ k => XS.iloadN X0.here hx rfl (hb hby d1_12) rfl k) ?_
    show Ends p e below s s₁ (mkF m 13 #[.val (.int p0), .val (.int (p0 &&& (3 : Int32)))] [(.int (p0 &&& (3 : Int32)))]) _ _ _
    refine Ends.go (fun _ k => XS.iconst X0.here hx rfl (hb hby d1_13) k) ?_
    show Ends p e below s s₁ (mkF m 14 #[.val (.int p0), .val (.int (p0 &&& (3 : Int32)))] [(.int (1 : Int32)), (.int (p0 &&& (3 : Int32)))]) _ _ _
    by_cases hc14_3 : (p0 &&& (3 : Int32)) = (1 : Int32)
    · refine Ends.go (fun _ k => XS.icmpNo X0.here hx rfl (hb hby d1_14) rfl (teq hc14_3).2 k) ?_
      show Ends p e below s s₁ (mkF m 17 #[.val (.int p0), .val (.int (p0 &&& (3 : Int32)))] []) _ _ _
      obtain ⟨T4, X4, e4, st4⟩ := getS2 X0 hx hZ hown (host := "") (Or.inl (hw _ (List.mem_of_getElem? (i := 5) rfl))) Via.refl e0 (S_ENDS_THEN_CLASSIC.ext O0.2) (g := (mkF m 17 #[.val (.int p0), .val (.int (p0 &&& (3 : Int32)))] [])) rfl (hb hby d1_17)
      refine Ends.go st4 ?_
      show Ends p e below s T4 (mkF m 20 #[.val (.int p0), .val (.int (p0 &&& (3 : Int32)))] [(.ref w_ENDS_THEN_CLASSIC)]) _ _ _
      refine Ends.ret X4 hx Bd.notSynchronized (t := (.object "com/example/sindano/sindano/boyermoore/Stretches$FastForm")) Bd.returns rfl (Or.inr (Or.inr (Or.inr (Or.inr ⟨rfl, rfl, rfl⟩)))) (hb hby d1_20) (by decide) (by decide) ?_
      refine ⟨?_, N0, e4⟩
      show (some (.ref w_ENDS_THEN_CLASSIC) : Option Value) = _
      rw [hr]; simp [hc5_1, hc14_3]
    · refine Ends.go (fun _ k => XS.icmpYes X0.here hx rfl (pc0 := 14) (pc' := 21) rfl (hb hby d1_14) rfl (feq hc14_3).2 (by decide) (by decide) k) ?_
      show Ends p e below s s₁ (mkF m 21 #[.val (.int p0), .val (.int (p0 &&& (3 : Int32)))] []) _ _ _
      refine Ends.go (fun _ k => XS.iloadN X0.here hx rfl (hb hby d1_21) rfl k) ?_
      show Ends p e below s s₁ (mkF m 22 #[.val (.int p0), .val (.int (p0 &&& (3 : Int32)))] [(.int (p0 &&& (3 : Int32)))]) _ _ _
      refine Ends.go (fun _ k => XS.iconst X0.here hx rfl (hb hby d1_22) k) ?_
      show Ends p e below s s₁ (mkF m 23 #[.val (.int p0), .val (.int (p0 &&& (3 : Int32)))] [(.int (2 : Int32)), (.int (p0 &&& (3 : Int32)))]) _ _ _
      by_cases hc23_5 : (p0 &&& (3 : Int32)) = (2 : Int32)
      · refine Ends.go (fun _ k => XS.icmpNo X0.here hx rfl (hb hby d1_23) rfl (teq hc23_5).2 k) ?_
        show Ends p e below s s₁ (mkF m 26 #[.val (.int p0), .val (.int (p0 &&& (3 : Int32)))] []) _ _ _
        obtain ⟨T6, X6, e6, st6⟩ := getS2 X0 hx hZ hown (host := "") (Or.inl (hw _ (List.mem_of_getElem? (i := 23) rfl))) Via.refl e0 (S_ENDS_THEN_EXACT.ext O0.2) (g := (mkF m 26 #[.val (.int p0), .val (.int (p0 &&& (3 : Int32)))] [])) rfl (hb hby d1_26)
        refine Ends.go st6 ?_
        show Ends p e below s T6 (mkF m 29 #[.val (.int p0), .val (.int (p0 &&& (3 : Int32)))] [(.ref w_ENDS_THEN_EXACT)]) _ _ _
        refine Ends.ret X6 hx Bd.notSynchronized (t := (.object "com/example/sindano/sindano/boyermoore/Stretches$FastForm")) Bd.returns rfl (Or.inr (Or.inr (Or.inr (Or.inr ⟨rfl, rfl, rfl⟩)))) (hb hby d1_29) (by decide) (by decide) ?_
        refine ⟨?_, N0, e6⟩
        show (some (.ref w_ENDS_THEN_EXACT) : Option Value) = _
        rw [hr]; simp [hc5_1, hc14_3, hc23_5]
      · refine Ends.go (fun _ k => XS.icmpYes X0.here hx rfl (pc0 := 23) (pc' := 30) rfl (hb hby d1_23) rfl (feq hc23_5).2 (by decide) (by decide) k) ?_
        show Ends p e below s s₁ (mkF m 30 #[.val (.int p0), .val (.int (p0 &&& (3 : Int32)))] []) _ _ _
        obtain ⟨T7, X7, e7, st7⟩ := getS2 X0 hx hZ hown (host := "") (Or.inl (hw _ (List.mem_of_getElem? (i := 18) rfl))) Via.refl e0 (S_PAIRS.ext O0.2) (g := (mkF m 30 #[.val (.int p0), .val (.int (p0 &&& (3 : Int32)))] [])) rfl (hb hby d1_30)
        refine Ends.go st7 ?_
        show Ends p e below s T7 (mkF m 33 #[.val (.int p0), .val (.int (p0 &&& (3 : Int32)))] [(.ref w_PAIRS)]) _ _ _
        refine Ends.ret X7 hx Bd.notSynchronized (t := (.object "com/example/sindano/sindano/boyermoore/Stretches$FastForm")) Bd.returns rfl (Or.inr (Or.inr (Or.inr (Or.inr ⟨rfl, rfl, rfl⟩)))) (hb hby d1_33) (by decide) (by decide) ?_
        refine ⟨?_, N0, e7⟩
        show (some (.ref w_PAIRS) : Option Value) = _
        rw [hr]; simp [hc5_1, hc14_3, hc23_5]
theorem d2_0 : decode prog_49_method_7_code 0 = .ok (.aload_n 0, 1) := by decide +kernel
theorem d2_1 : decode prog_49_method_7_code 1 = .ok (.getstatic 15, 3) := by decide +kernel
theorem d2_4 : decode prog_49_method_7_code 4 = .ok (.if_acmp .ne 18, 3) := by decide +kernel
theorem d2_7 : decode prog_49_method_7_code 7 = .ok (.iload 4, 2) := by decide +kernel
theorem d2_9 : decode prog_49_method_7_code 9 = .ok (.ifCond .eq 13, 3) := by decide +kernel
theorem d2_12 : decode prog_49_method_7_code 12 = .ok (.lload_n 1, 1) := by decide +kernel
theorem d2_13 : decode prog_49_method_7_code 13 = .ok (.ldc2_w 48, 3) := by decide +kernel
theorem d2_16 : decode prog_49_method_7_code 16 = .ok (.ldiv, 1) := by decide +kernel
theorem d2_17 : decode prog_49_method_7_code 17 = .ok (.lstore 5, 2) := by decide +kernel
theorem d2_19 : decode prog_49_method_7_code 19 = .ok (.goto 25, 3) := by decide +kernel
theorem d2_22 : decode prog_49_method_7_code 22 = .ok (.aload_n 0, 1) := by decide +kernel
theorem d2_23 : decode prog_49_method_7_code 23 = .ok (.getstatic 5, 3) := by decide +kernel
theorem d2_26 : decode prog_49_method_7_code 26 = .ok (.if_acmp .ne 10, 3) := by decide +kernel
theorem d2_29 : decode prog_49_method_7_code 29 = .ok (.iload_n 3, 1) := by decide +kernel
theorem d2_30 : decode prog_49_method_7_code 30 = .ok (.i2l, 1) := by decide +kernel
theorem d2_31 : decode prog_49_method_7_code 31 = .ok (.lstore 5, 2) := by decide +kernel
theorem d2_33 : decode prog_49_method_7_code 33 = .ok (.goto 11, 3) := by decide +kernel
theorem d2_36 : decode prog_49_method_7_code 36 = .ok (.ldc2_w 50, 3) := by decide +kernel
theorem d2_39 : decode prog_49_method_7_code 39 = .ok (.iload_n 3, 1) := by decide +kernel
theorem d2_40 : decode prog_49_method_7_code 40 = .ok (.i2l, 1) := by decide +kernel
theorem d2_41 : decode prog_49_method_7_code 41 = .ok (.lmul, 1) := by decide +kernel
theorem d2_42 : decode prog_49_method_7_code 42 = .ok (.lstore 5, 2) := by decide +kernel
theorem d2_44 : decode prog_49_method_7_code 44 = .ok (.lload 5, 2) := by decide +kernel
theorem d2_46 : decode prog_49_method_7_code 46 = .ok (.lreturn, 1) := by decide +kernel
theorem pn2 : plainName "com/example/sindano/sindano/boyermoore/Stretches$FastForm" = true := by first | (simp [plainName, overriddenIn]; done) | decide +kernel
theorem ef2 (m : MethodId) (o0 : Addr) (q1 : Int64) (p2 : Int32) (p3 : Int32) : entryFrame m #[(.ref o0), (.long q1), (.int p2), (.int p3)] 7 = mkF m 0 #[.val (.ref o0), .val (.long q1), .second, .val (.int p2), .val (.int p3), .unset, .unset] [] := by first | (simp [entryFrame, mkF, argsToLocals, Value.category]; done) | rfl
set_option maxRecDepth 65536 in
set_option maxHeartbeats 40000000 in
theorem rmB (l : Launch) (Z : State) (a0 : Array Value) (hw : ∀ d ∈ tables_1, d.before a0 Z = true) (ws : List Jvm.Cond) (n0 : Nat) (h0 : Heap) (O0 : Old Z n0 h0) (o0 : Addr) (q1 : Int64) (p2 : Int32) (p3 : Int32) (w_ENDS_THEN_CLASSIC : Addr) (w_PAIRS : Addr) (w_ENDS : Addr) (w_ENDS_THEN_EXACT : Addr) (FF : Facts Z w_ENDS_THEN_CLASSIC w_PAIRS w_ENDS w_ENDS_THEN_EXACT) (r : Int64) (hr : r = if o0 = w_PAIRS then (if p3 = 0 then (if o0 = w_ENDS then p2.toInt64 else (-4 : Int64) * p2.toInt64) else q1 / (2 : Int64)) else if o0 = w_ENDS then p2.toInt64 else (-4 : Int64) * p2.toInt64) :
    Meets1 l (⟨"com/example/sindano/sindano/boyermoore/Stretches$FastForm", "budget", "(JIZ)J"⟩ : MethodName) prog_49_method_7_code 7 (some .long) ws ({ frames := 0, cells := 0, slots := 0, locals := 0 } : Room) #[(.ref o0), (.long q1), (.int p2), (.int p3)] Z h0 (fun v h L => v = some (.long r) ∧ Fr n0 L ∧ h = h0) := by
  refine MetFree.of_bodySF (plainFor_of_name pn2) hisR ?_
  intro p e s m args below meth c s₁ Bd hml0 hP hK
  obtain ⟨rfl, hZ, hh⟩ := hP
  have hx := Bd.exec
  have hby := Bd.bytes
  have hml : c.maxLocals = 7 := hml0
  have hown : s.vm.findClass "com/example/sindano/sindano/boyermoore/Stretches$FastForm" = some m.cls := findClass_of_methodNamed Bd.named
  have hnm := (name_of_methodNamed Bd.named Bd.method).1
  have X0 : Stand p l e ({ frames := 0, cells := 0, slots := 0, locals := 0 } : Room) s m #[(.ref o0), (.long q1), (.int p2), (.int p3)] below meth c s₁ [] 0 0 := Stand.of_body Bd
  have e0 : s₁.heap = h0 := by rw [← hh, Bd.state]; rfl
  have N0 := Fr.nil n0
  have Z0 := own_old_le O0
  show Ends p e below s s₁ (entryFrame m #[(.ref o0), (.long q1), (.int p2), (.int p3)] 7) ({ frames := 0, cells := 0, slots := 0, locals := 0 } : Room).cells ({ frames := 0, cells := 0, slots := 0, locals := 0 } : Room).slots (fun v h L => v = some (.long r) ∧ Fr n0 L ∧ h = h0)
  refine Ends.go (fun _ k => castTop (ef2 m o0 q1 p2 p3) k) ?_
  have K0 := Keep.refl h0 []
  have FF0 := FF
  obtain ⟨S_ENDS_THEN_CLASSIC, E_ENDS_THEN_CLASSIC, S_PAIRS, E_PAIRS, F_ordinal_ENDS_THEN_CLASSIC, F_ordinal_PAIRS, S_ENDS, E_ENDS, F_ordinal_ENDS, S_ENDS_THEN_EXACT, E_ENDS_THEN_EXACT, F_ordinal_ENDS_THEN_EXACT⟩ := FF
  show Ends p e below s s₁ (mkF m 0 #[.val (.ref o0), .val (.long q1), .second, .val (.int p2), .val (.int p3), .unset, .unset] []) _ _ _
  refine Ends.go (fun _ k => XS.aloadN X0.here hx rfl (hb hby d2_0) rfl rfl k) ?_
  show Ends p e below s s₁ (mkF m 1 #[.val (.ref o0), .val (.long q1), .second, .val (.int p2), .val (.int p3), .unset, .unset] [(.ref o0)]) _ _ _
  obtain ⟨T1, X1, e1, st1⟩ := getS2 X0 hx hZ hown (host := "") (Or.inl (hw _ (List.mem_of_getElem? (i := 13) rfl))) Via.refl e0 (S_PAIRS.ext O0.2) (g := (mkF m 1 #[.val (.ref o0), .val (.long q1), .second, .val (.int p2), .val (.int p3), .unset, .unset] [(.ref o0)])) rfl (hb hby d2_1)
  refine Ends.go st1 ?_
  show Ends p e below s T1 (mkF m 4 #[.val (.ref o0), .val (.long q1), .second, .val (.int p2), .val (.int p3), .unset, .unset] [(.ref w_PAIRS), (.ref o0)]) _ _ _
  by_cases ha4_2 : o0 = w_PAIRS
  · refine Ends.go (fun _ k => Jvm.RoadKit.acmp (g := (mkF m 4 #[.val (.ref o0), .val (.long q1), .second, .val (.int p2), .val (.int p3), .unset, .unset] [(.ref w_PAIRS), (.ref o0)])) X1 hx rfl rfl rfl (pc0 := 4) (pc' := 7) (same := true) rfl (hb hby d2_4) rfl (decide_eq_true (congrArg Value.ref ha4_2)) (by decide) (by decide) k) ?_
    show Ends p e below s T1 (mkF m 7 #[.val (.ref o0), .val (.long q1), .second, .val (.int p2), .val (.int p3), .unset, .unset] []) _ _ _
    refine Ends.go (fun _ k => XS.iload X1.here hx rfl (hb hby d2_7) rfl k) ?_
    show Ends p e below s T1 (mkF m 9 #[.val (.ref o0), .val (.long q1), .second, .val (.int p2), .val (.int p3), .unset, .unset] [(.int p3)]) _ _ _
    by_cases hc9_3 : p3 = (0 : Int32)
    · refine Ends.go (fun _ k => XS.ifYes X1.here hx rfl (pc0 := 9) (pc' := 22) rfl (hb hby d2_9) rfl ((if0 _ _).trans (teq hc9_3).1) (by decide) (by decide) k) ?_
      show Ends p e below s T1 (mkF m 22 #[.val (.ref o0), .val (.long q1), .second, .val (.int p2), .val (.int p3), .unset, .unset] []) _ _ _
      refine Ends.go (fun _ k => XS.aloadN X1.here hx rfl (hb hby d2_22) rfl rfl k) ?_
      show Ends p e below s T1 (mkF m 23 #[.val (.ref o0), .val (.long q1), .second, .val (.int p2), .val (.int p3), .unset, .unset] [(.ref o0)]) _ _ _
      obtain ⟨T4, X4, e4, st4⟩ := getS2 X1 hx hZ hown (host := "") (Or.inl (hw _ (List.mem_of_getElem? (i := 15) rfl))) Via.refl e1 (S_ENDS.ext O0.2) (g := (mkF m 23 #[.val (.ref o0), .val (.long q1), .second, .val (.int p2), .val (.int p3), .unset, .unset] [(.ref o0)])) rfl (hb hby d2_23)
      refine Ends.go st4 ?_
      show Ends p e below s T4 (mkF m 26 #[.val (.ref o0), .val (.long q1), .second, .val (.int p2), .val (.int p3), .unset, .unset] [(.ref w_ENDS), (.ref o0)]) _ _ _
      by_cases ha26_5 : o0 = w_ENDS
      · refine Ends.go (fun _ k => Jvm.RoadKit.acmp (g := (mkF m 26 #[.val (.ref o0), .val (.long q1), .second, .val (.int p2), .val (.int p3), .unset, .unset] [(.ref w_ENDS), (.ref o0)])) X4 hx rfl rfl rfl (pc0 := 26) (pc' := 29) (same := true) rfl (hb hby d2_26) rfl (decide_eq_true (congrArg Value.ref ha26_5)) (by decide) (by decide) k) ?_
        show Ends p e below s T4 (mkF m 29 #[.val (.ref o0), .val (.long q1), .second, .val (.int p2), .val (.int p3), .unset, .unset] []) _ _ _
        refine Ends.go (fun _ k => XS.iloadN X4.here hx rfl (hb hby d2_29) rfl k) ?_
        show Ends p e below s T4 (mkF m 30 #[.val (.ref o0), .val (.long q1), .second, .val (.int p2), .val (.int p3), .unset, .unset] [(.int p2)]) _ _ _
        refine Ends.go (fun _ k => XS.i2l X4.here hx rfl (hb hby d2_30) rfl k) ?_
        show Ends p e below s T4 (mkF m 31 #[.val (.ref o0), .val (.long q1), .second, .val (.int p2), .val (.int p3), .unset, .unset] [(.long (p2.toInt64))]) _ _ _
        refine Ends.go (fun _ k => XS.lstore X4.here hx rfl (hb hby d2_31) rfl (l' := #[.val (.ref o0), .val (.long q1), .second, .val (.int p2), .val (.int p3), .val (.long (p2.toInt64)), .second]) rfl k) ?_
        show Ends p e below s T4 (mkF m 33 #[.val (.ref o0), .val (.long q1), .second, .val (.int p2), .val (.int p3), .val (.long (p2.toInt64)), .second] []) _ _ _
        refine Ends.go (fun _ k => XS.goto X4.here hx rfl (pc0 := 33) (pc' := 44) rfl (hb hby d2_33) (by decide) (by decide) k) ?_
        show Ends p e below s T4 (mkF m 44 #[.val (.ref o0), .val (.long q1), .second, .val (.int p2), .val (.int p3), .val (.long (p2.toInt64)), .second] []) _ _ _
        refine Ends.go (fun _ k => XS.lload X4.here hx rfl (hb hby d2_44) rfl k) ?_
        show Ends p e below s T4 (mkF m 46 #[.val (.ref o0), .val (.long q1), .second, .val (.int p2), .val (.int p3), .val (.long (p2.toInt64)), .second] [(.long (p2.toInt64))]) _ _ _
        refine Ends.ret X4 hx Bd.notSynchronized (t := .long) Bd.returns rfl (Or.inr (Or.inl ⟨rfl, rfl, _, rfl⟩)) (hb hby d2_46) (by decide) (by decide) ?_
        refine ⟨?_, N0, e4⟩
        show (some (.long (p2.toInt64)) : Option Value) = _
        rw [hr, if_pos ha4_2, if_pos hc9_3, if_pos ha26_5]
      · refine Ends.go (fun _ k => Jvm.RoadKit.acmp (g := (mkF m 26 #[.val (.ref o0), .val (.long q1), .second, .val (.int p2), .val (.int p3), .unset, .unset] [(.ref w_ENDS), (.ref o0)])) X4 hx rfl rfl rfl (pc0 := 26) (pc' := 36) (same := false) rfl (hb hby d2_26) rfl (decide_eq_false fun q => ha26_5 (Value.ref.inj q)) (by decide) (by decide) k) ?_
        show Ends p e below s T4 (mkF m 36 #[.val (.ref o0), .val (.long q1), .second, .val (.int p2), .val (.int p3), .unset, .unset] []) _ _ _
        refine Ends.go (X4.ldc2Long hx hown (mvT hZ (hw _ (List.mem_of_getElem? (i := 17) rfl))) (g := (mkF m 36 #[.val (.ref o0), .val (.long q1), .second, .val (.int p2), .val (.int p3), .unset, .unset] [])) rfl (hb hby d2_36)) ?_
        show Ends p e below s T4 (mkF m 39 #[.val (.ref o0), .val (.long q1), .second, .val (.int p2), .val (.int p3), .unset, .unset] [(.long (-4 : Int64))]) _ _ _
        refine Ends.go (fun _ k => XS.iloadN X4.here hx rfl (hb hby d2_39) rfl k) ?_
        show Ends p e below s T4 (mkF m 40 #[.val (.ref o0), .val (.long q1), .second, .val (.int p2), .val (.int p3), .unset, .unset] [(.int p2), (.long (-4 : Int64))]) _ _ _
        refine Ends.go (fun _ k => XS.i2l X4.here hx rfl (hb hby d2_40) rfl k) ?_
        show Ends p e below s T4 (mkF m 41 #[.val (.ref o0), .val (.long q1), .second, .val (.int p2), .val (.int p3), .unset, .unset] [(.long (p2.toInt64)), (.long (-4 : Int64))]) _ _ _
        refine Ends.go (fun _ k => XS.lmul X4.here hx rfl (hb hby d2_41) rfl k) ?_
        show Ends p e below s T4 (mkF m 42 #[.val (.ref o0), .val (.long q1), .second, .val (.int p2), .val (.int p3), .unset, .unset] [(.long ((-4 : Int64) * (p2.toInt64)))]) _ _ _
        refine Ends.go (fun _ k => XS.lstore X4.here hx rfl (hb hby d2_42) rfl (l' := #[.val (.ref o0), .val (.long q1), .second, .val (.int p2), .val (.int p3), .val (.long ((-4 : Int64) * (p2.toInt64))), .second]) rfl k) ?_
        show Ends p e below s T4 (mkF m 44 #[.val (.ref o0), .val (.long q1), .second, .val (.int p2), .val (.int p3), .val (.long ((-4 : Int64) * (p2.toInt64))), .second] []) _ _ _
        refine Ends.go (fun _ k => XS.lload X4.here hx rfl (hb hby d2_44) rfl k) ?_
        show Ends p e below s T4 (mkF m 46 #[.val (.ref o0), .val (.long q1), .second, .val (.int p2), .val (.int p3), .val (.long ((-4 : Int64) * (p2.toInt64))), .second] [(.long ((-4 : Int64) * (p2.toInt64)))]) _ _ _
        refine Ends.ret X4 hx Bd.notSynchronized (t := .long) Bd.returns rfl (Or.inr (Or.inl ⟨rfl, rfl, _, rfl⟩)) (hb hby d2_46) (by decide) (by decide) ?_
        refine ⟨?_, N0, e4⟩
        show (some (.long ((-4 : Int64) * (p2.toInt64))) : Option Value) = _
        rw [hr, if_pos ha4_2, if_pos hc9_3, if_neg ha26_5]
    · refine Ends.go (fun _ k => XS.ifNo X1.here hx rfl (hb hby d2_9) rfl ((if0 _ _).trans (feq hc9_3).1) k) ?_
      show Ends p e below s T1 (mkF m 12 #[.val (.ref o0), .val (.long q1), .second, .val (.int p2), .val (.int p3), .unset, .unset] []) _ _ _
      refine Ends.go (fun _ k => XS.lloadN X1.here hx rfl (hb hby d2_12) rfl k) ?_
      show Ends p e below s T1 (mkF m 13 #[.val (.ref o0), .val (.long q1), .second, .val (.int p2), .val (.int p3), .unset, .unset] [(.long q1)]) _ _ _
      refine Ends.go (X1.ldc2Long hx hown (mvT hZ (hw _ (List.mem_of_getElem? (i := 21) rfl))) (g := (mkF m 13 #[.val (.ref o0), .val (.long q1), .second, .val (.int p2), .val (.int p3), .unset, .unset] [(.long q1)])) rfl (hb hby d2_13)) ?_
      show Ends p e below s T1 (mkF m 16 #[.val (.ref o0), .val (.long q1), .second, .val (.int p2), .val (.int p3), .unset, .unset] [(.long (2 : Int64)), (.long q1)]) _ _ _
      refine Ends.go (fun _ k => XS.ldiv X1.here hx rfl (hb hby d2_16) rfl (by decide) k) ?_
      show Ends p e below s T1 (mkF m 17 #[.val (.ref o0), .val (.long q1), .second, .val (.int p2), .val (.int p3), .unset, .unset] [(.long (q1 / (2 : Int64)))]) _ _ _
      refine Ends.go (fun _ k => XS.lstore X1.here hx rfl (hb hby d2_17) rfl (l' := #[.val (.ref o0), .val (.long q1), .second, .val (.int p2), .val (.int p3), .val (.long (q1 / (2 : Int64))), .second]) rfl k) ?_
      show Ends p e below s T1 (mkF m 19 #[.val (.ref o0), .val (.long q1), .second, .val (.int p2), .val (.int p3), .val (.long (q1 / (2 : Int64))), .second] []) _ _ _
      refine Ends.go (fun _ k => XS.goto X1.here hx rfl (pc0 := 19) (pc' := 44) rfl (hb hby d2_19) (by decide) (by decide) k) ?_
      show Ends p e below s T1 (mkF m 44 #[.val (.ref o0), .val (.long q1), .second, .val (.int p2), .val (.int p3), .val (.long (q1 / (2 : Int64))), .second] []) _ _ _
      refine Ends.go (fun _ k => XS.lload X1.here hx rfl (hb hby d2_44) rfl k) ?_
      show Ends p e below s T1 (mkF m 46 #[.val (.ref o0), .val (.long q1), .second, .val (.int p2), .val (.int p3), .val (.long (q1 / (2 : Int64))), .second] [(.long (q1 / (2 : Int64)))]) _ _ _
      refine Ends.ret X1 hx Bd.notSynchronized (t := .long) Bd.returns rfl (Or.inr (Or.inl ⟨rfl, rfl, _, rfl⟩)) (hb hby d2_46) (by decide) (by decide) ?_
      refine ⟨?_, N0, e1⟩
      show (some (.long (q1 / (2 : Int64))) : Option Value) = _
      rw [hr, if_pos ha4_2, if_neg hc9_3]
  · refine Ends.go (fun _ k => Jvm.RoadKit.acmp (g := (mkF m 4 #[.val (.ref o0), .val (.long q1), .second, .val (.int p2), .val (.int p3), .unset, .unset] [(.ref w_PAIRS), (.ref o0)])) X1 hx rfl rfl rfl (pc0 := 4) (pc' := 22) (same := false) rfl (hb hby d2_4) rfl (decide_eq_false fun q => ha4_2 (Value.ref.inj q)) (by decide) (by decide) k) ?_
    show Ends p e below s T1 (mkF m 22 #[.val (.ref o0), .val (.long q1), .second, .val (.int p2), .val (.int p3), .unset, .unset] []) _ _ _
    refine Ends.go (fun _ k => XS.aloadN X1.here hx rfl (hb hby d2_22) rfl rfl k) ?_
    show Ends p e below s T1 (mkF m 23 #[.val (.ref o0), .val (.long q1), .second, .val (.int p2), .val (.int p3), .unset, .unset] [(.ref o0)]) _ _ _
    obtain ⟨T6, X6, e6, st6⟩ := getS2 X1 hx hZ hown (host := "") (Or.inl (hw _ (List.mem_of_getElem? (i := 15) rfl))) Via.refl e1 (S_ENDS.ext O0.2) (g := (mkF m 23 #[.val (.ref o0), .val (.long q1), .second, .val (.int p2), .val (.int p3), .unset, .unset] [(.ref o0)])) rfl (hb hby d2_23)
    refine Ends.go st6 ?_
    show Ends p e below s T6 (mkF m 26 #[.val (.ref o0), .val (.long q1), .second, .val (.int p2), .val (.int p3), .unset, .unset] [(.ref w_ENDS), (.ref o0)]) _ _ _
    by_cases ha26_7 : o0 = w_ENDS
    · refine Ends.go (fun _ k => Jvm.RoadKit.acmp (g := (mkF m 26 #[.val (.ref o0), .val (.long q1), .second, .val (.int p2), .val (.int p3), .unset, .unset] [(.ref w_ENDS), (.ref o0)])) X6 hx rfl rfl rfl (pc0 := 26) (pc' := 29) (same := true) rfl (hb hby d2_26) rfl (decide_eq_true (congrArg Value.ref ha26_7)) (by decide) (by decide) k) ?_
      show Ends p e below s T6 (mkF m 29 #[.val (.ref o0), .val (.long q1), .second, .val (.int p2), .val (.int p3), .unset, .unset] []) _ _ _
      refine Ends.go (fun _ k => XS.iloadN X6.here hx rfl (hb hby d2_29) rfl k) ?_
      show Ends p e below s T6 (mkF m 30 #[.val (.ref o0), .val (.long q1), .second, .val (.int p2), .val (.int p3), .unset, .unset] [(.int p2)]) _ _ _
      refine Ends.go (fun _ k => XS.i2l X6.here hx rfl (hb hby d2_30) rfl k) ?_
      show Ends p e below s T6 (mkF m 31 #[.val (.ref o0), .val (.long q1), .second, .val (.int p2), .val (.int p3), .unset, .unset] [(.long (p2.toInt64))]) _ _ _
      refine Ends.go (fun _ k => XS.lstore X6.here hx rfl (hb hby d2_31) rfl (l' := #[.val (.ref o0), .val (.long q1), .second, .val (.int p2), .val (.int p3), .val (.long (p2.toInt64)), .second]) rfl k) ?_
      show Ends p e below s T6 (mkF m 33 #[.val (.ref o0), .val (.long q1), .second, .val (.int p2), .val (.int p3), .val (.long (p2.toInt64)), .second] []) _ _ _
      refine Ends.go (fun _ k => XS.goto X6.here hx rfl (pc0 := 33) (pc' := 44) rfl (hb hby d2_33) (by decide) (by decide) k) ?_
      show Ends p e below s T6 (mkF m 44 #[.val (.ref o0), .val (.long q1), .second, .val (.int p2), .val (.int p3), .val (.long (p2.toInt64)), .second] []) _ _ _
      refine Ends.go (fun _ k => XS.lload X6.here hx rfl (hb hby d2_44) rfl k) ?_
      show Ends p e below s T6 (mkF m 46 #[.val (.ref o0), .val (.long q1), .second, .val (.int p2), .val (.int p3), .val (.long (p2.toInt64)), .second] [(.long (p2.toInt64))]) _ _ _
      refine Ends.ret X6 hx Bd.notSynchronized (t := .long) Bd.returns rfl (Or.inr (Or.inl ⟨rfl, rfl, _, rfl⟩)) (hb hby d2_46) (by decide) (by decide) ?_
      refine ⟨?_, N0, e6⟩
      show (some (.long (p2.toInt64)) : Option Value) = _
      rw [hr, if_neg ha4_2, if_pos ha26_7]
    · refine Ends.go (fun _ k => Jvm.RoadKit.acmp (g := (mkF m 26 #[.val (.ref o0), .val (.long q1), .second, .val (.int p2), .val (.int p3), .unset, .unset] [(.ref w_ENDS), (.ref o0)])) X6 hx rfl rfl rfl (pc0 := 26) (pc' := 36) (same := false) rfl (hb hby d2_26) rfl (decide_eq_false fun q => ha26_7 (Value.ref.inj q)) (by decide) (by decide) k) ?_
      show Ends p e below s T6 (mkF m 36 #[.val (.ref o0), .val (.long q1), .second, .val (.int p2), .val (.int p3), .unset, .unset] []) _ _ _
      refine Ends.go (X6.ldc2Long hx hown (mvT hZ (hw _ (List.mem_of_getElem? (i := 17) rfl))) (g := (mkF m 36 #[.val (.ref o0), .val (.long q1), .second, .val (.int p2), .val (.int p3), .unset, .unset] [])) rfl (hb hby d2_36)) ?_
      show Ends p e below s T6 (mkF m 39 #[.val (.ref o0), .val (.long q1), .second, .val (.int p2), .val (.int p3), .unset, .unset] [(.long (-4 : Int64))]) _ _ _
      refine Ends.go (fun _ k => XS.iloadN X6.here hx rfl (hb hby d2_39) rfl k) ?_
      show Ends p e below s T6 (mkF m 40 #[.val (.ref o0), .val (.long q1), .second, .val (.int p2), .val (.int p3), .unset, .unset] [(.int p2), (.long (-4 : Int64))]) _ _ _
      refine Ends.go (fun _ k => XS.i2l X6.here hx rfl (hb hby d2_40) rfl k) ?_
      show Ends p e below s T6 (mkF m 41 #[.val (.ref o0), .val (.long q1), .second, .val (.int p2), .val (.int p3), .unset, .unset] [(.long (p2.toInt64)), (.long (-4 : Int64))]) _ _ _
      refine Ends.go (fun _ k => XS.lmul X6.here hx rfl (hb hby d2_41) rfl k) ?_
      show Ends p e below s T6 (mkF m 42 #[.val (.ref o0), .val (.long q1), .second, .val (.int p2), .val (.int p3), .unset, .unset] [(.long ((-4 : Int64) * (p2.toInt64)))]) _ _ _
      refine Ends.go (fun _ k => XS.lstore X6.here hx rfl (hb hby d2_42) rfl (l' := #[.val (.ref o0), .val (.long q1), .second, .val (.int p2), .val (.int p3), .val (.long ((-4 : Int64) * (p2.toInt64))), .second]) rfl k) ?_
      show Ends p e below s T6 (mkF m 44 #[.val (.ref o0), .val (.long q1), .second, .val (.int p2), .val (.int p3), .val (.long ((-4 : Int64) * (p2.toInt64))), .second] []) _ _ _
      refine Ends.go (fun _ k => XS.lload X6.here hx rfl (hb hby d2_44) rfl k) ?_
      show Ends p e below s T6 (mkF m 46 #[.val (.ref o0), .val (.long q1), .second, .val (.int p2), .val (.int p3), .val (.long ((-4 : Int64) * (p2.toInt64))), .second] [(.long ((-4 : Int64) * (p2.toInt64)))]) _ _ _
      refine Ends.ret X6 hx Bd.notSynchronized (t := .long) Bd.returns rfl (Or.inr (Or.inl ⟨rfl, rfl, _, rfl⟩)) (hb hby d2_46) (by decide) (by decide) ?_
      refine ⟨?_, N0, e6⟩
      show (some (.long ((-4 : Int64) * (p2.toInt64))) : Option Value) = _
      rw [hr, if_neg ha4_2, if_neg ha26_7]
theorem pn0 : plainName "com/example/sindano/sindano/boyermoore/FastFormBudgetPinLaw" = true := by first | (simp [plainName, overriddenIn]; done) | decide +kernel
theorem pd0_0 : parseMethodDescriptor "(I)Lcom/example/sindano/sindano/boyermoore/Stretches$FastForm;" = some ⟨[.int], some (.object "com/example/sindano/sindano/boyermoore/Stretches$FastForm")⟩ := by decide +kernel
theorem pd0_1 : parseMethodDescriptor "(JIZ)J" = some ⟨[.long, .int, .boolean], some .long⟩ := by decide +kernel
theorem ef0 (m : MethodId) (q0 : Int64) (p1 : Int32) (p2 : Int32) (p3 : Int32) : entryFrame m #[(.long q0), (.int p1), (.int p2), (.int p3)] maxLocals = mkF m 0 #[.val (.long q0), .second, .val (.int p1), .val (.int p2), .val (.int p3), .unset, .unset, .unset, .unset, .unset, .unset, .unset, .unset] [] := by first | (simp [entryFrame, mkF, argsToLocals, Value.category, maxLocals]; done) | rfl
set_option maxRecDepth 65536 in
set_option maxHeartbeats 40000000 in
theorem rm0 (l : Launch) (Z : State) (a0 : Array Value) (hw : ∀ d ∈ tables_1, d.before a0 Z = true) (ws : List Jvm.Cond) (n0 : Nat) (h0 : Heap) (O0 : Old Z n0 h0) (q0 : Int64) (p1 : Int32) (p2 : Int32) (p3 : Int32) (w_ENDS_THEN_CLASSIC : Addr) (w_PAIRS : Addr) (w_ENDS : Addr) (w_ENDS_THEN_EXACT : Addr) (FF : Facts Z w_ENDS_THEN_CLASSIC w_PAIRS w_ENDS w_ENDS_THEN_EXACT) :
    Meets1 l x code maxLocals ret ws room_1 #[(.long q0), (.int p1), (.int p2), (.int p3)] Z h0 (fun v h L => v = some (.int (1 : Int32)) ∧ Fr n0 L) := by
  refine MetFree.of_bodySF (plainFor_of_name pn0) hisR ?_
  intro p e s m args below meth c s₁ Bd hml0 hP hK
  obtain ⟨rfl, hZ, hh⟩ := hP
  have hx := Bd.exec
  have hby := Bd.bytes
  have hml : c.maxLocals = 13 := hml0
  have hown : s.vm.findClass "com/example/sindano/sindano/boyermoore/FastFormBudgetPinLaw" = some m.cls := findClass_of_methodNamed Bd.named
  have hnm := (name_of_methodNamed Bd.named Bd.method).1
  have X0 : Stand p l e room_1 s m #[(.long q0), (.int p1), (.int p2), (.int p3)] below meth c s₁ [] 0 0 := Stand.of_body Bd
  have e0 : s₁.heap = h0 := by rw [← hh, Bd.state]; rfl
  have N0 := Fr.nil n0
  have Z0 := own_old_le O0
  show Ends p e below s s₁ (entryFrame m #[(.long q0), (.int p1), (.int p2), (.int p3)] maxLocals) room_1.cells room_1.slots (fun v h L => v = some (.int (1 : Int32)) ∧ Fr n0 L)
  refine Ends.go (fun _ k => castTop (ef0 m q0 p1 p2 p3) k) ?_
  have K0 := Keep.refl h0 []
  have FF0 := FF
  obtain ⟨S_ENDS_THEN_CLASSIC, E_ENDS_THEN_CLASSIC, S_PAIRS, E_PAIRS, F_ordinal_ENDS_THEN_CLASSIC, F_ordinal_PAIRS, S_ENDS, E_ENDS, F_ordinal_ENDS, S_ENDS_THEN_EXACT, E_ENDS_THEN_EXACT, F_ordinal_ENDS_THEN_EXACT⟩ := FF
  show Ends p e below s s₁ (mkF m 0 #[.val (.long q0), .second, .val (.int p1), .val (.int p2), .val (.int p3), .unset, .unset, .unset, .unset, .unset, .unset, .unset, .unset] []) _ _ _
  refine Ends.go (fun _ k => XS.lloadN X0.here hx rfl (hb hby at_0) rfl k) ?_
  show Ends p e below s s₁ (mkF m 1 #[.val (.long q0), .second, .val (.int p1), .val (.int p2), .val (.int p3), .unset, .unset, .unset, .unset, .unset, .unset, .unset, .unset] [(.long q0)]) _ _ _
  refine Ends.go (X0.ldc2Long hx hown (mvT hZ (hw _ (List.mem_of_getElem? (i := 0) rfl))) (g := (mkF m 1 #[.val (.long q0), .second, .val (.int p1), .val (.int p2), .val (.int p3), .unset, .unset, .unset, .unset, .unset, .unset, .unset, .unset] [(.long q0)])) rfl (hb hby at_1)) ?_
  show Ends p e below s s₁ (mkF m 4 #[.val (.long q0), .second, .val (.int p1), .val (.int p2), .val (.int p3), .unset, .unset, .unset, .unset, .unset, .unset, .unset, .unset] [(.long (9223372036854775807 : Int64)), (.long q0)]) _ _ _
  refine Ends.go (fun _ k => XS.land X0.here hx rfl (hb hby at_4) rfl k) ?_
  show Ends p e below s s₁ (mkF m 5 #[.val (.long q0), .second, .val (.int p1), .val (.int p2), .val (.int p3), .unset, .unset, .unset, .unset, .unset, .unset, .unset, .unset] [(.long (q0 &&& (9223372036854775807 : Int64)))]) _ _ _
  refine Ends.go (fun _ k => XS.lstore X0.here hx rfl (hb hby at_5) rfl (l' := #[.val (.long q0), .second, .val (.int p1), .val (.int p2), .val (.int p3), .val (.long (q0 &&& (9223372036854775807 : Int64))), .second, .unset, .unset, .unset, .unset, .unset, .unset]) rfl k) ?_
  show Ends p e below s s₁ (mkF m 7 #[.val (.long q0), .second, .val (.int p1), .val (.int p2), .val (.int p3), .val (.long (q0 &&& (9223372036854775807 : Int64))), .second, .unset, .unset, .unset, .unset, .unset, .unset] []) _ _ _
  refine Ends.go (fun _ k => XS.iload X0.here hx rfl (hb hby at_7) rfl k) ?_
  show Ends p e below s s₁ (mkF m 9 #[.val (.long q0), .second, .val (.int p1), .val (.int p2), .val (.int p3), .val (.long (q0 &&& (9223372036854775807 : Int64))), .second, .unset, .unset, .unset, .unset, .unset, .unset] [(.int p3)]) _ _ _
  refine Ends.go (fun _ k => XS.iconst X0.here hx rfl (hb hby at_9) k) ?_
  show Ends p e below s s₁ (mkF m 10 #[.val (.long q0), .second, .val (.int p1), .val (.int p2), .val (.int p3), .val (.long (q0 &&& (9223372036854775807 : Int64))), .second, .unset, .unset, .unset, .unset, .unset, .unset] [(.int (1 : Int32)), (.int p3)]) _ _ _
  refine Ends.go (fun _ k => XS.iand X0.here hx rfl (hb hby at_10) rfl k) ?_
  show Ends p e below s s₁ (mkF m 11 #[.val (.long q0), .second, .val (.int p1), .val (.int p2), .val (.int p3), .val (.long (q0 &&& (9223372036854775807 : Int64))), .second, .unset, .unset, .unset, .unset, .unset, .unset] [(.int (p3 &&& (1 : Int32)))]) _ _ _
  by_cases hc11_1 : (p3 &&& (1 : Int32)) = (0 : Int32)
  · refine Ends.go (fun _ k => XS.ifYes X0.here hx rfl (pc0 := 11) (pc' := 18) rfl (hb hby at_11) rfl ((if0 _ _).trans (teq hc11_1).1) (by decide) (by decide) k) ?_
    show Ends p e below s s₁ (mkF m 18 #[.val (.long q0), .second, .val (.int p1), .val (.int p2), .val (.int p3), .val (.long (q0 &&& (9223372036854775807 : Int64))), .second, .unset, .unset, .unset, .unset, .unset, .unset] []) _ _ _
    refine Ends.go (fun _ k => XS.iconst X0.here hx rfl (hb hby at_18) k) ?_
    show Ends p e below s s₁ (mkF m 19 #[.val (.long q0), .second, .val (.int p1), .val (.int p2), .val (.int p3), .val (.long (q0 &&& (9223372036854775807 : Int64))), .second, .unset, .unset, .unset, .unset, .unset, .unset] [(.int (0 : Int32))]) _ _ _
    refine Ends.go (fun _ k => XS.istore X0.here hx rfl (hb hby at_19) rfl (l' := #[.val (.long q0), .second, .val (.int p1), .val (.int p2), .val (.int p3), .val (.long (q0 &&& (9223372036854775807 : Int64))), .second, .val (.int (0 : Int32)), .unset, .unset, .unset, .unset, .unset]) rfl k) ?_
    show Ends p e below s s₁ (mkF m 21 #[.val (.long q0), .second, .val (.int p1), .val (.int p2), .val (.int p3), .val (.long (q0 &&& (9223372036854775807 : Int64))), .second, .val (.int (0 : Int32)), .unset, .unset, .unset, .unset, .unset] []) _ _ _
    refine Ends.go (fun _ k => XS.iloadN X0.here hx rfl (hb hby at_21) rfl k) ?_
    show Ends p e below s s₁ (mkF m 22 #[.val (.long q0), .second, .val (.int p1), .val (.int p2), .val (.int p3), .val (.long (q0 &&& (9223372036854775807 : Int64))), .second, .val (.int (0 : Int32)), .unset, .unset, .unset, .unset, .unset] [(.int p2)]) _ _ _
    rcases own_and3 p2 _ rfl with hk | hk | hk | hk
    · obtain ⟨_, _, ⟨T2, L2, k2, n2⟩, -, X2, ⟨Lc2, hQ2, l2, y2, z2⟩, st2⟩ := Jvm.LawKit.callS X0 hx (y := (⟨"com/example/sindano/sindano/boyermoore/FastFormBudgetPinLaw", "pick", "(I)Lcom/example/sindano/sindano/boyermoore/Stretches$FastForm;"⟩ : MethodName)) hown (mvT hZ (hw _ (List.mem_of_getElem? (i := 1) rfl))) (mvT hZ (hw _ (List.mem_of_getElem? (i := 2) rfl))) (mvT hZ (hw _ (List.mem_of_getElem? (i := 3) rfl))) (mvT hZ (hw _ (List.mem_of_getElem? (i := 4) rfl))) (by decide) (own_backOf (W := 0) (rmP l Z a0 hw [] n0 h0 O0 p2 w_ENDS_THEN_CLASSIC w_PAIRS w_ENDS w_ENDS_THEN_EXACT FF0 w_ENDS (by rw [hk]; simp)) hZ (hw _ (List.mem_of_getElem? (i := 4) rfl)) (hw _ (List.mem_of_getElem? (i := 3) rfl)) (by decide) (by decide)) (g := (mkF m 22 #[.val (.long q0), .second, .val (.int p1), .val (.int p2), .val (.int p3), .val (.long (q0 &&& (9223372036854775807 : Int64))), .second, .val (.int (0 : Int32)), .unset, .unset, .unset, .unset, .unset] [(.int p2)])) rfl (by rw [hml]; rfl) (argsL := [(.int p2)]) (rest := []) (lenOf pd0_0 rfl) rfl (by show 2 * 0 + _ ≤ _; exact Nat.le_of_eq rfl) (hb hby at_22) (fun _ _ => ⟨rfl, e0, (by decide : 0 + 0 ≤ _), (by decide : 0 + 0 ≤ _)⟩)
      dsimp only [Pt.U, Pt.locs, Pt.cells, Pt.slots] at X2 l2 y2 z2 st2 hQ2
      subst l2 y2 z2
      obtain ⟨rfl, N2q, e2q⟩ := hQ2
      have N2 := Fr.app N0 N2q
      refine Ends.go st2 ?_
      show Ends p e below s T2 (mkF m 25 #[.val (.long q0), .second, .val (.int p1), .val (.int p2), .val (.int p3), .val (.long (q0 &&& (9223372036854775807 : Int64))), .second, .val (.int (0 : Int32)), .unset, .unset, .unset, .unset, .unset] [(.ref w_ENDS)]) _ _ _
      refine Ends.go (fun _ k => XS.astore X2.here hx rfl (hb hby at_25) rfl rfl (l' := #[.val (.long q0), .second, .val (.int p1), .val (.int p2), .val (.int p3), .val (.long (q0 &&& (9223372036854775807 : Int64))), .second, .val (.int (0 : Int32)), .val (.ref w_ENDS), .unset, .unset, .unset, .unset]) rfl k) ?_
      show Ends p e below s T2 (mkF m 27 #[.val (.long q0), .second, .val (.int p1), .val (.int p2), .val (.int p3), .val (.long (q0 &&& (9223372036854775807 : Int64))), .second, .val (.int (0 : Int32)), .val (.ref w_ENDS), .unset, .unset, .unset, .unset] []) _ _ _
      refine Ends.go (fun _ k => XS.aload X2.here hx rfl (hb hby at_27) rfl rfl k) ?_
      show Ends p e below s T2 (mkF m 29 #[.val (.long q0), .second, .val (.int p1), .val (.int p2), .val (.int p3), .val (.long (q0 &&& (9223372036854775807 : Int64))), .second, .val (.int (0 : Int32)), .val (.ref w_ENDS), .unset, .unset, .unset, .unset] [(.ref w_ENDS)]) _ _ _
      refine Ends.go (fun _ k => XS.lload X2.here hx rfl (hb hby at_29) rfl k) ?_
      show Ends p e below s T2 (mkF m 31 #[.val (.long q0), .second, .val (.int p1), .val (.int p2), .val (.int p3), .val (.long (q0 &&& (9223372036854775807 : Int64))), .second, .val (.int (0 : Int32)), .val (.ref w_ENDS), .unset, .unset, .unset, .unset] [(.long (q0 &&& (9223372036854775807 : Int64))), (.ref w_ENDS)]) _ _ _
      refine Ends.go (fun _ k => XS.iloadN X2.here hx rfl (hb hby at_31) rfl k) ?_
      show Ends p e below s T2 (mkF m 32 #[.val (.long q0), .second, .val (.int p1), .val (.int p2), .val (.int p3), .val (.long (q0 &&& (9223372036854775807 : Int64))), .second, .val (.int (0 : Int32)), .val (.ref w_ENDS), .unset, .unset, .unset, .unset] [(.int p1), (.long (q0 &&& (9223372036854775807 : Int64))), (.ref w_ENDS)]) _ _ _
      refine Ends.go (fun _ k => XS.iload X2.here hx rfl (hb hby at_32) rfl k) ?_
      show Ends p e below s T2 (mkF m 34 #[.val (.long q0), .second, .val (.int p1), .val (.int p2), .val (.int p3), .val (.long (q0 &&& (9223372036854775807 : Int64))), .second, .val (.int (0 : Int32)), .val (.ref w_ENDS), .unset, .unset, .unset, .unset] [(.int (0 : Int32)), (.int p1), (.long (q0 &&& (9223372036854775807 : Int64))), (.ref w_ENDS)]) _ _ _
      obtain ⟨cq3, kq3, q3a, q3b, q3c⟩ := isOf hZ e2q (E_ENDS.ext O0.2)
      obtain ⟨_, _, ⟨T3, L3, k3, n3⟩, -, X3, ⟨Lc3, hQ3, l3, y3, z3⟩, st3⟩ := X2.virtualBack hx (y := (⟨"com/example/sindano/sindano/boyermoore/Stretches$FastForm", "budget", "(JIZ)J"⟩ : MethodName)) (z := (⟨"com/example/sindano/sindano/boyermoore/Stretches$FastForm", "budget", "(JIZ)J"⟩ : MethodName)) hown (mvT hZ (hw _ (List.mem_of_getElem? (i := 8) rfl))) (mvT hZ (hw _ (List.mem_of_getElem? (i := 9) rfl))) (notFace_of_selects (args := #[]) (mvT hZ (hw _ (List.mem_of_getElem? (i := 11) rfl)))) (mvT hZ (hw _ (List.mem_of_getElem? (i := 11) rfl))) (mvT hZ (hw _ (List.mem_of_getElem? (i := 10) rfl))) (by decide) (own_backOf (W := 0) (rmB l Z a0 hw [] n0 h0 O0 w_ENDS (q0 &&& (9223372036854775807 : Int64)) p1 (0 : Int32) w_ENDS_THEN_CLASSIC w_PAIRS w_ENDS w_ENDS_THEN_EXACT FF0 (p1.toInt64) (by rw [if_neg (Fld.ne F_ordinal_ENDS F_ordinal_PAIRS (by decide)), if_pos rfl])) hZ (hw _ (List.mem_of_getElem? (i := 12) rfl)) (hw _ (List.mem_of_getElem? (i := 6) rfl)) (by decide) (by decide)) q3a q3c (g := (mkF m 34 #[.val (.long q0), .second, .val (.int p1), .val (.int p2), .val (.int p3), .val (.long (q0 &&& (9223372036854775807 : Int64))), .second, .val (.int (0 : Int32)), .val (.ref w_ENDS), .unset, .unset, .unset, .unset] [(.int (0 : Int32)), (.int p1), (.long (q0 &&& (9223372036854775807 : Int64))), (.ref w_ENDS)])) rfl (by rw [hml]; rfl) (Steps.refl _) (argsL := [(.long (q0 &&& (9223372036854775807 : Int64))), (.int p1), (.int (0 : Int32))]) (rest := []) (lenOf pd0_1 rfl) rfl (by show 2 * 0 + _ ≤ _; exact Nat.le_of_eq rfl) (hb hby at_34) (fun _ _ => ⟨rfl, e2q, (by decide : 0 + 0 ≤ _), (by decide : 0 + 0 ≤ _)⟩)
      dsimp only [Pt.U, Pt.locs, Pt.cells, Pt.slots] at X3 l3 y3 z3 st3 hQ3
      subst l3 y3 z3
      obtain ⟨rfl, N3q, e3q⟩ := hQ3
      have N3 := Fr.app N2 N3q
      refine Ends.go (fun _ k => st3.trans k) ?_
      show Ends p e below s T3 (mkF m 37 #[.val (.long q0), .second, .val (.int p1), .val (.int p2), .val (.int p3), .val (.long (q0 &&& (9223372036854775807 : Int64))), .second, .val (.int (0 : Int32)), .val (.ref w_ENDS), .unset, .unset, .unset, .unset] [(.long (p1.toInt64))]) _ _ _
      refine Ends.go (fun _ k => XS.lstore X3.here hx rfl (hb hby at_37) rfl (l' := #[.val (.long q0), .second, .val (.int p1), .val (.int p2), .val (.int p3), .val (.long (q0 &&& (9223372036854775807 : Int64))), .second, .val (.int (0 : Int32)), .val (.ref w_ENDS), .val (.long (p1.toInt64)), .second, .unset, .unset]) rfl k) ?_
      show Ends p e below s T3 (mkF m 39 #[.val (.long q0), .second, .val (.int p1), .val (.int p2), .val (.int p3), .val (.long (q0 &&& (9223372036854775807 : Int64))), .second, .val (.int (0 : Int32)), .val (.ref w_ENDS), .val (.long (p1.toInt64)), .second, .unset, .unset] []) _ _ _
      refine Ends.go (fun _ k => XS.aload X3.here hx rfl (hb hby at_39) rfl rfl k) ?_
      show Ends p e below s T3 (mkF m 41 #[.val (.long q0), .second, .val (.int p1), .val (.int p2), .val (.int p3), .val (.long (q0 &&& (9223372036854775807 : Int64))), .second, .val (.int (0 : Int32)), .val (.ref w_ENDS), .val (.long (p1.toInt64)), .second, .unset, .unset] [(.ref w_ENDS)]) _ _ _
      obtain ⟨T4, X4, e4, st4⟩ := getS2 X3 hx hZ hown (host := "") (Or.inl (hw _ (List.mem_of_getElem? (i := 18) rfl))) Via.refl e3q (S_PAIRS.ext O0.2) (g := (mkF m 41 #[.val (.long q0), .second, .val (.int p1), .val (.int p2), .val (.int p3), .val (.long (q0 &&& (9223372036854775807 : Int64))), .second, .val (.int (0 : Int32)), .val (.ref w_ENDS), .val (.long (p1.toInt64)), .second, .unset, .unset] [(.ref w_ENDS)])) rfl (hb hby at_41)
      refine Ends.go st4 ?_
      show Ends p e below s T4 (mkF m 44 #[.val (.long q0), .second, .val (.int p1), .val (.int p2), .val (.int p3), .val (.long (q0 &&& (9223372036854775807 : Int64))), .second, .val (.int (0 : Int32)), .val (.ref w_ENDS), .val (.long (p1.toInt64)), .second, .unset, .unset] [(.ref w_PAIRS), (.ref w_ENDS)]) _ _ _
      refine Ends.go (fun _ k => Jvm.RoadKit.acmp (g := (mkF m 44 #[.val (.long q0), .second, .val (.int p1), .val (.int p2), .val (.int p3), .val (.long (q0 &&& (9223372036854775807 : Int64))), .second, .val (.int (0 : Int32)), .val (.ref w_ENDS), .val (.long (p1.toInt64)), .second, .unset, .unset] [(.ref w_PAIRS), (.ref w_ENDS)])) X4 hx rfl rfl rfl (pc0 := 44) (pc' := 92) (same := false) rfl (hb hby at_44) rfl (decide_eq_false fun q => (Fld.ne F_ordinal_ENDS F_ordinal_PAIRS (by decide)) (Value.ref.inj q)) (by decide) (by decide) k) ?_
      show Ends p e below s T4 (mkF m 92 #[.val (.long q0), .second, .val (.int p1), .val (.int p2), .val (.int p3), .val (.long (q0 &&& (9223372036854775807 : Int64))), .second, .val (.int (0 : Int32)), .val (.ref w_ENDS), .val (.long (p1.toInt64)), .second, .unset, .unset] []) _ _ _
      refine Ends.go (fun _ k => XS.aload X4.here hx rfl (hb hby at_92) rfl rfl k) ?_
      show Ends p e below s T4 (mkF m 94 #[.val (.long q0), .second, .val (.int p1), .val (.int p2), .val (.int p3), .val (.long (q0 &&& (9223372036854775807 : Int64))), .second, .val (.int (0 : Int32)), .val (.ref w_ENDS), .val (.long (p1.toInt64)), .second, .unset, .unset] [(.ref w_ENDS)]) _ _ _
      obtain ⟨T5, X5, e5, st5⟩ := getS2 X4 hx hZ hown (host := "") (Or.inl (hw _ (List.mem_of_getElem? (i := 19) rfl))) Via.refl e4 (S_ENDS.ext O0.2) (g := (mkF m 94 #[.val (.long q0), .second, .val (.int p1), .val (.int p2), .val (.int p3), .val (.long (q0 &&& (9223372036854775807 : Int64))), .second, .val (.int (0 : Int32)), .val (.ref w_ENDS), .val (.long (p1.toInt64)), .second, .unset, .unset] [(.ref w_ENDS)])) rfl (hb hby at_94)
      refine Ends.go st5 ?_
      show Ends p e below s T5 (mkF m 97 #[.val (.long q0), .second, .val (.int p1), .val (.int p2), .val (.int p3), .val (.long (q0 &&& (9223372036854775807 : Int64))), .second, .val (.int (0 : Int32)), .val (.ref w_ENDS), .val (.long (p1.toInt64)), .second, .unset, .unset] [(.ref w_ENDS), (.ref w_ENDS)]) _ _ _
      refine Ends.go (fun _ k => Jvm.RoadKit.acmp (g := (mkF m 97 #[.val (.long q0), .second, .val (.int p1), .val (.int p2), .val (.int p3), .val (.long (q0 &&& (9223372036854775807 : Int64))), .second, .val (.int (0 : Int32)), .val (.ref w_ENDS), .val (.long (p1.toInt64)), .second, .unset, .unset] [(.ref w_ENDS), (.ref w_ENDS)])) X5 hx rfl rfl rfl (pc0 := 97) (pc' := 100) (same := true) rfl (hb hby at_97) rfl (decide_eq_true rfl) (by decide) (by decide) k) ?_
      show Ends p e below s T5 (mkF m 100 #[.val (.long q0), .second, .val (.int p1), .val (.int p2), .val (.int p3), .val (.long (q0 &&& (9223372036854775807 : Int64))), .second, .val (.int (0 : Int32)), .val (.ref w_ENDS), .val (.long (p1.toInt64)), .second, .unset, .unset] []) _ _ _
      refine Ends.go (fun _ k => XS.lload X5.here hx rfl (hb hby at_100) rfl k) ?_
      show Ends p e below s T5 (mkF m 102 #[.val (.long q0), .second, .val (.int p1), .val (.int p2), .val (.int p3), .val (.long (q0 &&& (9223372036854775807 : Int64))), .second, .val (.int (0 : Int32)), .val (.ref w_ENDS), .val (.long (p1.toInt64)), .second, .unset, .unset] [(.long (p1.toInt64))]) _ _ _
      refine Ends.go (fun _ k => XS.iloadN X5.here hx rfl (hb hby at_102) rfl k) ?_
      show Ends p e below s T5 (mkF m 103 #[.val (.long q0), .second, .val (.int p1), .val (.int p2), .val (.int p3), .val (.long (q0 &&& (9223372036854775807 : Int64))), .second, .val (.int (0 : Int32)), .val (.ref w_ENDS), .val (.long (p1.toInt64)), .second, .unset, .unset] [(.int p1), (.long (p1.toInt64))]) _ _ _
      refine Ends.go (fun _ k => XS.i2l X5.here hx rfl (hb hby at_103) rfl k) ?_
      show Ends p e below s T5 (mkF m 104 #[.val (.long q0), .second, .val (.int p1), .val (.int p2), .val (.int p3), .val (.long (q0 &&& (9223372036854775807 : Int64))), .second, .val (.int (0 : Int32)), .val (.ref w_ENDS), .val (.long (p1.toInt64)), .second, .unset, .unset] [(.long (p1.toInt64)), (.long (p1.toInt64))]) _ _ _
      refine Ends.go (fun _ k => XS.lcmp X5.here hx rfl (hb hby at_104) rfl k) ?_
      show Ends p e below s T5 (mkF m 105 #[.val (.long q0), .second, .val (.int p1), .val (.int p2), .val (.int p3), .val (.long (q0 &&& (9223372036854775807 : Int64))), .second, .val (.int (0 : Int32)), .val (.ref w_ENDS), .val (.long (p1.toInt64)), .second, .unset, .unset] [(.int (lcmpW (p1.toInt64) (p1.toInt64)))]) _ _ _
      refine Ends.go (fun _ k => XS.ifNo X5.here hx rfl (hb hby at_105) rfl ((if0 _ _).trans (teq ((lw_eq _ _).mpr rfl : (lcmpW (p1.toInt64) (p1.toInt64)) = (0 : Int32))).2) k) ?_
      show Ends p e below s T5 (mkF m 108 #[.val (.long q0), .second, .val (.int p1), .val (.int p2), .val (.int p3), .val (.long (q0 &&& (9223372036854775807 : Int64))), .second, .val (.int (0 : Int32)), .val (.ref w_ENDS), .val (.long (p1.toInt64)), .second, .unset, .unset] []) _ _ _
      refine Ends.go (fun _ k => XS.iconst X5.here hx rfl (hb hby at_108) k) ?_
      show Ends p e below s T5 (mkF m 109 #[.val (.long q0), .second, .val (.int p1), .val (.int p2), .val (.int p3), .val (.long (q0 &&& (9223372036854775807 : Int64))), .second, .val (.int (0 : Int32)), .val (.ref w_ENDS), .val (.long (p1.toInt64)), .second, .unset, .unset] [(.int (1 : Int32))]) _ _ _
      refine Ends.go (fun _ k => XS.goto X5.here hx rfl (pc0 := 109) (pc' := 113) rfl (hb hby at_109) (by decide) (by decide) k) ?_
      show Ends p e below s T5 (mkF m 113 #[.val (.long q0), .second, .val (.int p1), .val (.int p2), .val (.int p3), .val (.long (q0 &&& (9223372036854775807 : Int64))), .second, .val (.int (0 : Int32)), .val (.ref w_ENDS), .val (.long (p1.toInt64)), .second, .unset, .unset] [(.int (1 : Int32))]) _ _ _
      refine Ends.retZ X5 hx Bd.notSynchronized (t := .boolean) Bd.returns (by simp) (hb hby at_113) (by decide) (by decide) ?_
      exact ⟨rfl, N3⟩
    · obtain ⟨_, _, ⟨T6, L6, k6, n6⟩, -, X6, ⟨Lc6, hQ6, l6, y6, z6⟩, st6⟩ := Jvm.LawKit.callS X0 hx (y := (⟨"com/example/sindano/sindano/boyermoore/FastFormBudgetPinLaw", "pick", "(I)Lcom/example/sindano/sindano/boyermoore/Stretches$FastForm;"⟩ : MethodName)) hown (mvT hZ (hw _ (List.mem_of_getElem? (i := 1) rfl))) (mvT hZ (hw _ (List.mem_of_getElem? (i := 2) rfl))) (mvT hZ (hw _ (List.mem_of_getElem? (i := 3) rfl))) (mvT hZ (hw _ (List.mem_of_getElem? (i := 4) rfl))) (by decide) (own_backOf (W := 0) (rmP l Z a0 hw [] n0 h0 O0 p2 w_ENDS_THEN_CLASSIC w_PAIRS w_ENDS w_ENDS_THEN_EXACT FF0 w_ENDS_THEN_CLASSIC (by rw [hk]; simp)) hZ (hw _ (List.mem_of_getElem? (i := 4) rfl)) (hw _ (List.mem_of_getElem? (i := 3) rfl)) (by decide) (by decide)) (g := (mkF m 22 #[.val (.long q0), .second, .val (.int p1), .val (.int p2), .val (.int p3), .val (.long (q0 &&& (9223372036854775807 : Int64))), .second, .val (.int (0 : Int32)), .unset, .unset, .unset, .unset, .unset] [(.int p2)])) rfl (by rw [hml]; rfl) (argsL := [(.int p2)]) (rest := []) (lenOf pd0_0 rfl) rfl (by show 2 * 0 + _ ≤ _; exact Nat.le_of_eq rfl) (hb hby at_22) (fun _ _ => ⟨rfl, e0, (by decide : 0 + 0 ≤ _), (by decide : 0 + 0 ≤ _)⟩)
      dsimp only [Pt.U, Pt.locs, Pt.cells, Pt.slots] at X6 l6 y6 z6 st6 hQ6
      subst l6 y6 z6
      obtain ⟨rfl, N6q, e6q⟩ := hQ6
      have N6 := Fr.app N0 N6q
      refine Ends.go st6 ?_
      show Ends p e below s T6 (mkF m 25 #[.val (.long q0), .second, .val (.int p1), .val (.int p2), .val (.int p3), .val (.long (q0 &&& (9223372036854775807 : Int64))), .second, .val (.int (0 : Int32)), .unset, .unset, .unset, .unset, .unset] [(.ref w_ENDS_THEN_CLASSIC)]) _ _ _
      refine Ends.go (fun _ k => XS.astore X6.here hx rfl (hb hby at_25) rfl rfl (l' := #[.val (.long q0), .second, .val (.int p1), .val (.int p2), .val (.int p3), .val (.long (q0 &&& (9223372036854775807 : Int64))), .second, .val (.int (0 : Int32)), .val (.ref w_ENDS_THEN_CLASSIC), .unset, .unset, .unset, .unset]) rfl k) ?_
      show Ends p e below s T6 (mkF m 27 #[.val (.long q0), .second, .val (.int p1), .val (.int p2), .val (.int p3), .val (.long (q0 &&& (9223372036854775807 : Int64))), .second, .val (.int (0 : Int32)), .val (.ref w_ENDS_THEN_CLASSIC), .unset, .unset, .unset, .unset] []) _ _ _
      refine Ends.go (fun _ k => XS.aload X6.here hx rfl (hb hby at_27) rfl rfl k) ?_
      show Ends p e below s T6 (mkF m 29 #[.val (.long q0), .second, .val (.int p1), .val (.int p2), .val (.int p3), .val (.long (q0 &&& (9223372036854775807 : Int64))), .second, .val (.int (0 : Int32)), .val (.ref w_ENDS_THEN_CLASSIC), .unset, .unset, .unset, .unset] [(.ref w_ENDS_THEN_CLASSIC)]) _ _ _
      refine Ends.go (fun _ k => XS.lload X6.here hx rfl (hb hby at_29) rfl k) ?_
      show Ends p e below s T6 (mkF m 31 #[.val (.long q0), .second, .val (.int p1), .val (.int p2), .val (.int p3), .val (.long (q0 &&& (9223372036854775807 : Int64))), .second, .val (.int (0 : Int32)), .val (.ref w_ENDS_THEN_CLASSIC), .unset, .unset, .unset, .unset] [(.long (q0 &&& (9223372036854775807 : Int64))), (.ref w_ENDS_THEN_CLASSIC)]) _ _ _
      refine Ends.go (fun _ k => XS.iloadN X6.here hx rfl (hb hby at_31) rfl k) ?_
      show Ends p e below s T6 (mkF m 32 #[.val (.long q0), .second, .val (.int p1), .val (.int p2), .val (.int p3), .val (.long (q0 &&& (9223372036854775807 : Int64))), .second, .val (.int (0 : Int32)), .val (.ref w_ENDS_THEN_CLASSIC), .unset, .unset, .unset, .unset] [(.int p1), (.long (q0 &&& (9223372036854775807 : Int64))), (.ref w_ENDS_THEN_CLASSIC)]) _ _ _
      refine Ends.go (fun _ k => XS.iload X6.here hx rfl (hb hby at_32) rfl k) ?_
      show Ends p e below s T6 (mkF m 34 #[.val (.long q0), .second, .val (.int p1), .val (.int p2), .val (.int p3), .val (.long (q0 &&& (9223372036854775807 : Int64))), .second, .val (.int (0 : Int32)), .val (.ref w_ENDS_THEN_CLASSIC), .unset, .unset, .unset, .unset] [(.int (0 : Int32)), (.int p1), (.long (q0 &&& (9223372036854775807 : Int64))), (.ref w_ENDS_THEN_CLASSIC)]) _ _ _
      obtain ⟨cq7, kq7, q7a, q7b, q7c⟩ := isOf hZ e6q (E_ENDS_THEN_CLASSIC.ext O0.2)
      obtain ⟨_, _, ⟨T7, L7, k7, n7⟩, -, X7, ⟨Lc7, hQ7, l7, y7, z7⟩, st7⟩ := X6.virtualBack hx (y := (⟨"com/example/sindano/sindano/boyermoore/Stretches$FastForm", "budget", "(JIZ)J"⟩ : MethodName)) (z := (⟨"com/example/sindano/sindano/boyermoore/Stretches$FastForm", "budget", "(JIZ)J"⟩ : MethodName)) hown (mvT hZ (hw _ (List.mem_of_getElem? (i := 8) rfl))) (mvT hZ (hw _ (List.mem_of_getElem? (i := 9) rfl))) (notFace_of_selects (args := #[]) (mvT hZ (hw _ (List.mem_of_getElem? (i := 11) rfl)))) (mvT hZ (hw _ (List.mem_of_getElem? (i := 11) rfl))) (mvT hZ (hw _ (List.mem_of_getElem? (i := 10) rfl))) (by decide) (own_backOf (W := 0) (rmB l Z a0 hw [] n0 h0 O0 w_ENDS_THEN_CLASSIC (q0 &&& (9223372036854775807 : Int64)) p1 (0 : Int32) w_ENDS_THEN_CLASSIC w_PAIRS w_ENDS w_ENDS_THEN_EXACT FF0 ((-4 : Int64) * p1.toInt64) (by rw [if_neg (Fld.ne F_ordinal_ENDS_THEN_CLASSIC F_ordinal_PAIRS (by decide)), if_neg (Fld.ne F_ordinal_ENDS_THEN_CLASSIC F_ordinal_ENDS (by decide))])) hZ (hw _ (List.mem_of_getElem? (i := 12) rfl)) (hw _ (List.mem_of_getElem? (i := 6) rfl)) (by decide) (by decide)) q7a q7c (g := (mkF m 34 #[.val (.long q0), .second, .val (.int p1), .val (.int p2), .val (.int p3), .val (.long (q0 &&& (9223372036854775807 : Int64))), .second, .val (.int (0 : Int32)), .val (.ref w_ENDS_THEN_CLASSIC), .unset, .unset, .unset, .unset] [(.int (0 : Int32)), (.int p1), (.long (q0 &&& (9223372036854775807 : Int64))), (.ref w_ENDS_THEN_CLASSIC)])) rfl (by rw [hml]; rfl) (Steps.refl _) (argsL := [(.long (q0 &&& (9223372036854775807 : Int64))), (.int p1), (.int (0 : Int32))]) (rest := []) (lenOf pd0_1 rfl) rfl (by show 2 * 0 + _ ≤ _; exact Nat.le_of_eq rfl) (hb hby at_34) (fun _ _ => ⟨rfl, e6q, (by decide : 0 + 0 ≤ _), (by decide : 0 + 0 ≤ _)⟩)
      dsimp only [Pt.U, Pt.locs, Pt.cells, Pt.slots] at X7 l7 y7 z7 st7 hQ7
      subst l7 y7 z7
      obtain ⟨rfl, N7q, e7q⟩ := hQ7
      have N7 := Fr.app N6 N7q
      refine Ends.go (fun _ k => st7.trans k) ?_
      show Ends p e below s T7 (mkF m 37 #[.val (.long q0), .second, .val (.int p1), .val (.int p2), .val (.int p3), .val (.long (q0 &&& (9223372036854775807 : Int64))), .second, .val (.int (0 : Int32)), .val (.ref w_ENDS_THEN_CLASSIC), .unset, .unset, .unset, .unset] [(.long ((-4 : Int64) * p1.toInt64))]) _ _ _
      refine Ends.go (fun _ k => XS.lstore X7.here hx rfl (hb hby at_37) rfl (l' := #[.val (.long q0), .second, .val (.int p1), .val (.int p2), .val (.int p3), .val (.long (q0 &&& (9223372036854775807 : Int64))), .second, .val (.int (0 : Int32)), .val (.ref w_ENDS_THEN_CLASSIC), .val (.long ((-4 : Int64) * p1.toInt64)), .second, .unset, .unset]) rfl k) ?_
      show Ends p e below s T7 (mkF m 39 #[.val (.long q0), .second, .val (.int p1), .val (.int p2), .val (.int p3), .val (.long (q0 &&& (9223372036854775807 : Int64))), .second, .val (.int (0 : Int32)), .val (.ref w_ENDS_THEN_CLASSIC), .val (.long ((-4 : Int64) * p1.toInt64)), .second, .unset, .unset] []) _ _ _
      refine Ends.go (fun _ k => XS.aload X7.here hx rfl (hb hby at_39) rfl rfl k) ?_
      show Ends p e below s T7 (mkF m 41 #[.val (.long q0), .second, .val (.int p1), .val (.int p2), .val (.int p3), .val (.long (q0 &&& (9223372036854775807 : Int64))), .second, .val (.int (0 : Int32)), .val (.ref w_ENDS_THEN_CLASSIC), .val (.long ((-4 : Int64) * p1.toInt64)), .second, .unset, .unset] [(.ref w_ENDS_THEN_CLASSIC)]) _ _ _
      obtain ⟨T8, X8, e8, st8⟩ := getS2 X7 hx hZ hown (host := "") (Or.inl (hw _ (List.mem_of_getElem? (i := 18) rfl))) Via.refl e7q (S_PAIRS.ext O0.2) (g := (mkF m 41 #[.val (.long q0), .second, .val (.int p1), .val (.int p2), .val (.int p3), .val (.long (q0 &&& (9223372036854775807 : Int64))), .second, .val (.int (0 : Int32)), .val (.ref w_ENDS_THEN_CLASSIC), .val (.long ((-4 : Int64) * p1.toInt64)), .second, .unset, .unset] [(.ref w_ENDS_THEN_CLASSIC)])) rfl (hb hby at_41)
      refine Ends.go st8 ?_
      show Ends p e below s T8 (mkF m 44 #[.val (.long q0), .second, .val (.int p1), .val (.int p2), .val (.int p3), .val (.long (q0 &&& (9223372036854775807 : Int64))), .second, .val (.int (0 : Int32)), .val (.ref w_ENDS_THEN_CLASSIC), .val (.long ((-4 : Int64) * p1.toInt64)), .second, .unset, .unset] [(.ref w_PAIRS), (.ref w_ENDS_THEN_CLASSIC)]) _ _ _
      refine Ends.go (fun _ k => Jvm.RoadKit.acmp (g := (mkF m 44 #[.val (.long q0), .second, .val (.int p1), .val (.int p2), .val (.int p3), .val (.long (q0 &&& (9223372036854775807 : Int64))), .second, .val (.int (0 : Int32)), .val (.ref w_ENDS_THEN_CLASSIC), .val (.long ((-4 : Int64) * p1.toInt64)), .second, .unset, .unset] [(.ref w_PAIRS), (.ref w_ENDS_THEN_CLASSIC)])) X8 hx rfl rfl rfl (pc0 := 44) (pc' := 92) (same := false) rfl (hb hby at_44) rfl (decide_eq_false fun q => (Fld.ne F_ordinal_ENDS_THEN_CLASSIC F_ordinal_PAIRS (by decide)) (Value.ref.inj q)) (by decide) (by decide) k) ?_
      show Ends p e below s T8 (mkF m 92 #[.val (.long q0), .second, .val (.int p1), .val (.int p2), .val (.int p3), .val (.long (q0 &&& (9223372036854775807 : Int64))), .second, .val (.int (0 : Int32)), .val (.ref w_ENDS_THEN_CLASSIC), .val (.long ((-4 : Int64) * p1.toInt64)), .second, .unset, .unset] []) _ _ _
      refine Ends.go (fun _ k => XS.aload X8.here hx rfl (hb hby at_92) rfl rfl k) ?_
      show Ends p e below s T8 (mkF m 94 #[.val (.long q0), .second, .val (.int p1), .val (.int p2), .val (.int p3), .val (.long (q0 &&& (9223372036854775807 : Int64))), .second, .val (.int (0 : Int32)), .val (.ref w_ENDS_THEN_CLASSIC), .val (.long ((-4 : Int64) * p1.toInt64)), .second, .unset, .unset] [(.ref w_ENDS_THEN_CLASSIC)]) _ _ _
      obtain ⟨T9, X9, e9, st9⟩ := getS2 X8 hx hZ hown (host := "") (Or.inl (hw _ (List.mem_of_getElem? (i := 19) rfl))) Via.refl e8 (S_ENDS.ext O0.2) (g := (mkF m 94 #[.val (.long q0), .second, .val (.int p1), .val (.int p2), .val (.int p3), .val (.long (q0 &&& (9223372036854775807 : Int64))), .second, .val (.int (0 : Int32)), .val (.ref w_ENDS_THEN_CLASSIC), .val (.long ((-4 : Int64) * p1.toInt64)), .second, .unset, .unset] [(.ref w_ENDS_THEN_CLASSIC)])) rfl (hb hby at_94)
      refine Ends.go st9 ?_
      show Ends p e below s T9 (mkF m 97 #[.val (.long q0), .second, .val (.int p1), .val (.int p2), .val (.int p3), .val (.long (q0 &&& (9223372036854775807 : Int64))), .second, .val (.int (0 : Int32)), .val (.ref w_ENDS_THEN_CLASSIC), .val (.long ((-4 : Int64) * p1.toInt64)), .second, .unset, .unset] [(.ref w_ENDS), (.ref w_ENDS_THEN_CLASSIC)]) _ _ _
      refine Ends.go (fun _ k => Jvm.RoadKit.acmp (g := (mkF m 97 #[.val (.long q0), .second, .val (.int p1), .val (.int p2), .val (.int p3), .val (.long (q0 &&& (9223372036854775807 : Int64))), .second, .val (.int (0 : Int32)), .val (.ref w_ENDS_THEN_CLASSIC), .val (.long ((-4 : Int64) * p1.toInt64)), .second, .unset, .unset] [(.ref w_ENDS), (.ref w_ENDS_THEN_CLASSIC)])) X9 hx rfl rfl rfl (pc0 := 97) (pc' := 114) (same := false) rfl (hb hby at_97) rfl (decide_eq_false fun q => (Fld.ne F_ordinal_ENDS_THEN_CLASSIC F_ordinal_ENDS (by decide)) (Value.ref.inj q)) (by decide) (by decide) k) ?_
      show Ends p e below s T9 (mkF m 114 #[.val (.long q0), .second, .val (.int p1), .val (.int p2), .val (.int p3), .val (.long (q0 &&& (9223372036854775807 : Int64))), .second, .val (.int (0 : Int32)), .val (.ref w_ENDS_THEN_CLASSIC), .val (.long ((-4 : Int64) * p1.toInt64)), .second, .unset, .unset] []) _ _ _
      refine Ends.go (fun _ k => XS.lload X9.here hx rfl (hb hby at_114) rfl k) ?_
      show Ends p e below s T9 (mkF m 116 #[.val (.long q0), .second, .val (.int p1), .val (.int p2), .val (.int p3), .val (.long (q0 &&& (9223372036854775807 : Int64))), .second, .val (.int (0 : Int32)), .val (.ref w_ENDS_THEN_CLASSIC), .val (.long ((-4 : Int64) * p1.toInt64)), .second, .unset, .unset] [(.long ((-4 : Int64) * p1.toInt64))]) _ _ _
      refine Ends.go (fun _ k => XS.iloadN X9.here hx rfl (hb hby at_116) rfl k) ?_
      show Ends p e below s T9 (mkF m 117 #[.val (.long q0), .second, .val (.int p1), .val (.int p2), .val (.int p3), .val (.long (q0 &&& (9223372036854775807 : Int64))), .second, .val (.int (0 : Int32)), .val (.ref w_ENDS_THEN_CLASSIC), .val (.long ((-4 : Int64) * p1.toInt64)), .second, .unset, .unset] [(.int p1), (.long ((-4 : Int64) * p1.toInt64))]) _ _ _
      refine Ends.go (fun _ k => XS.i2l X9.here hx rfl (hb hby at_117) rfl k) ?_
      show Ends p e below s T9 (mkF m 118 #[.val (.long q0), .second, .val (.int p1), .val (.int p2), .val (.int p3), .val (.long (q0 &&& (9223372036854775807 : Int64))), .second, .val (.int (0 : Int32)), .val (.ref w_ENDS_THEN_CLASSIC), .val (.long ((-4 : Int64) * p1.toInt64)), .second, .unset, .unset] [(.long (p1.toInt64)), (.long ((-4 : Int64) * p1.toInt64))]) _ _ _
      refine Ends.go (X9.ldc2Long hx hown (mvT hZ (hw _ (List.mem_of_getElem? (i := 20) rfl))) (g := (mkF m 118 #[.val (.long q0), .second, .val (.int p1), .val (.int p2), .val (.int p3), .val (.long (q0 &&& (9223372036854775807 : Int64))), .second, .val (.int (0 : Int32)), .val (.ref w_ENDS_THEN_CLASSIC), .val (.long ((-4 : Int64) * p1.toInt64)), .second, .unset, .unset] [(.long (p1.toInt64)), (.long ((-4 : Int64) * p1.toInt64))])) rfl (hb hby at_118)) ?_
      show Ends p e below s T9 (mkF m 121 #[.val (.long q0), .second, .val (.int p1), .val (.int p2), .val (.int p3), .val (.long (q0 &&& (9223372036854775807 : Int64))), .second, .val (.int (0 : Int32)), .val (.ref w_ENDS_THEN_CLASSIC), .val (.long ((-4 : Int64) * p1.toInt64)), .second, .unset, .unset] [(.long (-4 : Int64)), (.long (p1.toInt64)), (.long ((-4 : Int64) * p1.toInt64))]) _ _ _
      refine Ends.go (fun _ k => XS.lmul X9.here hx rfl (hb hby at_121) rfl k) ?_
      show Ends p e below s T9 (mkF m 122 #[.val (.long q0), .second, .val (.int p1), .val (.int p2), .val (.int p3), .val (.long (q0 &&& (9223372036854775807 : Int64))), .second, .val (.int (0 : Int32)), .val (.ref w_ENDS_THEN_CLASSIC), .val (.long ((-4 : Int64) * p1.toInt64)), .second, .unset, .unset] [(.long ((p1.toInt64) * (-4 : Int64))), (.long ((-4 : Int64) * p1.toInt64))]) _ _ _
      refine Ends.go (fun _ k => XS.lcmp X9.here hx rfl (hb hby at_122) rfl k) ?_
      show Ends p e below s T9 (mkF m 123 #[.val (.long q0), .second, .val (.int p1), .val (.int p2), .val (.int p3), .val (.long (q0 &&& (9223372036854775807 : Int64))), .second, .val (.int (0 : Int32)), .val (.ref w_ENDS_THEN_CLASSIC), .val (.long ((-4 : Int64) * p1.toInt64)), .second, .unset, .unset] [(.int (lcmpW ((-4 : Int64) * p1.toInt64) ((p1.toInt64) * (-4 : Int64))))]) _ _ _
      refine Ends.go (fun _ k => XS.ifNo X9.here hx rfl (hb hby at_123) rfl ((if0 _ _).trans (teq ((lw_eq _ _).mpr (Int64.mul_comm _ _) : (lcmpW ((-4 : Int64) * p1.toInt64) ((p1.toInt64) * (-4 : Int64))) = (0 : Int32))).2) k) ?_
      show Ends p e below s T9 (mkF m 126 #[.val (.long q0), .second, .val (.int p1), .val (.int p2), .val (.int p3), .val (.long (q0 &&& (9223372036854775807 : Int64))), .second, .val (.int (0 : Int32)), .val (.ref w_ENDS_THEN_CLASSIC), .val (.long ((-4 : Int64) * p1.toInt64)), .second, .unset, .unset] []) _ _ _
      refine Ends.go (fun _ k => XS.iconst X9.here hx rfl (hb hby at_126) k) ?_
      show Ends p e below s T9 (mkF m 127 #[.val (.long q0), .second, .val (.int p1), .val (.int p2), .val (.int p3), .val (.long (q0 &&& (9223372036854775807 : Int64))), .second, .val (.int (0 : Int32)), .val (.ref w_ENDS_THEN_CLASSIC), .val (.long ((-4 : Int64) * p1.toInt64)), .second, .unset, .unset] [(.int (1 : Int32))]) _ _ _
      refine Ends.go (fun _ k => XS.goto X9.here hx rfl (pc0 := 127) (pc' := 131) rfl (hb hby at_127) (by decide) (by decide) k) ?_
      show Ends p e below s T9 (mkF m 131 #[.val (.long q0), .second, .val (.int p1), .val (.int p2), .val (.int p3), .val (.long (q0 &&& (9223372036854775807 : Int64))), .second, .val (.int (0 : Int32)), .val (.ref w_ENDS_THEN_CLASSIC), .val (.long ((-4 : Int64) * p1.toInt64)), .second, .unset, .unset] [(.int (1 : Int32))]) _ _ _
      refine Ends.retZ X9 hx Bd.notSynchronized (t := .boolean) Bd.returns (by simp) (hb hby at_131) (by decide) (by decide) ?_
      exact ⟨rfl, N7⟩
    · obtain ⟨_, _, ⟨T10, L10, k10, n10⟩, -, X10, ⟨Lc10, hQ10, l10, y10, z10⟩, st10⟩ := Jvm.LawKit.callS X0 hx (y := (⟨"com/example/sindano/sindano/boyermoore/FastFormBudgetPinLaw", "pick", "(I)Lcom/example/sindano/sindano/boyermoore/Stretches$FastForm;"⟩ : MethodName)) hown (mvT hZ (hw _ (List.mem_of_getElem? (i := 1) rfl))) (mvT hZ (hw _ (List.mem_of_getElem? (i := 2) rfl))) (mvT hZ (hw _ (List.mem_of_getElem? (i := 3) rfl))) (mvT hZ (hw _ (List.mem_of_getElem? (i := 4) rfl))) (by decide) (own_backOf (W := 0) (rmP l Z a0 hw [] n0 h0 O0 p2 w_ENDS_THEN_CLASSIC w_PAIRS w_ENDS w_ENDS_THEN_EXACT FF0 w_ENDS_THEN_EXACT (by rw [hk]; simp)) hZ (hw _ (List.mem_of_getElem? (i := 4) rfl)) (hw _ (List.mem_of_getElem? (i := 3) rfl)) (by decide) (by decide)) (g := (mkF m 22 #[.val (.long q0), .second, .val (.int p1), .val (.int p2), .val (.int p3), .val (.long (q0 &&& (9223372036854775807 : Int64))), .second, .val (.int (0 : Int32)), .unset, .unset, .unset, .unset, .unset] [(.int p2)])) rfl (by rw [hml]; rfl) (argsL := [(.int p2)]) (rest := []) (lenOf pd0_0 rfl) rfl (by show 2 * 0 + _ ≤ _; exact Nat.le_of_eq rfl) (hb hby at_22) (fun _ _ => ⟨rfl, e0, (by decide : 0 + 0 ≤ _), (by decide : 0 + 0 ≤ _)⟩)
      dsimp only [Pt.U, Pt.locs, Pt.cells, Pt.slots] at X10 l10 y10 z10 st10 hQ10
      subst l10 y10 z10
      obtain ⟨rfl, N10q, e10q⟩ := hQ10
      have N10 := Fr.app N0 N10q
      refine Ends.go st10 ?_
      show Ends p e below s T10 (mkF m 25 #[.val (.long q0), .second, .val (.int p1), .val (.int p2), .val (.int p3), .val (.long (q0 &&& (9223372036854775807 : Int64))), .second, .val (.int (0 : Int32)), .unset, .unset, .unset, .unset, .unset] [(.ref w_ENDS_THEN_EXACT)]) _ _ _
      refine Ends.go (fun _ k => XS.astore X10.here hx rfl (hb hby at_25) rfl rfl (l' := #[.val (.long q0), .second, .val (.int p1), .val (.int p2), .val (.int p3), .val (.long (q0 &&& (9223372036854775807 : Int64))), .second, .val (.int (0 : Int32)), .val (.ref w_ENDS_THEN_EXACT), .unset, .unset, .unset, .unset]) rfl k) ?_
      show Ends p e below s T10 (mkF m 27 #[.val (.long q0), .second, .val (.int p1), .val (.int p2), .val (.int p3), .val (.long (q0 &&& (9223372036854775807 : Int64))), .second, .val (.int (0 : Int32)), .val (.ref w_ENDS_THEN_EXACT), .unset, .unset, .unset, .unset] []) _ _ _
      refine Ends.go (fun _ k => XS.aload X10.here hx rfl (hb hby at_27) rfl rfl k) ?_
      show Ends p e below s T10 (mkF m 29 #[.val (.long q0), .second, .val (.int p1), .val (.int p2), .val (.int p3), .val (.long (q0 &&& (9223372036854775807 : Int64))), .second, .val (.int (0 : Int32)), .val (.ref w_ENDS_THEN_EXACT), .unset, .unset, .unset, .unset] [(.ref w_ENDS_THEN_EXACT)]) _ _ _
      refine Ends.go (fun _ k => XS.lload X10.here hx rfl (hb hby at_29) rfl k) ?_
      show Ends p e below s T10 (mkF m 31 #[.val (.long q0), .second, .val (.int p1), .val (.int p2), .val (.int p3), .val (.long (q0 &&& (9223372036854775807 : Int64))), .second, .val (.int (0 : Int32)), .val (.ref w_ENDS_THEN_EXACT), .unset, .unset, .unset, .unset] [(.long (q0 &&& (9223372036854775807 : Int64))), (.ref w_ENDS_THEN_EXACT)]) _ _ _
      refine Ends.go (fun _ k => XS.iloadN X10.here hx rfl (hb hby at_31) rfl k) ?_
      show Ends p e below s T10 (mkF m 32 #[.val (.long q0), .second, .val (.int p1), .val (.int p2), .val (.int p3), .val (.long (q0 &&& (9223372036854775807 : Int64))), .second, .val (.int (0 : Int32)), .val (.ref w_ENDS_THEN_EXACT), .unset, .unset, .unset, .unset] [(.int p1), (.long (q0 &&& (9223372036854775807 : Int64))), (.ref w_ENDS_THEN_EXACT)]) _ _ _
      refine Ends.go (fun _ k => XS.iload X10.here hx rfl (hb hby at_32) rfl k) ?_
      show Ends p e below s T10 (mkF m 34 #[.val (.long q0), .second, .val (.int p1), .val (.int p2), .val (.int p3), .val (.long (q0 &&& (9223372036854775807 : Int64))), .second, .val (.int (0 : Int32)), .val (.ref w_ENDS_THEN_EXACT), .unset, .unset, .unset, .unset] [(.int (0 : Int32)), (.int p1), (.long (q0 &&& (9223372036854775807 : Int64))), (.ref w_ENDS_THEN_EXACT)]) _ _ _
      obtain ⟨cq11, kq11, q11a, q11b, q11c⟩ := isOf hZ e10q (E_ENDS_THEN_EXACT.ext O0.2)
      obtain ⟨_, _, ⟨T11, L11, k11, n11⟩, -, X11, ⟨Lc11, hQ11, l11, y11, z11⟩, st11⟩ := X10.virtualBack hx (y := (⟨"com/example/sindano/sindano/boyermoore/Stretches$FastForm", "budget", "(JIZ)J"⟩ : MethodName)) (z := (⟨"com/example/sindano/sindano/boyermoore/Stretches$FastForm", "budget", "(JIZ)J"⟩ : MethodName)) hown (mvT hZ (hw _ (List.mem_of_getElem? (i := 8) rfl))) (mvT hZ (hw _ (List.mem_of_getElem? (i := 9) rfl))) (notFace_of_selects (args := #[]) (mvT hZ (hw _ (List.mem_of_getElem? (i := 11) rfl)))) (mvT hZ (hw _ (List.mem_of_getElem? (i := 11) rfl))) (mvT hZ (hw _ (List.mem_of_getElem? (i := 10) rfl))) (by decide) (own_backOf (W := 0) (rmB l Z a0 hw [] n0 h0 O0 w_ENDS_THEN_EXACT (q0 &&& (9223372036854775807 : Int64)) p1 (0 : Int32) w_ENDS_THEN_CLASSIC w_PAIRS w_ENDS w_ENDS_THEN_EXACT FF0 ((-4 : Int64) * p1.toInt64) (by rw [if_neg (Fld.ne F_ordinal_ENDS_THEN_EXACT F_ordinal_PAIRS (by decide)), if_neg (Fld.ne F_ordinal_ENDS_THEN_EXACT F_ordinal_ENDS (by decide))])) hZ (hw _ (List.mem_of_getElem? (i := 12) rfl)) (hw _ (List.mem_of_getElem? (i := 6) rfl)) (by decide) (by decide)) q11a q11c (g := (mkF m 34 #[.val (.long q0), .second, .val (.int p1), .val (.int p2), .val (.int p3), .val (.long (q0 &&& (9223372036854775807 : Int64))), .second, .val (.int (0 : Int32)), .val (.ref w_ENDS_THEN_EXACT), .unset, .unset, .unset, .unset] [(.int (0 : Int32)), (.int p1), (.long (q0 &&& (9223372036854775807 : Int64))), (.ref w_ENDS_THEN_EXACT)])) rfl (by rw [hml]; rfl) (Steps.refl _) (argsL := [(.long (q0 &&& (9223372036854775807 : Int64))), (.int p1), (.int (0 : Int32))]) (rest := []) (lenOf pd0_1 rfl) rfl (by show 2 * 0 + _ ≤ _; exact Nat.le_of_eq rfl) (hb hby at_34) (fun _ _ => ⟨rfl, e10q, (by decide : 0 + 0 ≤ _), (by decide : 0 + 0 ≤ _)⟩)
      dsimp only [Pt.U, Pt.locs, Pt.cells, Pt.slots] at X11 l11 y11 z11 st11 hQ11
      subst l11 y11 z11
      obtain ⟨rfl, N11q, e11q⟩ := hQ11
      have N11 := Fr.app N10 N11q
      refine Ends.go (fun _ k => st11.trans k) ?_
      show Ends p e below s T11 (mkF m 37 #[.val (.long q0), .second, .val (.int p1), .val (.int p2), .val (.int p3), .val (.long (q0 &&& (9223372036854775807 : Int64))), .second, .val (.int (0 : Int32)), .val (.ref w_ENDS_THEN_EXACT), .unset, .unset, .unset, .unset] [(.long ((-4 : Int64) * p1.toInt64))]) _ _ _
      refine Ends.go (fun _ k => XS.lstore X11.here hx rfl (hb hby at_37) rfl (l' := #[.val (.long q0), .second, .val (.int p1), .val (.int p2), .val (.int p3), .val (.long (q0 &&& (9223372036854775807 : Int64))), .second, .val (.int (0 : Int32)), .val (.ref w_ENDS_THEN_EXACT), .val (.long ((-4 : Int64) * p1.toInt64)), .second, .unset, .unset]) rfl k) ?_
      show Ends p e below s T11 (mkF m 39 #[.val (.long q0), .second, .val (.int p1), .val (.int p2), .val (.int p3), .val (.long (q0 &&& (9223372036854775807 : Int64))), .second, .val (.int (0 : Int32)), .val (.ref w_ENDS_THEN_EXACT), .val (.long ((-4 : Int64) * p1.toInt64)), .second, .unset, .unset] []) _ _ _
      refine Ends.go (fun _ k => XS.aload X11.here hx rfl (hb hby at_39) rfl rfl k) ?_
      show Ends p e below s T11 (mkF m 41 #[.val (.long q0), .second, .val (.int p1), .val (.int p2), .val (.int p3), .val (.long (q0 &&& (9223372036854775807 : Int64))), .second, .val (.int (0 : Int32)), .val (.ref w_ENDS_THEN_EXACT), .val (.long ((-4 : Int64) * p1.toInt64)), .second, .unset, .unset] [(.ref w_ENDS_THEN_EXACT)]) _ _ _
      obtain ⟨T12, X12, e12, st12⟩ := getS2 X11 hx hZ hown (host := "") (Or.inl (hw _ (List.mem_of_getElem? (i := 18) rfl))) Via.refl e11q (S_PAIRS.ext O0.2) (g := (mkF m 41 #[.val (.long q0), .second, .val (.int p1), .val (.int p2), .val (.int p3), .val (.long (q0 &&& (9223372036854775807 : Int64))), .second, .val (.int (0 : Int32)), .val (.ref w_ENDS_THEN_EXACT), .val (.long ((-4 : Int64) * p1.toInt64)), .second, .unset, .unset] [(.ref w_ENDS_THEN_EXACT)])) rfl (hb hby at_41)
      refine Ends.go st12 ?_
      show Ends p e below s T12 (mkF m 44 #[.val (.long q0), .second, .val (.int p1), .val (.int p2), .val (.int p3), .val (.long (q0 &&& (9223372036854775807 : Int64))), .second, .val (.int (0 : Int32)), .val (.ref w_ENDS_THEN_EXACT), .val (.long ((-4 : Int64) * p1.toInt64)), .second, .unset, .unset] [(.ref w_PAIRS), (.ref w_ENDS_THEN_EXACT)]) _ _ _
      refine Ends.go (fun _ k => Jvm.RoadKit.acmp (g := (mkF m 44 #[.val (.long q0), .second, .val (.int p1), .val (.int p2), .val (.int p3), .val (.long (q0 &&& (9223372036854775807 : Int64))), .second, .val (.int (0 : Int32)), .val (.ref w_ENDS_THEN_EXACT), .val (.long ((-4 : Int64) * p1.toInt64)), .second, .unset, .unset] [(.ref w_PAIRS), (.ref w_ENDS_THEN_EXACT)])) X12 hx rfl rfl rfl (pc0 := 44) (pc' := 92) (same := false) rfl (hb hby at_44) rfl (decide_eq_false fun q => (Fld.ne F_ordinal_ENDS_THEN_EXACT F_ordinal_PAIRS (by decide)) (Value.ref.inj q)) (by decide) (by decide) k) ?_
      show Ends p e below s T12 (mkF m 92 #[.val (.long q0), .second, .val (.int p1), .val (.int p2), .val (.int p3), .val (.long (q0 &&& (9223372036854775807 : Int64))), .second, .val (.int (0 : Int32)), .val (.ref w_ENDS_THEN_EXACT), .val (.long ((-4 : Int64) * p1.toInt64)), .second, .unset, .unset] []) _ _ _
      refine Ends.go (fun _ k => XS.aload X12.here hx rfl (hb hby at_92) rfl rfl k) ?_
      show Ends p e below s T12 (mkF m 94 #[.val (.long q0), .second, .val (.int p1), .val (.int p2), .val (.int p3), .val (.long (q0 &&& (9223372036854775807 : Int64))), .second, .val (.int (0 : Int32)), .val (.ref w_ENDS_THEN_EXACT), .val (.long ((-4 : Int64) * p1.toInt64)), .second, .unset, .unset] [(.ref w_ENDS_THEN_EXACT)]) _ _ _
      obtain ⟨T13, X13, e13, st13⟩ := getS2 X12 hx hZ hown (host := "") (Or.inl (hw _ (List.mem_of_getElem? (i := 19) rfl))) Via.refl e12 (S_ENDS.ext O0.2) (g := (mkF m 94 #[.val (.long q0), .second, .val (.int p1), .val (.int p2), .val (.int p3), .val (.long (q0 &&& (9223372036854775807 : Int64))), .second, .val (.int (0 : Int32)), .val (.ref w_ENDS_THEN_EXACT), .val (.long ((-4 : Int64) * p1.toInt64)), .second, .unset, .unset] [(.ref w_ENDS_THEN_EXACT)])) rfl (hb hby at_94)
      refine Ends.go st13 ?_
      show Ends p e below s T13 (mkF m 97 #[.val (.long q0), .second, .val (.int p1), .val (.int p2), .val (.int p3), .val (.long (q0 &&& (9223372036854775807 : Int64))), .second, .val (.int (0 : Int32)), .val (.ref w_ENDS_THEN_EXACT), .val (.long ((-4 : Int64) * p1.toInt64)), .second, .unset, .unset] [(.ref w_ENDS), (.ref w_ENDS_THEN_EXACT)]) _ _ _
      refine Ends.go (fun _ k => Jvm.RoadKit.acmp (g := (mkF m 97 #[.val (.long q0), .second, .val (.int p1), .val (.int p2), .val (.int p3), .val (.long (q0 &&& (9223372036854775807 : Int64))), .second, .val (.int (0 : Int32)), .val (.ref w_ENDS_THEN_EXACT), .val (.long ((-4 : Int64) * p1.toInt64)), .second, .unset, .unset] [(.ref w_ENDS), (.ref w_ENDS_THEN_EXACT)])) X13 hx rfl rfl rfl (pc0 := 97) (pc' := 114) (same := false) rfl (hb hby at_97) rfl (decide_eq_false fun q => (Fld.ne F_ordinal_ENDS_THEN_EXACT F_ordinal_ENDS (by decide)) (Value.ref.inj q)) (by decide) (by decide) k) ?_
      show Ends p e below s T13 (mkF m 114 #[.val (.long q0), .second, .val (.int p1), .val (.int p2), .val (.int p3), .val (.long (q0 &&& (9223372036854775807 : Int64))), .second, .val (.int (0 : Int32)), .val (.ref w_ENDS_THEN_EXACT), .val (.long ((-4 : Int64) * p1.toInt64)), .second, .unset, .unset] []) _ _ _
      refine Ends.go (fun _ k => XS.lload X13.here hx rfl (hb hby at_114) rfl k) ?_
      show Ends p e below s T13 (mkF m 116 #[.val (.long q0), .second, .val (.int p1), .val (.int p2), .val (.int p3), .val (.long (q0 &&& (9223372036854775807 : Int64))), .second, .val (.int (0 : Int32)), .val (.ref w_ENDS_THEN_EXACT), .val (.long ((-4 : Int64) * p1.toInt64)), .second, .unset, .unset] [(.long ((-4 : Int64) * p1.toInt64))]) _ _ _
      refine Ends.go (fun _ k => XS.iloadN X13.here hx rfl (hb hby at_116) rfl k) ?_
      show Ends p e below s T13 (mkF m 117 #[.val (.long q0), .second, .val (.int p1), .val (.int p2), .val (.int p3), .val (.long (q0 &&& (9223372036854775807 : Int64))), .second, .val (.int (0 : Int32)), .val (.ref w_ENDS_THEN_EXACT), .val (.long ((-4 : Int64) * p1.toInt64)), .second, .unset, .unset] [(.int p1), (.long ((-4 : Int64) * p1.toInt64))]) _ _ _
      refine Ends.go (fun _ k => XS.i2l X13.here hx rfl (hb hby at_117) rfl k) ?_
      show Ends p e below s T13 (mkF m 118 #[.val (.long q0), .second, .val (.int p1), .val (.int p2), .val (.int p3), .val (.long (q0 &&& (9223372036854775807 : Int64))), .second, .val (.int (0 : Int32)), .val (.ref w_ENDS_THEN_EXACT), .val (.long ((-4 : Int64) * p1.toInt64)), .second, .unset, .unset] [(.long (p1.toInt64)), (.long ((-4 : Int64) * p1.toInt64))]) _ _ _
      refine Ends.go (X13.ldc2Long hx hown (mvT hZ (hw _ (List.mem_of_getElem? (i := 20) rfl))) (g := (mkF m 118 #[.val (.long q0), .second, .val (.int p1), .val (.int p2), .val (.int p3), .val (.long (q0 &&& (9223372036854775807 : Int64))), .second, .val (.int (0 : Int32)), .val (.ref w_ENDS_THEN_EXACT), .val (.long ((-4 : Int64) * p1.toInt64)), .second, .unset, .unset] [(.long (p1.toInt64)), (.long ((-4 : Int64) * p1.toInt64))])) rfl (hb hby at_118)) ?_
      show Ends p e below s T13 (mkF m 121 #[.val (.long q0), .second, .val (.int p1), .val (.int p2), .val (.int p3), .val (.long (q0 &&& (9223372036854775807 : Int64))), .second, .val (.int (0 : Int32)), .val (.ref w_ENDS_THEN_EXACT), .val (.long ((-4 : Int64) * p1.toInt64)), .second, .unset, .unset] [(.long (-4 : Int64)), (.long (p1.toInt64)), (.long ((-4 : Int64) * p1.toInt64))]) _ _ _
      refine Ends.go (fun _ k => XS.lmul X13.here hx rfl (hb hby at_121) rfl k) ?_
      show Ends p e below s T13 (mkF m 122 #[.val (.long q0), .second, .val (.int p1), .val (.int p2), .val (.int p3), .val (.long (q0 &&& (9223372036854775807 : Int64))), .second, .val (.int (0 : Int32)), .val (.ref w_ENDS_THEN_EXACT), .val (.long ((-4 : Int64) * p1.toInt64)), .second, .unset, .unset] [(.long ((p1.toInt64) * (-4 : Int64))), (.long ((-4 : Int64) * p1.toInt64))]) _ _ _
      refine Ends.go (fun _ k => XS.lcmp X13.here hx rfl (hb hby at_122) rfl k) ?_
      show Ends p e below s T13 (mkF m 123 #[.val (.long q0), .second, .val (.int p1), .val (.int p2), .val (.int p3), .val (.long (q0 &&& (9223372036854775807 : Int64))), .second, .val (.int (0 : Int32)), .val (.ref w_ENDS_THEN_EXACT), .val (.long ((-4 : Int64) * p1.toInt64)), .second, .unset, .unset] [(.int (lcmpW ((-4 : Int64) * p1.toInt64) ((p1.toInt64) * (-4 : Int64))))]) _ _ _
      refine Ends.go (fun _ k => XS.ifNo X13.here hx rfl (hb hby at_123) rfl ((if0 _ _).trans (teq ((lw_eq _ _).mpr (Int64.mul_comm _ _) : (lcmpW ((-4 : Int64) * p1.toInt64) ((p1.toInt64) * (-4 : Int64))) = (0 : Int32))).2) k) ?_
      show Ends p e below s T13 (mkF m 126 #[.val (.long q0), .second, .val (.int p1), .val (.int p2), .val (.int p3), .val (.long (q0 &&& (9223372036854775807 : Int64))), .second, .val (.int (0 : Int32)), .val (.ref w_ENDS_THEN_EXACT), .val (.long ((-4 : Int64) * p1.toInt64)), .second, .unset, .unset] []) _ _ _
      refine Ends.go (fun _ k => XS.iconst X13.here hx rfl (hb hby at_126) k) ?_
      show Ends p e below s T13 (mkF m 127 #[.val (.long q0), .second, .val (.int p1), .val (.int p2), .val (.int p3), .val (.long (q0 &&& (9223372036854775807 : Int64))), .second, .val (.int (0 : Int32)), .val (.ref w_ENDS_THEN_EXACT), .val (.long ((-4 : Int64) * p1.toInt64)), .second, .unset, .unset] [(.int (1 : Int32))]) _ _ _
      refine Ends.go (fun _ k => XS.goto X13.here hx rfl (pc0 := 127) (pc' := 131) rfl (hb hby at_127) (by decide) (by decide) k) ?_
      show Ends p e below s T13 (mkF m 131 #[.val (.long q0), .second, .val (.int p1), .val (.int p2), .val (.int p3), .val (.long (q0 &&& (9223372036854775807 : Int64))), .second, .val (.int (0 : Int32)), .val (.ref w_ENDS_THEN_EXACT), .val (.long ((-4 : Int64) * p1.toInt64)), .second, .unset, .unset] [(.int (1 : Int32))]) _ _ _
      refine Ends.retZ X13 hx Bd.notSynchronized (t := .boolean) Bd.returns (by simp) (hb hby at_131) (by decide) (by decide) ?_
      exact ⟨rfl, N11⟩
    · obtain ⟨_, _, ⟨T14, L14, k14, n14⟩, -, X14, ⟨Lc14, hQ14, l14, y14, z14⟩, st14⟩ := Jvm.LawKit.callS X0 hx (y := (⟨"com/example/sindano/sindano/boyermoore/FastFormBudgetPinLaw", "pick", "(I)Lcom/example/sindano/sindano/boyermoore/Stretches$FastForm;"⟩ : MethodName)) hown (mvT hZ (hw _ (List.mem_of_getElem? (i := 1) rfl))) (mvT hZ (hw _ (List.mem_of_getElem? (i := 2) rfl))) (mvT hZ (hw _ (List.mem_of_getElem? (i := 3) rfl))) (mvT hZ (hw _ (List.mem_of_getElem? (i := 4) rfl))) (by decide) (own_backOf (W := 0) (rmP l Z a0 hw [] n0 h0 O0 p2 w_ENDS_THEN_CLASSIC w_PAIRS w_ENDS w_ENDS_THEN_EXACT FF0 w_PAIRS (by rw [hk]; simp)) hZ (hw _ (List.mem_of_getElem? (i := 4) rfl)) (hw _ (List.mem_of_getElem? (i := 3) rfl)) (by decide) (by decide)) (g := (mkF m 22 #[.val (.long q0), .second, .val (.int p1), .val (.int p2), .val (.int p3), .val (.long (q0 &&& (9223372036854775807 : Int64))), .second, .val (.int (0 : Int32)), .unset, .unset, .unset, .unset, .unset] [(.int p2)])) rfl (by rw [hml]; rfl) (argsL := [(.int p2)]) (rest := []) (lenOf pd0_0 rfl) rfl (by show 2 * 0 + _ ≤ _; exact Nat.le_of_eq rfl) (hb hby at_22) (fun _ _ => ⟨rfl, e0, (by decide : 0 + 0 ≤ _), (by decide : 0 + 0 ≤ _)⟩)
      dsimp only [Pt.U, Pt.locs, Pt.cells, Pt.slots] at X14 l14 y14 z14 st14 hQ14
      subst l14 y14 z14
      obtain ⟨rfl, N14q, e14q⟩ := hQ14
      have N14 := Fr.app N0 N14q
      refine Ends.go st14 ?_
      show Ends p e below s T14 (mkF m 25 #[.val (.long q0), .second, .val (.int p1), .val (.int p2), .val (.int p3), .val (.long (q0 &&& (9223372036854775807 : Int64))), .second, .val (.int (0 : Int32)), .unset, .unset, .unset, .unset, .unset] [(.ref w_PAIRS)]) _ _ _
      refine Ends.go (fun _ k => XS.astore X14.here hx rfl (hb hby at_25) rfl rfl (l' := #[.val (.long q0), .second, .val (.int p1), .val (.int p2), .val (.int p3), .val (.long (q0 &&& (9223372036854775807 : Int64))), .second, .val (.int (0 : Int32)), .val (.ref w_PAIRS), .unset, .unset, .unset, .unset]) rfl k) ?_
      show Ends p e below s T14 (mkF m 27 #[.val (.long q0), .second, .val (.int p1), .val (.int p2), .val (.int p3), .val (.long (q0 &&& (9223372036854775807 : Int64))), .second, .val (.int (0 : Int32)), .val (.ref w_PAIRS), .unset, .unset, .unset, .unset] []) _ _ _
      refine Ends.go (fun _ k => XS.aload X14.here hx rfl (hb hby at_27) rfl rfl k) ?_
      show Ends p e below s T14 (mkF m 29 #[.val (.long q0), .second, .val (.int p1), .val (.int p2), .val (.int p3), .val (.long (q0 &&& (9223372036854775807 : Int64))), .second, .val (.int (0 : Int32)), .val (.ref w_PAIRS), .unset, .unset, .unset, .unset] [(.ref w_PAIRS)]) _ _ _
      refine Ends.go (fun _ k => XS.lload X14.here hx rfl (hb hby at_29) rfl k) ?_
      show Ends p e below s T14 (mkF m 31 #[.val (.long q0), .second, .val (.int p1), .val (.int p2), .val (.int p3), .val (.long (q0 &&& (9223372036854775807 : Int64))), .second, .val (.int (0 : Int32)), .val (.ref w_PAIRS), .unset, .unset, .unset, .unset] [(.long (q0 &&& (9223372036854775807 : Int64))), (.ref w_PAIRS)]) _ _ _
      refine Ends.go (fun _ k => XS.iloadN X14.here hx rfl (hb hby at_31) rfl k) ?_
      show Ends p e below s T14 (mkF m 32 #[.val (.long q0), .second, .val (.int p1), .val (.int p2), .val (.int p3), .val (.long (q0 &&& (9223372036854775807 : Int64))), .second, .val (.int (0 : Int32)), .val (.ref w_PAIRS), .unset, .unset, .unset, .unset] [(.int p1), (.long (q0 &&& (9223372036854775807 : Int64))), (.ref w_PAIRS)]) _ _ _
      refine Ends.go (fun _ k => XS.iload X14.here hx rfl (hb hby at_32) rfl k) ?_
      show Ends p e below s T14 (mkF m 34 #[.val (.long q0), .second, .val (.int p1), .val (.int p2), .val (.int p3), .val (.long (q0 &&& (9223372036854775807 : Int64))), .second, .val (.int (0 : Int32)), .val (.ref w_PAIRS), .unset, .unset, .unset, .unset] [(.int (0 : Int32)), (.int p1), (.long (q0 &&& (9223372036854775807 : Int64))), (.ref w_PAIRS)]) _ _ _
      obtain ⟨cq15, kq15, q15a, q15b, q15c⟩ := isOf hZ e14q (E_PAIRS.ext O0.2)
      obtain ⟨_, _, ⟨T15, L15, k15, n15⟩, -, X15, ⟨Lc15, hQ15, l15, y15, z15⟩, st15⟩ := X14.virtualBack hx (y := (⟨"com/example/sindano/sindano/boyermoore/Stretches$FastForm", "budget", "(JIZ)J"⟩ : MethodName)) (z := (⟨"com/example/sindano/sindano/boyermoore/Stretches$FastForm", "budget", "(JIZ)J"⟩ : MethodName)) hown (mvT hZ (hw _ (List.mem_of_getElem? (i := 8) rfl))) (mvT hZ (hw _ (List.mem_of_getElem? (i := 9) rfl))) (notFace_of_selects (args := #[]) (mvT hZ (hw _ (List.mem_of_getElem? (i := 11) rfl)))) (mvT hZ (hw _ (List.mem_of_getElem? (i := 11) rfl))) (mvT hZ (hw _ (List.mem_of_getElem? (i := 10) rfl))) (by decide) (own_backOf (W := 0) (rmB l Z a0 hw [] n0 h0 O0 w_PAIRS (q0 &&& (9223372036854775807 : Int64)) p1 (0 : Int32) w_ENDS_THEN_CLASSIC w_PAIRS w_ENDS w_ENDS_THEN_EXACT FF0 ((-4 : Int64) * p1.toInt64) (by rw [if_pos rfl, if_pos rfl, if_neg (Fld.ne F_ordinal_PAIRS F_ordinal_ENDS (by decide))])) hZ (hw _ (List.mem_of_getElem? (i := 12) rfl)) (hw _ (List.mem_of_getElem? (i := 6) rfl)) (by decide) (by decide)) q15a q15c (g := (mkF m 34 #[.val (.long q0), .second, .val (.int p1), .val (.int p2), .val (.int p3), .val (.long (q0 &&& (9223372036854775807 : Int64))), .second, .val (.int (0 : Int32)), .val (.ref w_PAIRS), .unset, .unset, .unset, .unset] [(.int (0 : Int32)), (.int p1), (.long (q0 &&& (9223372036854775807 : Int64))), (.ref w_PAIRS)])) rfl (by rw [hml]; rfl) (Steps.refl _) (argsL := [(.long (q0 &&& (9223372036854775807 : Int64))), (.int p1), (.int (0 : Int32))]) (rest := []) (lenOf pd0_1 rfl) rfl (by show 2 * 0 + _ ≤ _; exact Nat.le_of_eq rfl) (hb hby at_34) (fun _ _ => ⟨rfl, e14q, (by decide : 0 + 0 ≤ _), (by decide : 0 + 0 ≤ _)⟩)
      dsimp only [Pt.U, Pt.locs, Pt.cells, Pt.slots] at X15 l15 y15 z15 st15 hQ15
      subst l15 y15 z15
      obtain ⟨rfl, N15q, e15q⟩ := hQ15
      have N15 := Fr.app N14 N15q
      refine Ends.go (fun _ k => st15.trans k) ?_
      show Ends p e below s T15 (mkF m 37 #[.val (.long q0), .second, .val (.int p1), .val (.int p2), .val (.int p3), .val (.long (q0 &&& (9223372036854775807 : Int64))), .second, .val (.int (0 : Int32)), .val (.ref w_PAIRS), .unset, .unset, .unset, .unset] [(.long ((-4 : Int64) * p1.toInt64))]) _ _ _
      refine Ends.go (fun _ k => XS.lstore X15.here hx rfl (hb hby at_37) rfl (l' := #[.val (.long q0), .second, .val (.int p1), .val (.int p2), .val (.int p3), .val (.long (q0 &&& (9223372036854775807 : Int64))), .second, .val (.int (0 : Int32)), .val (.ref w_PAIRS), .val (.long ((-4 : Int64) * p1.toInt64)), .second, .unset, .unset]) rfl k) ?_
      show Ends p e below s T15 (mkF m 39 #[.val (.long q0), .second, .val (.int p1), .val (.int p2), .val (.int p3), .val (.long (q0 &&& (9223372036854775807 : Int64))), .second, .val (.int (0 : Int32)), .val (.ref w_PAIRS), .val (.long ((-4 : Int64) * p1.toInt64)), .second, .unset, .unset] []) _ _ _
      refine Ends.go (fun _ k => XS.aload X15.here hx rfl (hb hby at_39) rfl rfl k) ?_
      show Ends p e below s T15 (mkF m 41 #[.val (.long q0), .second, .val (.int p1), .val (.int p2), .val (.int p3), .val (.long (q0 &&& (9223372036854775807 : Int64))), .second, .val (.int (0 : Int32)), .val (.ref w_PAIRS), .val (.long ((-4 : Int64) * p1.toInt64)), .second, .unset, .unset] [(.ref w_PAIRS)]) _ _ _
      obtain ⟨T16, X16, e16, st16⟩ := getS2 X15 hx hZ hown (host := "") (Or.inl (hw _ (List.mem_of_getElem? (i := 18) rfl))) Via.refl e15q (S_PAIRS.ext O0.2) (g := (mkF m 41 #[.val (.long q0), .second, .val (.int p1), .val (.int p2), .val (.int p3), .val (.long (q0 &&& (9223372036854775807 : Int64))), .second, .val (.int (0 : Int32)), .val (.ref w_PAIRS), .val (.long ((-4 : Int64) * p1.toInt64)), .second, .unset, .unset] [(.ref w_PAIRS)])) rfl (hb hby at_41)
      refine Ends.go st16 ?_
      show Ends p e below s T16 (mkF m 44 #[.val (.long q0), .second, .val (.int p1), .val (.int p2), .val (.int p3), .val (.long (q0 &&& (9223372036854775807 : Int64))), .second, .val (.int (0 : Int32)), .val (.ref w_PAIRS), .val (.long ((-4 : Int64) * p1.toInt64)), .second, .unset, .unset] [(.ref w_PAIRS), (.ref w_PAIRS)]) _ _ _
      refine Ends.go (fun _ k => Jvm.RoadKit.acmp (g := (mkF m 44 #[.val (.long q0), .second, .val (.int p1), .val (.int p2), .val (.int p3), .val (.long (q0 &&& (9223372036854775807 : Int64))), .second, .val (.int (0 : Int32)), .val (.ref w_PAIRS), .val (.long ((-4 : Int64) * p1.toInt64)), .second, .unset, .unset] [(.ref w_PAIRS), (.ref w_PAIRS)])) X16 hx rfl rfl rfl (pc0 := 44) (pc' := 47) (same := true) rfl (hb hby at_44) rfl (decide_eq_true rfl) (by decide) (by decide) k) ?_
      show Ends p e below s T16 (mkF m 47 #[.val (.long q0), .second, .val (.int p1), .val (.int p2), .val (.int p3), .val (.long (q0 &&& (9223372036854775807 : Int64))), .second, .val (.int (0 : Int32)), .val (.ref w_PAIRS), .val (.long ((-4 : Int64) * p1.toInt64)), .second, .unset, .unset] []) _ _ _
      refine Ends.go (fun _ k => XS.iload X16.here hx rfl (hb hby at_47) rfl k) ?_
      show Ends p e below s T16 (mkF m 49 #[.val (.long q0), .second, .val (.int p1), .val (.int p2), .val (.int p3), .val (.long (q0 &&& (9223372036854775807 : Int64))), .second, .val (.int (0 : Int32)), .val (.ref w_PAIRS), .val (.long ((-4 : Int64) * p1.toInt64)), .second, .unset, .unset] [(.int (0 : Int32))]) _ _ _
      refine Ends.go (fun _ k => XS.ifYes X16.here hx rfl (pc0 := 49) (pc' := 92) rfl (hb hby at_49) rfl ((if0 _ _).trans (teq (by decide : (0 : Int32) = (0 : Int32))).1) (by decide) (by decide) k) ?_
      show Ends p e below s T16 (mkF m 92 #[.val (.long q0), .second, .val (.int p1), .val (.int p2), .val (.int p3), .val (.long (q0 &&& (9223372036854775807 : Int64))), .second, .val (.int (0 : Int32)), .val (.ref w_PAIRS), .val (.long ((-4 : Int64) * p1.toInt64)), .second, .unset, .unset] []) _ _ _
      refine Ends.go (fun _ k => XS.aload X16.here hx rfl (hb hby at_92) rfl rfl k) ?_
      show Ends p e below s T16 (mkF m 94 #[.val (.long q0), .second, .val (.int p1), .val (.int p2), .val (.int p3), .val (.long (q0 &&& (9223372036854775807 : Int64))), .second, .val (.int (0 : Int32)), .val (.ref w_PAIRS), .val (.long ((-4 : Int64) * p1.toInt64)), .second, .unset, .unset] [(.ref w_PAIRS)]) _ _ _
      obtain ⟨T17, X17, e17, st17⟩ := getS2 X16 hx hZ hown (host := "") (Or.inl (hw _ (List.mem_of_getElem? (i := 19) rfl))) Via.refl e16 (S_ENDS.ext O0.2) (g := (mkF m 94 #[.val (.long q0), .second, .val (.int p1), .val (.int p2), .val (.int p3), .val (.long (q0 &&& (9223372036854775807 : Int64))), .second, .val (.int (0 : Int32)), .val (.ref w_PAIRS), .val (.long ((-4 : Int64) * p1.toInt64)), .second, .unset, .unset] [(.ref w_PAIRS)])) rfl (hb hby at_94)
      refine Ends.go st17 ?_
      show Ends p e below s T17 (mkF m 97 #[.val (.long q0), .second, .val (.int p1), .val (.int p2), .val (.int p3), .val (.long (q0 &&& (9223372036854775807 : Int64))), .second, .val (.int (0 : Int32)), .val (.ref w_PAIRS), .val (.long ((-4 : Int64) * p1.toInt64)), .second, .unset, .unset] [(.ref w_ENDS), (.ref w_PAIRS)]) _ _ _
      refine Ends.go (fun _ k => Jvm.RoadKit.acmp (g := (mkF m 97 #[.val (.long q0), .second, .val (.int p1), .val (.int p2), .val (.int p3), .val (.long (q0 &&& (9223372036854775807 : Int64))), .second, .val (.int (0 : Int32)), .val (.ref w_PAIRS), .val (.long ((-4 : Int64) * p1.toInt64)), .second, .unset, .unset] [(.ref w_ENDS), (.ref w_PAIRS)])) X17 hx rfl rfl rfl (pc0 := 97) (pc' := 114) (same := false) rfl (hb hby at_97) rfl (decide_eq_false fun q => (Fld.ne F_ordinal_PAIRS F_ordinal_ENDS (by decide)) (Value.ref.inj q)) (by decide) (by decide) k) ?_
      show Ends p e below s T17 (mkF m 114 #[.val (.long q0), .second, .val (.int p1), .val (.int p2), .val (.int p3), .val (.long (q0 &&& (9223372036854775807 : Int64))), .second, .val (.int (0 : Int32)), .val (.ref w_PAIRS), .val (.long ((-4 : Int64) * p1.toInt64)), .second, .unset, .unset] []) _ _ _
      refine Ends.go (fun _ k => XS.lload X17.here hx rfl (hb hby at_114) rfl k) ?_
      show Ends p e below s T17 (mkF m 116 #[.val (.long q0), .second, .val (.int p1), .val (.int p2), .val (.int p3), .val (.long (q0 &&& (9223372036854775807 : Int64))), .second, .val (.int (0 : Int32)), .val (.ref w_PAIRS), .val (.long ((-4 : Int64) * p1.toInt64)), .second, .unset, .unset] [(.long ((-4 : Int64) * p1.toInt64))]) _ _ _
      refine Ends.go (fun _ k => XS.iloadN X17.here hx rfl (hb hby at_116) rfl k) ?_
      show Ends p e below s T17 (mkF m 117 #[.val (.long q0), .second, .val (.int p1), .val (.int p2), .val (.int p3), .val (.long (q0 &&& (9223372036854775807 : Int64))), .second, .val (.int (0 : Int32)), .val (.ref w_PAIRS), .val (.long ((-4 : Int64) * p1.toInt64)), .second, .unset, .unset] [(.int p1), (.long ((-4 : Int64) * p1.toInt64))]) _ _ _
      refine Ends.go (fun _ k => XS.i2l X17.here hx rfl (hb hby at_117) rfl k) ?_
      show Ends p e below s T17 (mkF m 118 #[.val (.long q0), .second, .val (.int p1), .val (.int p2), .val (.int p3), .val (.long (q0 &&& (9223372036854775807 : Int64))), .second, .val (.int (0 : Int32)), .val (.ref w_PAIRS), .val (.long ((-4 : Int64) * p1.toInt64)), .second, .unset, .unset] [(.long (p1.toInt64)), (.long ((-4 : Int64) * p1.toInt64))]) _ _ _
      refine Ends.go (X17.ldc2Long hx hown (mvT hZ (hw _ (List.mem_of_getElem? (i := 20) rfl))) (g := (mkF m 118 #[.val (.long q0), .second, .val (.int p1), .val (.int p2), .val (.int p3), .val (.long (q0 &&& (9223372036854775807 : Int64))), .second, .val (.int (0 : Int32)), .val (.ref w_PAIRS), .val (.long ((-4 : Int64) * p1.toInt64)), .second, .unset, .unset] [(.long (p1.toInt64)), (.long ((-4 : Int64) * p1.toInt64))])) rfl (hb hby at_118)) ?_
      show Ends p e below s T17 (mkF m 121 #[.val (.long q0), .second, .val (.int p1), .val (.int p2), .val (.int p3), .val (.long (q0 &&& (9223372036854775807 : Int64))), .second, .val (.int (0 : Int32)), .val (.ref w_PAIRS), .val (.long ((-4 : Int64) * p1.toInt64)), .second, .unset, .unset] [(.long (-4 : Int64)), (.long (p1.toInt64)), (.long ((-4 : Int64) * p1.toInt64))]) _ _ _
      refine Ends.go (fun _ k => XS.lmul X17.here hx rfl (hb hby at_121) rfl k) ?_
      show Ends p e below s T17 (mkF m 122 #[.val (.long q0), .second, .val (.int p1), .val (.int p2), .val (.int p3), .val (.long (q0 &&& (9223372036854775807 : Int64))), .second, .val (.int (0 : Int32)), .val (.ref w_PAIRS), .val (.long ((-4 : Int64) * p1.toInt64)), .second, .unset, .unset] [(.long ((p1.toInt64) * (-4 : Int64))), (.long ((-4 : Int64) * p1.toInt64))]) _ _ _
      refine Ends.go (fun _ k => XS.lcmp X17.here hx rfl (hb hby at_122) rfl k) ?_
      show Ends p e below s T17 (mkF m 123 #[.val (.long q0), .second, .val (.int p1), .val (.int p2), .val (.int p3), .val (.long (q0 &&& (9223372036854775807 : Int64))), .second, .val (.int (0 : Int32)), .val (.ref w_PAIRS), .val (.long ((-4 : Int64) * p1.toInt64)), .second, .unset, .unset] [(.int (lcmpW ((-4 : Int64) * p1.toInt64) ((p1.toInt64) * (-4 : Int64))))]) _ _ _
      refine Ends.go (fun _ k => XS.ifNo X17.here hx rfl (hb hby at_123) rfl ((if0 _ _).trans (teq ((lw_eq _ _).mpr (Int64.mul_comm _ _) : (lcmpW ((-4 : Int64) * p1.toInt64) ((p1.toInt64) * (-4 : Int64))) = (0 : Int32))).2) k) ?_
      show Ends p e below s T17 (mkF m 126 #[.val (.long q0), .second, .val (.int p1), .val (.int p2), .val (.int p3), .val (.long (q0 &&& (9223372036854775807 : Int64))), .second, .val (.int (0 : Int32)), .val (.ref w_PAIRS), .val (.long ((-4 : Int64) * p1.toInt64)), .second, .unset, .unset] []) _ _ _
      refine Ends.go (fun _ k => XS.iconst X17.here hx rfl (hb hby at_126) k) ?_
      show Ends p e below s T17 (mkF m 127 #[.val (.long q0), .second, .val (.int p1), .val (.int p2), .val (.int p3), .val (.long (q0 &&& (9223372036854775807 : Int64))), .second, .val (.int (0 : Int32)), .val (.ref w_PAIRS), .val (.long ((-4 : Int64) * p1.toInt64)), .second, .unset, .unset] [(.int (1 : Int32))]) _ _ _
      refine Ends.go (fun _ k => XS.goto X17.here hx rfl (pc0 := 127) (pc' := 131) rfl (hb hby at_127) (by decide) (by decide) k) ?_
      show Ends p e below s T17 (mkF m 131 #[.val (.long q0), .second, .val (.int p1), .val (.int p2), .val (.int p3), .val (.long (q0 &&& (9223372036854775807 : Int64))), .second, .val (.int (0 : Int32)), .val (.ref w_PAIRS), .val (.long ((-4 : Int64) * p1.toInt64)), .second, .unset, .unset] [(.int (1 : Int32))]) _ _ _
      refine Ends.retZ X17 hx Bd.notSynchronized (t := .boolean) Bd.returns (by simp) (hb hby at_131) (by decide) (by decide) ?_
      exact ⟨rfl, N15⟩
  · refine Ends.go (fun _ k => XS.ifNo X0.here hx rfl (hb hby at_11) rfl ((if0 _ _).trans (feq hc11_1).1) k) ?_
    show Ends p e below s s₁ (mkF m 14 #[.val (.long q0), .second, .val (.int p1), .val (.int p2), .val (.int p3), .val (.long (q0 &&& (9223372036854775807 : Int64))), .second, .unset, .unset, .unset, .unset, .unset, .unset] []) _ _ _
    refine Ends.go (fun _ k => XS.iconst X0.here hx rfl (hb hby at_14) k) ?_
    show Ends p e below s s₁ (mkF m 15 #[.val (.long q0), .second, .val (.int p1), .val (.int p2), .val (.int p3), .val (.long (q0 &&& (9223372036854775807 : Int64))), .second, .unset, .unset, .unset, .unset, .unset, .unset] [(.int (1 : Int32))]) _ _ _
    refine Ends.go (fun _ k => XS.goto X0.here hx rfl (pc0 := 15) (pc' := 19) rfl (hb hby at_15) (by decide) (by decide) k) ?_
    show Ends p e below s s₁ (mkF m 19 #[.val (.long q0), .second, .val (.int p1), .val (.int p2), .val (.int p3), .val (.long (q0 &&& (9223372036854775807 : Int64))), .second, .unset, .unset, .unset, .unset, .unset, .unset] [(.int (1 : Int32))]) _ _ _
    refine Ends.go (fun _ k => XS.istore X0.here hx rfl (hb hby at_19) rfl (l' := #[.val (.long q0), .second, .val (.int p1), .val (.int p2), .val (.int p3), .val (.long (q0 &&& (9223372036854775807 : Int64))), .second, .val (.int (1 : Int32)), .unset, .unset, .unset, .unset, .unset]) rfl k) ?_
    show Ends p e below s s₁ (mkF m 21 #[.val (.long q0), .second, .val (.int p1), .val (.int p2), .val (.int p3), .val (.long (q0 &&& (9223372036854775807 : Int64))), .second, .val (.int (1 : Int32)), .unset, .unset, .unset, .unset, .unset] []) _ _ _
    refine Ends.go (fun _ k => XS.iloadN X0.here hx rfl (hb hby at_21) rfl k) ?_
    show Ends p e below s s₁ (mkF m 22 #[.val (.long q0), .second, .val (.int p1), .val (.int p2), .val (.int p3), .val (.long (q0 &&& (9223372036854775807 : Int64))), .second, .val (.int (1 : Int32)), .unset, .unset, .unset, .unset, .unset] [(.int p2)]) _ _ _
    rcases own_and3 p2 _ rfl with hk | hk | hk | hk
    · obtain ⟨_, _, ⟨T18, L18, k18, n18⟩, -, X18, ⟨Lc18, hQ18, l18, y18, z18⟩, st18⟩ := Jvm.LawKit.callS X0 hx (y := (⟨"com/example/sindano/sindano/boyermoore/FastFormBudgetPinLaw", "pick", "(I)Lcom/example/sindano/sindano/boyermoore/Stretches$FastForm;"⟩ : MethodName)) hown (mvT hZ (hw _ (List.mem_of_getElem? (i := 1) rfl))) (mvT hZ (hw _ (List.mem_of_getElem? (i := 2) rfl))) (mvT hZ (hw _ (List.mem_of_getElem? (i := 3) rfl))) (mvT hZ (hw _ (List.mem_of_getElem? (i := 4) rfl))) (by decide) (own_backOf (W := 0) (rmP l Z a0 hw [] n0 h0 O0 p2 w_ENDS_THEN_CLASSIC w_PAIRS w_ENDS w_ENDS_THEN_EXACT FF0 w_ENDS (by rw [hk]; simp)) hZ (hw _ (List.mem_of_getElem? (i := 4) rfl)) (hw _ (List.mem_of_getElem? (i := 3) rfl)) (by decide) (by decide)) (g := (mkF m 22 #[.val (.long q0), .second, .val (.int p1), .val (.int p2), .val (.int p3), .val (.long (q0 &&& (9223372036854775807 : Int64))), .second, .val (.int (1 : Int32)), .unset, .unset, .unset, .unset, .unset] [(.int p2)])) rfl (by rw [hml]; rfl) (argsL := [(.int p2)]) (rest := []) (lenOf pd0_0 rfl) rfl (by show 2 * 0 + _ ≤ _; exact Nat.le_of_eq rfl) (hb hby at_22) (fun _ _ => ⟨rfl, e0, (by decide : 0 + 0 ≤ _), (by decide : 0 + 0 ≤ _)⟩)
      dsimp only [Pt.U, Pt.locs, Pt.cells, Pt.slots] at X18 l18 y18 z18 st18 hQ18
      subst l18 y18 z18
      obtain ⟨rfl, N18q, e18q⟩ := hQ18
      have N18 := Fr.app N0 N18q
      refine Ends.go st18 ?_
      show Ends p e below s T18 (mkF m 25 #[.val (.long q0), .second, .val (.int p1), .val (.int p2), .val (.int p3), .val (.long (q0 &&& (9223372036854775807 : Int64))), .second, .val (.int (1 : Int32)), .unset, .unset, .unset, .unset, .unset] [(.ref w_ENDS)]) _ _ _
      refine Ends.go (fun _ k => XS.astore X18.here hx rfl (hb hby at_25) rfl rfl (l' := #[.val (.long q0), .second, .val (.int p1), .val (.int p2), .val (.int p3), .val (.long (q0 &&& (9223372036854775807 : Int64))), .second, .val (.int (1 : Int32)), .val (.ref w_ENDS), .unset, .unset, .unset, .unset]) rfl k) ?_
      show Ends p e below s T18 (mkF m 27 #[.val (.long q0), .second, .val (.int p1), .val (.int p2), .val (.int p3), .val (.long (q0 &&& (9223372036854775807 : Int64))), .second, .val (.int (1 : Int32)), .val (.ref w_ENDS), .unset, .unset, .unset, .unset] []) _ _ _
      refine Ends.go (fun _ k => XS.aload X18.here hx rfl (hb hby at_27) rfl rfl k) ?_
      show Ends p e below s T18 (mkF m 29 #[.val (.long q0), .second, .val (.int p1), .val (.int p2), .val (.int p3), .val (.long (q0 &&& (9223372036854775807 : Int64))), .second, .val (.int (1 : Int32)), .val (.ref w_ENDS), .unset, .unset, .unset, .unset] [(.ref w_ENDS)]) _ _ _
      refine Ends.go (fun _ k => XS.lload X18.here hx rfl (hb hby at_29) rfl k) ?_
      show Ends p e below s T18 (mkF m 31 #[.val (.long q0), .second, .val (.int p1), .val (.int p2), .val (.int p3), .val (.long (q0 &&& (9223372036854775807 : Int64))), .second, .val (.int (1 : Int32)), .val (.ref w_ENDS), .unset, .unset, .unset, .unset] [(.long (q0 &&& (9223372036854775807 : Int64))), (.ref w_ENDS)]) _ _ _
      refine Ends.go (fun _ k => XS.iloadN X18.here hx rfl (hb hby at_31) rfl k) ?_
      show Ends p e below s T18 (mkF m 32 #[.val (.long q0), .second, .val (.int p1), .val (.int p2), .val (.int p3), .val (.long (q0 &&& (9223372036854775807 : Int64))), .second, .val (.int (1 : Int32)), .val (.ref w_ENDS), .unset, .unset, .unset, .unset] [(.int p1), (.long (q0 &&& (9223372036854775807 : Int64))), (.ref w_ENDS)]) _ _ _
      refine Ends.go (fun _ k => XS.iload X18.here hx rfl (hb hby at_32) rfl k) ?_
      show Ends p e below s T18 (mkF m 34 #[.val (.long q0), .second, .val (.int p1), .val (.int p2), .val (.int p3), .val (.long (q0 &&& (9223372036854775807 : Int64))), .second, .val (.int (1 : Int32)), .val (.ref w_ENDS), .unset, .unset, .unset, .unset] [(.int (1 : Int32)), (.int p1), (.long (q0 &&& (9223372036854775807 : Int64))), (.ref w_ENDS)]) _ _ _
      obtain ⟨cq19, kq19, q19a, q19b, q19c⟩ := isOf hZ e18q (E_ENDS.ext O0.2)
      obtain ⟨_, _, ⟨T19, L19, k19, n19⟩, -, X19, ⟨Lc19, hQ19, l19, y19, z19⟩, st19⟩ := X18.virtualBack hx (y := (⟨"com/example/sindano/sindano/boyermoore/Stretches$FastForm", "budget", "(JIZ)J"⟩ : MethodName)) (z := (⟨"com/example/sindano/sindano/boyermoore/Stretches$FastForm", "budget", "(JIZ)J"⟩ : MethodName)) hown (mvT hZ (hw _ (List.mem_of_getElem? (i := 8) rfl))) (mvT hZ (hw _ (List.mem_of_getElem? (i := 9) rfl))) (notFace_of_selects (args := #[]) (mvT hZ (hw _ (List.mem_of_getElem? (i := 11) rfl)))) (mvT hZ (hw _ (List.mem_of_getElem? (i := 11) rfl))) (mvT hZ (hw _ (List.mem_of_getElem? (i := 10) rfl))) (by decide) (own_backOf (W := 0) (rmB l Z a0 hw [] n0 h0 O0 w_ENDS (q0 &&& (9223372036854775807 : Int64)) p1 (1 : Int32) w_ENDS_THEN_CLASSIC w_PAIRS w_ENDS w_ENDS_THEN_EXACT FF0 (p1.toInt64) (by rw [if_neg (Fld.ne F_ordinal_ENDS F_ordinal_PAIRS (by decide)), if_pos rfl])) hZ (hw _ (List.mem_of_getElem? (i := 12) rfl)) (hw _ (List.mem_of_getElem? (i := 6) rfl)) (by decide) (by decide)) q19a q19c (g := (mkF m 34 #[.val (.long q0), .second, .val (.int p1), .val (.int p2), .val (.int p3), .val (.long (q0 &&& (9223372036854775807 : Int64))), .second, .val (.int (1 : Int32)), .val (.ref w_ENDS), .unset, .unset, .unset, .unset] [(.int (1 : Int32)), (.int p1), (.long (q0 &&& (9223372036854775807 : Int64))), (.ref w_ENDS)])) rfl (by rw [hml]; rfl) (Steps.refl _) (argsL := [(.long (q0 &&& (9223372036854775807 : Int64))), (.int p1), (.int (1 : Int32))]) (rest := []) (lenOf pd0_1 rfl) rfl (by show 2 * 0 + _ ≤ _; exact Nat.le_of_eq rfl) (hb hby at_34) (fun _ _ => ⟨rfl, e18q, (by decide : 0 + 0 ≤ _), (by decide : 0 + 0 ≤ _)⟩)
      dsimp only [Pt.U, Pt.locs, Pt.cells, Pt.slots] at X19 l19 y19 z19 st19 hQ19
      subst l19 y19 z19
      obtain ⟨rfl, N19q, e19q⟩ := hQ19
      have N19 := Fr.app N18 N19q
      refine Ends.go (fun _ k => st19.trans k) ?_
      show Ends p e below s T19 (mkF m 37 #[.val (.long q0), .second, .val (.int p1), .val (.int p2), .val (.int p3), .val (.long (q0 &&& (9223372036854775807 : Int64))), .second, .val (.int (1 : Int32)), .val (.ref w_ENDS), .unset, .unset, .unset, .unset] [(.long (p1.toInt64))]) _ _ _
      refine Ends.go (fun _ k => XS.lstore X19.here hx rfl (hb hby at_37) rfl (l' := #[.val (.long q0), .second, .val (.int p1), .val (.int p2), .val (.int p3), .val (.long (q0 &&& (9223372036854775807 : Int64))), .second, .val (.int (1 : Int32)), .val (.ref w_ENDS), .val (.long (p1.toInt64)), .second, .unset, .unset]) rfl k) ?_
      show Ends p e below s T19 (mkF m 39 #[.val (.long q0), .second, .val (.int p1), .val (.int p2), .val (.int p3), .val (.long (q0 &&& (9223372036854775807 : Int64))), .second, .val (.int (1 : Int32)), .val (.ref w_ENDS), .val (.long (p1.toInt64)), .second, .unset, .unset] []) _ _ _
      refine Ends.go (fun _ k => XS.aload X19.here hx rfl (hb hby at_39) rfl rfl k) ?_
      show Ends p e below s T19 (mkF m 41 #[.val (.long q0), .second, .val (.int p1), .val (.int p2), .val (.int p3), .val (.long (q0 &&& (9223372036854775807 : Int64))), .second, .val (.int (1 : Int32)), .val (.ref w_ENDS), .val (.long (p1.toInt64)), .second, .unset, .unset] [(.ref w_ENDS)]) _ _ _
      obtain ⟨T20, X20, e20, st20⟩ := getS2 X19 hx hZ hown (host := "") (Or.inl (hw _ (List.mem_of_getElem? (i := 18) rfl))) Via.refl e19q (S_PAIRS.ext O0.2) (g := (mkF m 41 #[.val (.long q0), .second, .val (.int p1), .val (.int p2), .val (.int p3), .val (.long (q0 &&& (9223372036854775807 : Int64))), .second, .val (.int (1 : Int32)), .val (.ref w_ENDS), .val (.long (p1.toInt64)), .second, .unset, .unset] [(.ref w_ENDS)])) rfl (hb hby at_41)
      refine Ends.go st20 ?_
      show Ends p e below s T20 (mkF m 44 #[.val (.long q0), .second, .val (.int p1), .val (.int p2), .val (.int p3), .val (.long (q0 &&& (9223372036854775807 : Int64))), .second, .val (.int (1 : Int32)), .val (.ref w_ENDS), .val (.long (p1.toInt64)), .second, .unset, .unset] [(.ref w_PAIRS), (.ref w_ENDS)]) _ _ _
      refine Ends.go (fun _ k => Jvm.RoadKit.acmp (g := (mkF m 44 #[.val (.long q0), .second, .val (.int p1), .val (.int p2), .val (.int p3), .val (.long (q0 &&& (9223372036854775807 : Int64))), .second, .val (.int (1 : Int32)), .val (.ref w_ENDS), .val (.long (p1.toInt64)), .second, .unset, .unset] [(.ref w_PAIRS), (.ref w_ENDS)])) X20 hx rfl rfl rfl (pc0 := 44) (pc' := 92) (same := false) rfl (hb hby at_44) rfl (decide_eq_false fun q => (Fld.ne F_ordinal_ENDS F_ordinal_PAIRS (by decide)) (Value.ref.inj q)) (by decide) (by decide) k) ?_
      show Ends p e below s T20 (mkF m 92 #[.val (.long q0), .second, .val (.int p1), .val (.int p2), .val (.int p3), .val (.long (q0 &&& (9223372036854775807 : Int64))), .second, .val (.int (1 : Int32)), .val (.ref w_ENDS), .val (.long (p1.toInt64)), .second, .unset, .unset] []) _ _ _
      refine Ends.go (fun _ k => XS.aload X20.here hx rfl (hb hby at_92) rfl rfl k) ?_
      show Ends p e below s T20 (mkF m 94 #[.val (.long q0), .second, .val (.int p1), .val (.int p2), .val (.int p3), .val (.long (q0 &&& (9223372036854775807 : Int64))), .second, .val (.int (1 : Int32)), .val (.ref w_ENDS), .val (.long (p1.toInt64)), .second, .unset, .unset] [(.ref w_ENDS)]) _ _ _
      obtain ⟨T21, X21, e21, st21⟩ := getS2 X20 hx hZ hown (host := "") (Or.inl (hw _ (List.mem_of_getElem? (i := 19) rfl))) Via.refl e20 (S_ENDS.ext O0.2) (g := (mkF m 94 #[.val (.long q0), .second, .val (.int p1), .val (.int p2), .val (.int p3), .val (.long (q0 &&& (9223372036854775807 : Int64))), .second, .val (.int (1 : Int32)), .val (.ref w_ENDS), .val (.long (p1.toInt64)), .second, .unset, .unset] [(.ref w_ENDS)])) rfl (hb hby at_94)
      refine Ends.go st21 ?_
      show Ends p e below s T21 (mkF m 97 #[.val (.long q0), .second, .val (.int p1), .val (.int p2), .val (.int p3), .val (.long (q0 &&& (9223372036854775807 : Int64))), .second, .val (.int (1 : Int32)), .val (.ref w_ENDS), .val (.long (p1.toInt64)), .second, .unset, .unset] [(.ref w_ENDS), (.ref w_ENDS)]) _ _ _
      refine Ends.go (fun _ k => Jvm.RoadKit.acmp (g := (mkF m 97 #[.val (.long q0), .second, .val (.int p1), .val (.int p2), .val (.int p3), .val (.long (q0 &&& (9223372036854775807 : Int64))), .second, .val (.int (1 : Int32)), .val (.ref w_ENDS), .val (.long (p1.toInt64)), .second, .unset, .unset] [(.ref w_ENDS), (.ref w_ENDS)])) X21 hx rfl rfl rfl (pc0 := 97) (pc' := 100) (same := true) rfl (hb hby at_97) rfl (decide_eq_true rfl) (by decide) (by decide) k) ?_
      show Ends p e below s T21 (mkF m 100 #[.val (.long q0), .second, .val (.int p1), .val (.int p2), .val (.int p3), .val (.long (q0 &&& (9223372036854775807 : Int64))), .second, .val (.int (1 : Int32)), .val (.ref w_ENDS), .val (.long (p1.toInt64)), .second, .unset, .unset] []) _ _ _
      refine Ends.go (fun _ k => XS.lload X21.here hx rfl (hb hby at_100) rfl k) ?_
      show Ends p e below s T21 (mkF m 102 #[.val (.long q0), .second, .val (.int p1), .val (.int p2), .val (.int p3), .val (.long (q0 &&& (9223372036854775807 : Int64))), .second, .val (.int (1 : Int32)), .val (.ref w_ENDS), .val (.long (p1.toInt64)), .second, .unset, .unset] [(.long (p1.toInt64))]) _ _ _
      refine Ends.go (fun _ k => XS.iloadN X21.here hx rfl (hb hby at_102) rfl k) ?_
      show Ends p e below s T21 (mkF m 103 #[.val (.long q0), .second, .val (.int p1), .val (.int p2), .val (.int p3), .val (.long (q0 &&& (9223372036854775807 : Int64))), .second, .val (.int (1 : Int32)), .val (.ref w_ENDS), .val (.long (p1.toInt64)), .second, .unset, .unset] [(.int p1), (.long (p1.toInt64))]) _ _ _
      refine Ends.go (fun _ k => XS.i2l X21.here hx rfl (hb hby at_103) rfl k) ?_
      show Ends p e below s T21 (mkF m 104 #[.val (.long q0), .second, .val (.int p1), .val (.int p2), .val (.int p3), .val (.long (q0 &&& (9223372036854775807 : Int64))), .second, .val (.int (1 : Int32)), .val (.ref w_ENDS), .val (.long (p1.toInt64)), .second, .unset, .unset] [(.long (p1.toInt64)), (.long (p1.toInt64))]) _ _ _
      refine Ends.go (fun _ k => XS.lcmp X21.here hx rfl (hb hby at_104) rfl k) ?_
      show Ends p e below s T21 (mkF m 105 #[.val (.long q0), .second, .val (.int p1), .val (.int p2), .val (.int p3), .val (.long (q0 &&& (9223372036854775807 : Int64))), .second, .val (.int (1 : Int32)), .val (.ref w_ENDS), .val (.long (p1.toInt64)), .second, .unset, .unset] [(.int (lcmpW (p1.toInt64) (p1.toInt64)))]) _ _ _
      refine Ends.go (fun _ k => XS.ifNo X21.here hx rfl (hb hby at_105) rfl ((if0 _ _).trans (teq ((lw_eq _ _).mpr rfl : (lcmpW (p1.toInt64) (p1.toInt64)) = (0 : Int32))).2) k) ?_
      show Ends p e below s T21 (mkF m 108 #[.val (.long q0), .second, .val (.int p1), .val (.int p2), .val (.int p3), .val (.long (q0 &&& (9223372036854775807 : Int64))), .second, .val (.int (1 : Int32)), .val (.ref w_ENDS), .val (.long (p1.toInt64)), .second, .unset, .unset] []) _ _ _
      refine Ends.go (fun _ k => XS.iconst X21.here hx rfl (hb hby at_108) k) ?_
      show Ends p e below s T21 (mkF m 109 #[.val (.long q0), .second, .val (.int p1), .val (.int p2), .val (.int p3), .val (.long (q0 &&& (9223372036854775807 : Int64))), .second, .val (.int (1 : Int32)), .val (.ref w_ENDS), .val (.long (p1.toInt64)), .second, .unset, .unset] [(.int (1 : Int32))]) _ _ _
      refine Ends.go (fun _ k => XS.goto X21.here hx rfl (pc0 := 109) (pc' := 113) rfl (hb hby at_109) (by decide) (by decide) k) ?_
      show Ends p e below s T21 (mkF m 113 #[.val (.long q0), .second, .val (.int p1), .val (.int p2), .val (.int p3), .val (.long (q0 &&& (9223372036854775807 : Int64))), .second, .val (.int (1 : Int32)), .val (.ref w_ENDS), .val (.long (p1.toInt64)), .second, .unset, .unset] [(.int (1 : Int32))]) _ _ _
      refine Ends.retZ X21 hx Bd.notSynchronized (t := .boolean) Bd.returns (by simp) (hb hby at_113) (by decide) (by decide) ?_
      exact ⟨rfl, N19⟩
    · obtain ⟨_, _, ⟨T22, L22, k22, n22⟩, -, X22, ⟨Lc22, hQ22, l22, y22, z22⟩, st22⟩ := Jvm.LawKit.callS X0 hx (y := (⟨"com/example/sindano/sindano/boyermoore/FastFormBudgetPinLaw", "pick", "(I)Lcom/example/sindano/sindano/boyermoore/Stretches$FastForm;"⟩ : MethodName)) hown (mvT hZ (hw _ (List.mem_of_getElem? (i := 1) rfl))) (mvT hZ (hw _ (List.mem_of_getElem? (i := 2) rfl))) (mvT hZ (hw _ (List.mem_of_getElem? (i := 3) rfl))) (mvT hZ (hw _ (List.mem_of_getElem? (i := 4) rfl))) (by decide) (own_backOf (W := 0) (rmP l Z a0 hw [] n0 h0 O0 p2 w_ENDS_THEN_CLASSIC w_PAIRS w_ENDS w_ENDS_THEN_EXACT FF0 w_ENDS_THEN_CLASSIC (by rw [hk]; simp)) hZ (hw _ (List.mem_of_getElem? (i := 4) rfl)) (hw _ (List.mem_of_getElem? (i := 3) rfl)) (by decide) (by decide)) (g := (mkF m 22 #[.val (.long q0), .second, .val (.int p1), .val (.int p2), .val (.int p3), .val (.long (q0 &&& (9223372036854775807 : Int64))), .second, .val (.int (1 : Int32)), .unset, .unset, .unset, .unset, .unset] [(.int p2)])) rfl (by rw [hml]; rfl) (argsL := [(.int p2)]) (rest := []) (lenOf pd0_0 rfl) rfl (by show 2 * 0 + _ ≤ _; exact Nat.le_of_eq rfl) (hb hby at_22) (fun _ _ => ⟨rfl, e0, (by decide : 0 + 0 ≤ _), (by decide : 0 + 0 ≤ _)⟩)
      dsimp only [Pt.U, Pt.locs, Pt.cells, Pt.slots] at X22 l22 y22 z22 st22 hQ22
      subst l22 y22 z22
      obtain ⟨rfl, N22q, e22q⟩ := hQ22
      have N22 := Fr.app N0 N22q
      refine Ends.go st22 ?_
      show Ends p e below s T22 (mkF m 25 #[.val (.long q0), .second, .val (.int p1), .val (.int p2), .val (.int p3), .val (.long (q0 &&& (9223372036854775807 : Int64))), .second, .val (.int (1 : Int32)), .unset, .unset, .unset, .unset, .unset] [(.ref w_ENDS_THEN_CLASSIC)]) _ _ _
      refine Ends.go (fun _ k => XS.astore X22.here hx rfl (hb hby at_25) rfl rfl (l' := #[.val (.long q0), .second, .val (.int p1), .val (.int p2), .val (.int p3), .val (.long (q0 &&& (9223372036854775807 : Int64))), .second, .val (.int (1 : Int32)), .val (.ref w_ENDS_THEN_CLASSIC), .unset, .unset, .unset, .unset]) rfl k) ?_
      show Ends p e below s T22 (mkF m 27 #[.val (.long q0), .second, .val (.int p1), .val (.int p2), .val (.int p3), .val (.long (q0 &&& (9223372036854775807 : Int64))), .second, .val (.int (1 : Int32)), .val (.ref w_ENDS_THEN_CLASSIC), .unset, .unset, .unset, .unset] []) _ _ _
      refine Ends.go (fun _ k => XS.aload X22.here hx rfl (hb hby at_27) rfl rfl k) ?_
      show Ends p e below s T22 (mkF m 29 #[.val (.long q0), .second, .val (.int p1), .val (.int p2), .val (.int p3), .val (.long (q0 &&& (9223372036854775807 : Int64))), .second, .val (.int (1 : Int32)), .val (.ref w_ENDS_THEN_CLASSIC), .unset, .unset, .unset, .unset] [(.ref w_ENDS_THEN_CLASSIC)]) _ _ _
      refine Ends.go (fun _ k => XS.lload X22.here hx rfl (hb hby at_29) rfl k) ?_
      show Ends p e below s T22 (mkF m 31 #[.val (.long q0), .second, .val (.int p1), .val (.int p2), .val (.int p3), .val (.long (q0 &&& (9223372036854775807 : Int64))), .second, .val (.int (1 : Int32)), .val (.ref w_ENDS_THEN_CLASSIC), .unset, .unset, .unset, .unset] [(.long (q0 &&& (9223372036854775807 : Int64))), (.ref w_ENDS_THEN_CLASSIC)]) _ _ _
      refine Ends.go (fun _ k => XS.iloadN X22.here hx rfl (hb hby at_31) rfl k) ?_
      show Ends p e below s T22 (mkF m 32 #[.val (.long q0), .second, .val (.int p1), .val (.int p2), .val (.int p3), .val (.long (q0 &&& (9223372036854775807 : Int64))), .second, .val (.int (1 : Int32)), .val (.ref w_ENDS_THEN_CLASSIC), .unset, .unset, .unset, .unset] [(.int p1), (.long (q0 &&& (9223372036854775807 : Int64))), (.ref w_ENDS_THEN_CLASSIC)]) _ _ _
      refine Ends.go (fun _ k => XS.iload X22.here hx rfl (hb hby at_32) rfl k) ?_
      show Ends p e below s T22 (mkF m 34 #[.val (.long q0), .second, .val (.int p1), .val (.int p2), .val (.int p3), .val (.long (q0 &&& (9223372036854775807 : Int64))), .second, .val (.int (1 : Int32)), .val (.ref w_ENDS_THEN_CLASSIC), .unset, .unset, .unset, .unset] [(.int (1 : Int32)), (.int p1), (.long (q0 &&& (9223372036854775807 : Int64))), (.ref w_ENDS_THEN_CLASSIC)]) _ _ _
      obtain ⟨cq23, kq23, q23a, q23b, q23c⟩ := isOf hZ e22q (E_ENDS_THEN_CLASSIC.ext O0.2)
      obtain ⟨_, _, ⟨T23, L23, k23, n23⟩, -, X23, ⟨Lc23, hQ23, l23, y23, z23⟩, st23⟩ := X22.virtualBack hx (y := (⟨"com/example/sindano/sindano/boyermoore/Stretches$FastForm", "budget", "(JIZ)J"⟩ : MethodName)) (z := (⟨"com/example/sindano/sindano/boyermoore/Stretches$FastForm", "budget", "(JIZ)J"⟩ : MethodName)) hown (mvT hZ (hw _ (List.mem_of_getElem? (i := 8) rfl))) (mvT hZ (hw _ (List.mem_of_getElem? (i := 9) rfl))) (notFace_of_selects (args := #[]) (mvT hZ (hw _ (List.mem_of_getElem? (i := 11) rfl)))) (mvT hZ (hw _ (List.mem_of_getElem? (i := 11) rfl))) (mvT hZ (hw _ (List.mem_of_getElem? (i := 10) rfl))) (by decide) (own_backOf (W := 0) (rmB l Z a0 hw [] n0 h0 O0 w_ENDS_THEN_CLASSIC (q0 &&& (9223372036854775807 : Int64)) p1 (1 : Int32) w_ENDS_THEN_CLASSIC w_PAIRS w_ENDS w_ENDS_THEN_EXACT FF0 ((-4 : Int64) * p1.toInt64) (by rw [if_neg (Fld.ne F_ordinal_ENDS_THEN_CLASSIC F_ordinal_PAIRS (by decide)), if_neg (Fld.ne F_ordinal_ENDS_THEN_CLASSIC F_ordinal_ENDS (by decide))])) hZ (hw _ (List.mem_of_getElem? (i := 12) rfl)) (hw _ (List.mem_of_getElem? (i := 6) rfl)) (by decide) (by decide)) q23a q23c (g := (mkF m 34 #[.val (.long q0), .second, .val (.int p1), .val (.int p2), .val (.int p3), .val (.long (q0 &&& (9223372036854775807 : Int64))), .second, .val (.int (1 : Int32)), .val (.ref w_ENDS_THEN_CLASSIC), .unset, .unset, .unset, .unset] [(.int (1 : Int32)), (.int p1), (.long (q0 &&& (9223372036854775807 : Int64))), (.ref w_ENDS_THEN_CLASSIC)])) rfl (by rw [hml]; rfl) (Steps.refl _) (argsL := [(.long (q0 &&& (9223372036854775807 : Int64))), (.int p1), (.int (1 : Int32))]) (rest := []) (lenOf pd0_1 rfl) rfl (by show 2 * 0 + _ ≤ _; exact Nat.le_of_eq rfl) (hb hby at_34) (fun _ _ => ⟨rfl, e22q, (by decide : 0 + 0 ≤ _), (by decide : 0 + 0 ≤ _)⟩)
      dsimp only [Pt.U, Pt.locs, Pt.cells, Pt.slots] at X23 l23 y23 z23 st23 hQ23
      subst l23 y23 z23
      obtain ⟨rfl, N23q, e23q⟩ := hQ23
      have N23 := Fr.app N22 N23q
      refine Ends.go (fun _ k => st23.trans k) ?_
      show Ends p e below s T23 (mkF m 37 #[.val (.long q0), .second, .val (.int p1), .val (.int p2), .val (.int p3), .val (.long (q0 &&& (9223372036854775807 : Int64))), .second, .val (.int (1 : Int32)), .val (.ref w_ENDS_THEN_CLASSIC), .unset, .unset, .unset, .unset] [(.long ((-4 : Int64) * p1.toInt64))]) _ _ _
      refine Ends.go (fun _ k => XS.lstore X23.here hx rfl (hb hby at_37) rfl (l' := #[.val (.long q0), .second, .val (.int p1), .val (.int p2), .val (.int p3), .val (.long (q0 &&& (9223372036854775807 : Int64))), .second, .val (.int (1 : Int32)), .val (.ref w_ENDS_THEN_CLASSIC), .val (.long ((-4 : Int64) * p1.toInt64)), .second, .unset, .unset]) rfl k) ?_
      show Ends p e below s T23 (mkF m 39 #[.val (.long q0), .second, .val (.int p1), .val (.int p2), .val (.int p3), .val (.long (q0 &&& (9223372036854775807 : Int64))), .second, .val (.int (1 : Int32)), .val (.ref w_ENDS_THEN_CLASSIC), .val (.long ((-4 : Int64) * p1.toInt64)), .second, .unset, .unset] []) _ _ _
      refine Ends.go (fun _ k => XS.aload X23.here hx rfl (hb hby at_39) rfl rfl k) ?_
      show Ends p e below s T23 (mkF m 41 #[.val (.long q0), .second, .val (.int p1), .val (.int p2), .val (.int p3), .val (.long (q0 &&& (9223372036854775807 : Int64))), .second, .val (.int (1 : Int32)), .val (.ref w_ENDS_THEN_CLASSIC), .val (.long ((-4 : Int64) * p1.toInt64)), .second, .unset, .unset] [(.ref w_ENDS_THEN_CLASSIC)]) _ _ _
      obtain ⟨T24, X24, e24, st24⟩ := getS2 X23 hx hZ hown (host := "") (Or.inl (hw _ (List.mem_of_getElem? (i := 18) rfl))) Via.refl e23q (S_PAIRS.ext O0.2) (g := (mkF m 41 #[.val (.long q0), .second, .val (.int p1), .val (.int p2), .val (.int p3), .val (.long (q0 &&& (9223372036854775807 : Int64))), .second, .val (.int (1 : Int32)), .val (.ref w_ENDS_THEN_CLASSIC), .val (.long ((-4 : Int64) * p1.toInt64)), .second, .unset, .unset] [(.ref w_ENDS_THEN_CLASSIC)])) rfl (hb hby at_41)
      refine Ends.go st24 ?_
      show Ends p e below s T24 (mkF m 44 #[.val (.long q0), .second, .val (.int p1), .val (.int p2), .val (.int p3), .val (.long (q0 &&& (9223372036854775807 : Int64))), .second, .val (.int (1 : Int32)), .val (.ref w_ENDS_THEN_CLASSIC), .val (.long ((-4 : Int64) * p1.toInt64)), .second, .unset, .unset] [(.ref w_PAIRS), (.ref w_ENDS_THEN_CLASSIC)]) _ _ _
      refine Ends.go (fun _ k => Jvm.RoadKit.acmp (g := (mkF m 44 #[.val (.long q0), .second, .val (.int p1), .val (.int p2), .val (.int p3), .val (.long (q0 &&& (9223372036854775807 : Int64))), .second, .val (.int (1 : Int32)), .val (.ref w_ENDS_THEN_CLASSIC), .val (.long ((-4 : Int64) * p1.toInt64)), .second, .unset, .unset] [(.ref w_PAIRS), (.ref w_ENDS_THEN_CLASSIC)])) X24 hx rfl rfl rfl (pc0 := 44) (pc' := 92) (same := false) rfl (hb hby at_44) rfl (decide_eq_false fun q => (Fld.ne F_ordinal_ENDS_THEN_CLASSIC F_ordinal_PAIRS (by decide)) (Value.ref.inj q)) (by decide) (by decide) k) ?_
      show Ends p e below s T24 (mkF m 92 #[.val (.long q0), .second, .val (.int p1), .val (.int p2), .val (.int p3), .val (.long (q0 &&& (9223372036854775807 : Int64))), .second, .val (.int (1 : Int32)), .val (.ref w_ENDS_THEN_CLASSIC), .val (.long ((-4 : Int64) * p1.toInt64)), .second, .unset, .unset] []) _ _ _
      refine Ends.go (fun _ k => XS.aload X24.here hx rfl (hb hby at_92) rfl rfl k) ?_
      show Ends p e below s T24 (mkF m 94 #[.val (.long q0), .second, .val (.int p1), .val (.int p2), .val (.int p3), .val (.long (q0 &&& (9223372036854775807 : Int64))), .second, .val (.int (1 : Int32)), .val (.ref w_ENDS_THEN_CLASSIC), .val (.long ((-4 : Int64) * p1.toInt64)), .second, .unset, .unset] [(.ref w_ENDS_THEN_CLASSIC)]) _ _ _
      obtain ⟨T25, X25, e25, st25⟩ := getS2 X24 hx hZ hown (host := "") (Or.inl (hw _ (List.mem_of_getElem? (i := 19) rfl))) Via.refl e24 (S_ENDS.ext O0.2) (g := (mkF m 94 #[.val (.long q0), .second, .val (.int p1), .val (.int p2), .val (.int p3), .val (.long (q0 &&& (9223372036854775807 : Int64))), .second, .val (.int (1 : Int32)), .val (.ref w_ENDS_THEN_CLASSIC), .val (.long ((-4 : Int64) * p1.toInt64)), .second, .unset, .unset] [(.ref w_ENDS_THEN_CLASSIC)])) rfl (hb hby at_94)
      refine Ends.go st25 ?_
      show Ends p e below s T25 (mkF m 97 #[.val (.long q0), .second, .val (.int p1), .val (.int p2), .val (.int p3), .val (.long (q0 &&& (9223372036854775807 : Int64))), .second, .val (.int (1 : Int32)), .val (.ref w_ENDS_THEN_CLASSIC), .val (.long ((-4 : Int64) * p1.toInt64)), .second, .unset, .unset] [(.ref w_ENDS), (.ref w_ENDS_THEN_CLASSIC)]) _ _ _
      refine Ends.go (fun _ k => Jvm.RoadKit.acmp (g := (mkF m 97 #[.val (.long q0), .second, .val (.int p1), .val (.int p2), .val (.int p3), .val (.long (q0 &&& (9223372036854775807 : Int64))), .second, .val (.int (1 : Int32)), .val (.ref w_ENDS_THEN_CLASSIC), .val (.long ((-4 : Int64) * p1.toInt64)), .second, .unset, .unset] [(.ref w_ENDS), (.ref w_ENDS_THEN_CLASSIC)])) X25 hx rfl rfl rfl (pc0 := 97) (pc' := 114) (same := false) rfl (hb hby at_97) rfl (decide_eq_false fun q => (Fld.ne F_ordinal_ENDS_THEN_CLASSIC F_ordinal_ENDS (by decide)) (Value.ref.inj q)) (by decide) (by decide) k) ?_
      show Ends p e below s T25 (mkF m 114 #[.val (.long q0), .second, .val (.int p1), .val (.int p2), .val (.int p3), .val (.long (q0 &&& (9223372036854775807 : Int64))), .second, .val (.int (1 : Int32)), .val (.ref w_ENDS_THEN_CLASSIC), .val (.long ((-4 : Int64) * p1.toInt64)), .second, .unset, .unset] []) _ _ _
      refine Ends.go (fun _ k => XS.lload X25.here hx rfl (hb hby at_114) rfl k) ?_
      show Ends p e below s T25 (mkF m 116 #[.val (.long q0), .second, .val (.int p1), .val (.int p2), .val (.int p3), .val (.long (q0 &&& (9223372036854775807 : Int64))), .second, .val (.int (1 : Int32)), .val (.ref w_ENDS_THEN_CLASSIC), .val (.long ((-4 : Int64) * p1.toInt64)), .second, .unset, .unset] [(.long ((-4 : Int64) * p1.toInt64))]) _ _ _
      refine Ends.go (fun _ k => XS.iloadN X25.here hx rfl (hb hby at_116) rfl k) ?_
      show Ends p e below s T25 (mkF m 117 #[.val (.long q0), .second, .val (.int p1), .val (.int p2), .val (.int p3), .val (.long (q0 &&& (9223372036854775807 : Int64))), .second, .val (.int (1 : Int32)), .val (.ref w_ENDS_THEN_CLASSIC), .val (.long ((-4 : Int64) * p1.toInt64)), .second, .unset, .unset] [(.int p1), (.long ((-4 : Int64) * p1.toInt64))]) _ _ _
      refine Ends.go (fun _ k => XS.i2l X25.here hx rfl (hb hby at_117) rfl k) ?_
      show Ends p e below s T25 (mkF m 118 #[.val (.long q0), .second, .val (.int p1), .val (.int p2), .val (.int p3), .val (.long (q0 &&& (9223372036854775807 : Int64))), .second, .val (.int (1 : Int32)), .val (.ref w_ENDS_THEN_CLASSIC), .val (.long ((-4 : Int64) * p1.toInt64)), .second, .unset, .unset] [(.long (p1.toInt64)), (.long ((-4 : Int64) * p1.toInt64))]) _ _ _
      refine Ends.go (X25.ldc2Long hx hown (mvT hZ (hw _ (List.mem_of_getElem? (i := 20) rfl))) (g := (mkF m 118 #[.val (.long q0), .second, .val (.int p1), .val (.int p2), .val (.int p3), .val (.long (q0 &&& (9223372036854775807 : Int64))), .second, .val (.int (1 : Int32)), .val (.ref w_ENDS_THEN_CLASSIC), .val (.long ((-4 : Int64) * p1.toInt64)), .second, .unset, .unset] [(.long (p1.toInt64)), (.long ((-4 : Int64) * p1.toInt64))])) rfl (hb hby at_118)) ?_
      show Ends p e below s T25 (mkF m 121 #[.val (.long q0), .second, .val (.int p1), .val (.int p2), .val (.int p3), .val (.long (q0 &&& (9223372036854775807 : Int64))), .second, .val (.int (1 : Int32)), .val (.ref w_ENDS_THEN_CLASSIC), .val (.long ((-4 : Int64) * p1.toInt64)), .second, .unset, .unset] [(.long (-4 : Int64)), (.long (p1.toInt64)), (.long ((-4 : Int64) * p1.toInt64))]) _ _ _
      refine Ends.go (fun _ k => XS.lmul X25.here hx rfl (hb hby at_121) rfl k) ?_
      show Ends p e below s T25 (mkF m 122 #[.val (.long q0), .second, .val (.int p1), .val (.int p2), .val (.int p3), .val (.long (q0 &&& (9223372036854775807 : Int64))), .second, .val (.int (1 : Int32)), .val (.ref w_ENDS_THEN_CLASSIC), .val (.long ((-4 : Int64) * p1.toInt64)), .second, .unset, .unset] [(.long ((p1.toInt64) * (-4 : Int64))), (.long ((-4 : Int64) * p1.toInt64))]) _ _ _
      refine Ends.go (fun _ k => XS.lcmp X25.here hx rfl (hb hby at_122) rfl k) ?_
      show Ends p e below s T25 (mkF m 123 #[.val (.long q0), .second, .val (.int p1), .val (.int p2), .val (.int p3), .val (.long (q0 &&& (9223372036854775807 : Int64))), .second, .val (.int (1 : Int32)), .val (.ref w_ENDS_THEN_CLASSIC), .val (.long ((-4 : Int64) * p1.toInt64)), .second, .unset, .unset] [(.int (lcmpW ((-4 : Int64) * p1.toInt64) ((p1.toInt64) * (-4 : Int64))))]) _ _ _
      refine Ends.go (fun _ k => XS.ifNo X25.here hx rfl (hb hby at_123) rfl ((if0 _ _).trans (teq ((lw_eq _ _).mpr (Int64.mul_comm _ _) : (lcmpW ((-4 : Int64) * p1.toInt64) ((p1.toInt64) * (-4 : Int64))) = (0 : Int32))).2) k) ?_
      show Ends p e below s T25 (mkF m 126 #[.val (.long q0), .second, .val (.int p1), .val (.int p2), .val (.int p3), .val (.long (q0 &&& (9223372036854775807 : Int64))), .second, .val (.int (1 : Int32)), .val (.ref w_ENDS_THEN_CLASSIC), .val (.long ((-4 : Int64) * p1.toInt64)), .second, .unset, .unset] []) _ _ _
      refine Ends.go (fun _ k => XS.iconst X25.here hx rfl (hb hby at_126) k) ?_
      show Ends p e below s T25 (mkF m 127 #[.val (.long q0), .second, .val (.int p1), .val (.int p2), .val (.int p3), .val (.long (q0 &&& (9223372036854775807 : Int64))), .second, .val (.int (1 : Int32)), .val (.ref w_ENDS_THEN_CLASSIC), .val (.long ((-4 : Int64) * p1.toInt64)), .second, .unset, .unset] [(.int (1 : Int32))]) _ _ _
      refine Ends.go (fun _ k => XS.goto X25.here hx rfl (pc0 := 127) (pc' := 131) rfl (hb hby at_127) (by decide) (by decide) k) ?_
      show Ends p e below s T25 (mkF m 131 #[.val (.long q0), .second, .val (.int p1), .val (.int p2), .val (.int p3), .val (.long (q0 &&& (9223372036854775807 : Int64))), .second, .val (.int (1 : Int32)), .val (.ref w_ENDS_THEN_CLASSIC), .val (.long ((-4 : Int64) * p1.toInt64)), .second, .unset, .unset] [(.int (1 : Int32))]) _ _ _
      refine Ends.retZ X25 hx Bd.notSynchronized (t := .boolean) Bd.returns (by simp) (hb hby at_131) (by decide) (by decide) ?_
      exact ⟨rfl, N23⟩
    · obtain ⟨_, _, ⟨T26, L26, k26, n26⟩, -, X26, ⟨Lc26, hQ26, l26, y26, z26⟩, st26⟩ := Jvm.LawKit.callS X0 hx (y := (⟨"com/example/sindano/sindano/boyermoore/FastFormBudgetPinLaw", "pick", "(I)Lcom/example/sindano/sindano/boyermoore/Stretches$FastForm;"⟩ : MethodName)) hown (mvT hZ (hw _ (List.mem_of_getElem? (i := 1) rfl))) (mvT hZ (hw _ (List.mem_of_getElem? (i := 2) rfl))) (mvT hZ (hw _ (List.mem_of_getElem? (i := 3) rfl))) (mvT hZ (hw _ (List.mem_of_getElem? (i := 4) rfl))) (by decide) (own_backOf (W := 0) (rmP l Z a0 hw [] n0 h0 O0 p2 w_ENDS_THEN_CLASSIC w_PAIRS w_ENDS w_ENDS_THEN_EXACT FF0 w_ENDS_THEN_EXACT (by rw [hk]; simp)) hZ (hw _ (List.mem_of_getElem? (i := 4) rfl)) (hw _ (List.mem_of_getElem? (i := 3) rfl)) (by decide) (by decide)) (g := (mkF m 22 #[.val (.long q0), .second, .val (.int p1), .val (.int p2), .val (.int p3), .val (.long (q0 &&& (9223372036854775807 : Int64))), .second, .val (.int (1 : Int32)), .unset, .unset, .unset, .unset, .unset] [(.int p2)])) rfl (by rw [hml]; rfl) (argsL := [(.int p2)]) (rest := []) (lenOf pd0_0 rfl) rfl (by show 2 * 0 + _ ≤ _; exact Nat.le_of_eq rfl) (hb hby at_22) (fun _ _ => ⟨rfl, e0, (by decide : 0 + 0 ≤ _), (by decide : 0 + 0 ≤ _)⟩)
      dsimp only [Pt.U, Pt.locs, Pt.cells, Pt.slots] at X26 l26 y26 z26 st26 hQ26
      subst l26 y26 z26
      obtain ⟨rfl, N26q, e26q⟩ := hQ26
      have N26 := Fr.app N0 N26q
      refine Ends.go st26 ?_
      show Ends p e below s T26 (mkF m 25 #[.val (.long q0), .second, .val (.int p1), .val (.int p2), .val (.int p3), .val (.long (q0 &&& (9223372036854775807 : Int64))), .second, .val (.int (1 : Int32)), .unset, .unset, .unset, .unset, .unset] [(.ref w_ENDS_THEN_EXACT)]) _ _ _
      refine Ends.go (fun _ k => XS.astore X26.here hx rfl (hb hby at_25) rfl rfl (l' := #[.val (.long q0), .second, .val (.int p1), .val (.int p2), .val (.int p3), .val (.long (q0 &&& (9223372036854775807 : Int64))), .second, .val (.int (1 : Int32)), .val (.ref w_ENDS_THEN_EXACT), .unset, .unset, .unset, .unset]) rfl k) ?_
      show Ends p e below s T26 (mkF m 27 #[.val (.long q0), .second, .val (.int p1), .val (.int p2), .val (.int p3), .val (.long (q0 &&& (9223372036854775807 : Int64))), .second, .val (.int (1 : Int32)), .val (.ref w_ENDS_THEN_EXACT), .unset, .unset, .unset, .unset] []) _ _ _
      refine Ends.go (fun _ k => XS.aload X26.here hx rfl (hb hby at_27) rfl rfl k) ?_
      show Ends p e below s T26 (mkF m 29 #[.val (.long q0), .second, .val (.int p1), .val (.int p2), .val (.int p3), .val (.long (q0 &&& (9223372036854775807 : Int64))), .second, .val (.int (1 : Int32)), .val (.ref w_ENDS_THEN_EXACT), .unset, .unset, .unset, .unset] [(.ref w_ENDS_THEN_EXACT)]) _ _ _
      refine Ends.go (fun _ k => XS.lload X26.here hx rfl (hb hby at_29) rfl k) ?_
      show Ends p e below s T26 (mkF m 31 #[.val (.long q0), .second, .val (.int p1), .val (.int p2), .val (.int p3), .val (.long (q0 &&& (9223372036854775807 : Int64))), .second, .val (.int (1 : Int32)), .val (.ref w_ENDS_THEN_EXACT), .unset, .unset, .unset, .unset] [(.long (q0 &&& (9223372036854775807 : Int64))), (.ref w_ENDS_THEN_EXACT)]) _ _ _
      refine Ends.go (fun _ k => XS.iloadN X26.here hx rfl (hb hby at_31) rfl k) ?_
      show Ends p e below s T26 (mkF m 32 #[.val (.long q0), .second, .val (.int p1), .val (.int p2), .val (.int p3), .val (.long (q0 &&& (9223372036854775807 : Int64))), .second, .val (.int (1 : Int32)), .val (.ref w_ENDS_THEN_EXACT), .unset, .unset, .unset, .unset] [(.int p1), (.long (q0 &&& (9223372036854775807 : Int64))), (.ref w_ENDS_THEN_EXACT)]) _ _ _
      refine Ends.go (fun _ k => XS.iload X26.here hx rfl (hb hby at_32) rfl k) ?_
      show Ends p e below s T26 (mkF m 34 #[.val (.long q0), .second, .val (.int p1), .val (.int p2), .val (.int p3), .val (.long (q0 &&& (9223372036854775807 : Int64))), .second, .val (.int (1 : Int32)), .val (.ref w_ENDS_THEN_EXACT), .unset, .unset, .unset, .unset] [(.int (1 : Int32)), (.int p1), (.long (q0 &&& (9223372036854775807 : Int64))), (.ref w_ENDS_THEN_EXACT)]) _ _ _
      obtain ⟨cq27, kq27, q27a, q27b, q27c⟩ := isOf hZ e26q (E_ENDS_THEN_EXACT.ext O0.2)
      obtain ⟨_, _, ⟨T27, L27, k27, n27⟩, -, X27, ⟨Lc27, hQ27, l27, y27, z27⟩, st27⟩ := X26.virtualBack hx (y := (⟨"com/example/sindano/sindano/boyermoore/Stretches$FastForm", "budget", "(JIZ)J"⟩ : MethodName)) (z := (⟨"com/example/sindano/sindano/boyermoore/Stretches$FastForm", "budget", "(JIZ)J"⟩ : MethodName)) hown (mvT hZ (hw _ (List.mem_of_getElem? (i := 8) rfl))) (mvT hZ (hw _ (List.mem_of_getElem? (i := 9) rfl))) (notFace_of_selects (args := #[]) (mvT hZ (hw _ (List.mem_of_getElem? (i := 11) rfl)))) (mvT hZ (hw _ (List.mem_of_getElem? (i := 11) rfl))) (mvT hZ (hw _ (List.mem_of_getElem? (i := 10) rfl))) (by decide) (own_backOf (W := 0) (rmB l Z a0 hw [] n0 h0 O0 w_ENDS_THEN_EXACT (q0 &&& (9223372036854775807 : Int64)) p1 (1 : Int32) w_ENDS_THEN_CLASSIC w_PAIRS w_ENDS w_ENDS_THEN_EXACT FF0 ((-4 : Int64) * p1.toInt64) (by rw [if_neg (Fld.ne F_ordinal_ENDS_THEN_EXACT F_ordinal_PAIRS (by decide)), if_neg (Fld.ne F_ordinal_ENDS_THEN_EXACT F_ordinal_ENDS (by decide))])) hZ (hw _ (List.mem_of_getElem? (i := 12) rfl)) (hw _ (List.mem_of_getElem? (i := 6) rfl)) (by decide) (by decide)) q27a q27c (g := (mkF m 34 #[.val (.long q0), .second, .val (.int p1), .val (.int p2), .val (.int p3), .val (.long (q0 &&& (9223372036854775807 : Int64))), .second, .val (.int (1 : Int32)), .val (.ref w_ENDS_THEN_EXACT), .unset, .unset, .unset, .unset] [(.int (1 : Int32)), (.int p1), (.long (q0 &&& (9223372036854775807 : Int64))), (.ref w_ENDS_THEN_EXACT)])) rfl (by rw [hml]; rfl) (Steps.refl _) (argsL := [(.long (q0 &&& (9223372036854775807 : Int64))), (.int p1), (.int (1 : Int32))]) (rest := []) (lenOf pd0_1 rfl) rfl (by show 2 * 0 + _ ≤ _; exact Nat.le_of_eq rfl) (hb hby at_34) (fun _ _ => ⟨rfl, e26q, (by decide : 0 + 0 ≤ _), (by decide : 0 + 0 ≤ _)⟩)
      dsimp only [Pt.U, Pt.locs, Pt.cells, Pt.slots] at X27 l27 y27 z27 st27 hQ27
      subst l27 y27 z27
      obtain ⟨rfl, N27q, e27q⟩ := hQ27
      have N27 := Fr.app N26 N27q
      refine Ends.go (fun _ k => st27.trans k) ?_
      show Ends p e below s T27 (mkF m 37 #[.val (.long q0), .second, .val (.int p1), .val (.int p2), .val (.int p3), .val (.long (q0 &&& (9223372036854775807 : Int64))), .second, .val (.int (1 : Int32)), .val (.ref w_ENDS_THEN_EXACT), .unset, .unset, .unset, .unset] [(.long ((-4 : Int64) * p1.toInt64))]) _ _ _
      refine Ends.go (fun _ k => XS.lstore X27.here hx rfl (hb hby at_37) rfl (l' := #[.val (.long q0), .second, .val (.int p1), .val (.int p2), .val (.int p3), .val (.long (q0 &&& (9223372036854775807 : Int64))), .second, .val (.int (1 : Int32)), .val (.ref w_ENDS_THEN_EXACT), .val (.long ((-4 : Int64) * p1.toInt64)), .second, .unset, .unset]) rfl k) ?_
      show Ends p e below s T27 (mkF m 39 #[.val (.long q0), .second, .val (.int p1), .val (.int p2), .val (.int p3), .val (.long (q0 &&& (9223372036854775807 : Int64))), .second, .val (.int (1 : Int32)), .val (.ref w_ENDS_THEN_EXACT), .val (.long ((-4 : Int64) * p1.toInt64)), .second, .unset, .unset] []) _ _ _
      refine Ends.go (fun _ k => XS.aload X27.here hx rfl (hb hby at_39) rfl rfl k) ?_
      show Ends p e below s T27 (mkF m 41 #[.val (.long q0), .second, .val (.int p1), .val (.int p2), .val (.int p3), .val (.long (q0 &&& (9223372036854775807 : Int64))), .second, .val (.int (1 : Int32)), .val (.ref w_ENDS_THEN_EXACT), .val (.long ((-4 : Int64) * p1.toInt64)), .second, .unset, .unset] [(.ref w_ENDS_THEN_EXACT)]) _ _ _
      obtain ⟨T28, X28, e28, st28⟩ := getS2 X27 hx hZ hown (host := "") (Or.inl (hw _ (List.mem_of_getElem? (i := 18) rfl))) Via.refl e27q (S_PAIRS.ext O0.2) (g := (mkF m 41 #[.val (.long q0), .second, .val (.int p1), .val (.int p2), .val (.int p3), .val (.long (q0 &&& (9223372036854775807 : Int64))), .second, .val (.int (1 : Int32)), .val (.ref w_ENDS_THEN_EXACT), .val (.long ((-4 : Int64) * p1.toInt64)), .second, .unset, .unset] [(.ref w_ENDS_THEN_EXACT)])) rfl (hb hby at_41)
      refine Ends.go st28 ?_
      show Ends p e below s T28 (mkF m 44 #[.val (.long q0), .second, .val (.int p1), .val (.int p2), .val (.int p3), .val (.long (q0 &&& (9223372036854775807 : Int64))), .second, .val (.int (1 : Int32)), .val (.ref w_ENDS_THEN_EXACT), .val (.long ((-4 : Int64) * p1.toInt64)), .second, .unset, .unset] [(.ref w_PAIRS), (.ref w_ENDS_THEN_EXACT)]) _ _ _
      refine Ends.go (fun _ k => Jvm.RoadKit.acmp (g := (mkF m 44 #[.val (.long q0), .second, .val (.int p1), .val (.int p2), .val (.int p3), .val (.long (q0 &&& (9223372036854775807 : Int64))), .second, .val (.int (1 : Int32)), .val (.ref w_ENDS_THEN_EXACT), .val (.long ((-4 : Int64) * p1.toInt64)), .second, .unset, .unset] [(.ref w_PAIRS), (.ref w_ENDS_THEN_EXACT)])) X28 hx rfl rfl rfl (pc0 := 44) (pc' := 92) (same := false) rfl (hb hby at_44) rfl (decide_eq_false fun q => (Fld.ne F_ordinal_ENDS_THEN_EXACT F_ordinal_PAIRS (by decide)) (Value.ref.inj q)) (by decide) (by decide) k) ?_
      show Ends p e below s T28 (mkF m 92 #[.val (.long q0), .second, .val (.int p1), .val (.int p2), .val (.int p3), .val (.long (q0 &&& (9223372036854775807 : Int64))), .second, .val (.int (1 : Int32)), .val (.ref w_ENDS_THEN_EXACT), .val (.long ((-4 : Int64) * p1.toInt64)), .second, .unset, .unset] []) _ _ _
      refine Ends.go (fun _ k => XS.aload X28.here hx rfl (hb hby at_92) rfl rfl k) ?_
      show Ends p e below s T28 (mkF m 94 #[.val (.long q0), .second, .val (.int p1), .val (.int p2), .val (.int p3), .val (.long (q0 &&& (9223372036854775807 : Int64))), .second, .val (.int (1 : Int32)), .val (.ref w_ENDS_THEN_EXACT), .val (.long ((-4 : Int64) * p1.toInt64)), .second, .unset, .unset] [(.ref w_ENDS_THEN_EXACT)]) _ _ _
      obtain ⟨T29, X29, e29, st29⟩ := getS2 X28 hx hZ hown (host := "") (Or.inl (hw _ (List.mem_of_getElem? (i := 19) rfl))) Via.refl e28 (S_ENDS.ext O0.2) (g := (mkF m 94 #[.val (.long q0), .second, .val (.int p1), .val (.int p2), .val (.int p3), .val (.long (q0 &&& (9223372036854775807 : Int64))), .second, .val (.int (1 : Int32)), .val (.ref w_ENDS_THEN_EXACT), .val (.long ((-4 : Int64) * p1.toInt64)), .second, .unset, .unset] [(.ref w_ENDS_THEN_EXACT)])) rfl (hb hby at_94)
      refine Ends.go st29 ?_
      show Ends p e below s T29 (mkF m 97 #[.val (.long q0), .second, .val (.int p1), .val (.int p2), .val (.int p3), .val (.long (q0 &&& (9223372036854775807 : Int64))), .second, .val (.int (1 : Int32)), .val (.ref w_ENDS_THEN_EXACT), .val (.long ((-4 : Int64) * p1.toInt64)), .second, .unset, .unset] [(.ref w_ENDS), (.ref w_ENDS_THEN_EXACT)]) _ _ _
      refine Ends.go (fun _ k => Jvm.RoadKit.acmp (g := (mkF m 97 #[.val (.long q0), .second, .val (.int p1), .val (.int p2), .val (.int p3), .val (.long (q0 &&& (9223372036854775807 : Int64))), .second, .val (.int (1 : Int32)), .val (.ref w_ENDS_THEN_EXACT), .val (.long ((-4 : Int64) * p1.toInt64)), .second, .unset, .unset] [(.ref w_ENDS), (.ref w_ENDS_THEN_EXACT)])) X29 hx rfl rfl rfl (pc0 := 97) (pc' := 114) (same := false) rfl (hb hby at_97) rfl (decide_eq_false fun q => (Fld.ne F_ordinal_ENDS_THEN_EXACT F_ordinal_ENDS (by decide)) (Value.ref.inj q)) (by decide) (by decide) k) ?_
      show Ends p e below s T29 (mkF m 114 #[.val (.long q0), .second, .val (.int p1), .val (.int p2), .val (.int p3), .val (.long (q0 &&& (9223372036854775807 : Int64))), .second, .val (.int (1 : Int32)), .val (.ref w_ENDS_THEN_EXACT), .val (.long ((-4 : Int64) * p1.toInt64)), .second, .unset, .unset] []) _ _ _
      refine Ends.go (fun _ k => XS.lload X29.here hx rfl (hb hby at_114) rfl k) ?_
      show Ends p e below s T29 (mkF m 116 #[.val (.long q0), .second, .val (.int p1), .val (.int p2), .val (.int p3), .val (.long (q0 &&& (9223372036854775807 : Int64))), .second, .val (.int (1 : Int32)), .val (.ref w_ENDS_THEN_EXACT), .val (.long ((-4 : Int64) * p1.toInt64)), .second, .unset, .unset] [(.long ((-4 : Int64) * p1.toInt64))]) _ _ _
      refine Ends.go (fun _ k => XS.iloadN X29.here hx rfl (hb hby at_116) rfl k) ?_
      show Ends p e below s T29 (mkF m 117 #[.val (.long q0), .second, .val (.int p1), .val (.int p2), .val (.int p3), .val (.long (q0 &&& (9223372036854775807 : Int64))), .second, .val (.int (1 : Int32)), .val (.ref w_ENDS_THEN_EXACT), .val (.long ((-4 : Int64) * p1.toInt64)), .second, .unset, .unset] [(.int p1), (.long ((-4 : Int64) * p1.toInt64))]) _ _ _
      refine Ends.go (fun _ k => XS.i2l X29.here hx rfl (hb hby at_117) rfl k) ?_
      show Ends p e below s T29 (mkF m 118 #[.val (.long q0), .second, .val (.int p1), .val (.int p2), .val (.int p3), .val (.long (q0 &&& (9223372036854775807 : Int64))), .second, .val (.int (1 : Int32)), .val (.ref w_ENDS_THEN_EXACT), .val (.long ((-4 : Int64) * p1.toInt64)), .second, .unset, .unset] [(.long (p1.toInt64)), (.long ((-4 : Int64) * p1.toInt64))]) _ _ _
      refine Ends.go (X29.ldc2Long hx hown (mvT hZ (hw _ (List.mem_of_getElem? (i := 20) rfl))) (g := (mkF m 118 #[.val (.long q0), .second, .val (.int p1), .val (.int p2), .val (.int p3), .val (.long (q0 &&& (9223372036854775807 : Int64))), .second, .val (.int (1 : Int32)), .val (.ref w_ENDS_THEN_EXACT), .val (.long ((-4 : Int64) * p1.toInt64)), .second, .unset, .unset] [(.long (p1.toInt64)), (.long ((-4 : Int64) * p1.toInt64))])) rfl (hb hby at_118)) ?_
      show Ends p e below s T29 (mkF m 121 #[.val (.long q0), .second, .val (.int p1), .val (.int p2), .val (.int p3), .val (.long (q0 &&& (9223372036854775807 : Int64))), .second, .val (.int (1 : Int32)), .val (.ref w_ENDS_THEN_EXACT), .val (.long ((-4 : Int64) * p1.toInt64)), .second, .unset, .unset] [(.long (-4 : Int64)), (.long (p1.toInt64)), (.long ((-4 : Int64) * p1.toInt64))]) _ _ _
      refine Ends.go (fun _ k => XS.lmul X29.here hx rfl (hb hby at_121) rfl k) ?_
      show Ends p e below s T29 (mkF m 122 #[.val (.long q0), .second, .val (.int p1), .val (.int p2), .val (.int p3), .val (.long (q0 &&& (9223372036854775807 : Int64))), .second, .val (.int (1 : Int32)), .val (.ref w_ENDS_THEN_EXACT), .val (.long ((-4 : Int64) * p1.toInt64)), .second, .unset, .unset] [(.long ((p1.toInt64) * (-4 : Int64))), (.long ((-4 : Int64) * p1.toInt64))]) _ _ _
      refine Ends.go (fun _ k => XS.lcmp X29.here hx rfl (hb hby at_122) rfl k) ?_
      show Ends p e below s T29 (mkF m 123 #[.val (.long q0), .second, .val (.int p1), .val (.int p2), .val (.int p3), .val (.long (q0 &&& (9223372036854775807 : Int64))), .second, .val (.int (1 : Int32)), .val (.ref w_ENDS_THEN_EXACT), .val (.long ((-4 : Int64) * p1.toInt64)), .second, .unset, .unset] [(.int (lcmpW ((-4 : Int64) * p1.toInt64) ((p1.toInt64) * (-4 : Int64))))]) _ _ _
      refine Ends.go (fun _ k => XS.ifNo X29.here hx rfl (hb hby at_123) rfl ((if0 _ _).trans (teq ((lw_eq _ _).mpr (Int64.mul_comm _ _) : (lcmpW ((-4 : Int64) * p1.toInt64) ((p1.toInt64) * (-4 : Int64))) = (0 : Int32))).2) k) ?_
      show Ends p e below s T29 (mkF m 126 #[.val (.long q0), .second, .val (.int p1), .val (.int p2), .val (.int p3), .val (.long (q0 &&& (9223372036854775807 : Int64))), .second, .val (.int (1 : Int32)), .val (.ref w_ENDS_THEN_EXACT), .val (.long ((-4 : Int64) * p1.toInt64)), .second, .unset, .unset] []) _ _ _
      refine Ends.go (fun _ k => XS.iconst X29.here hx rfl (hb hby at_126) k) ?_
      show Ends p e below s T29 (mkF m 127 #[.val (.long q0), .second, .val (.int p1), .val (.int p2), .val (.int p3), .val (.long (q0 &&& (9223372036854775807 : Int64))), .second, .val (.int (1 : Int32)), .val (.ref w_ENDS_THEN_EXACT), .val (.long ((-4 : Int64) * p1.toInt64)), .second, .unset, .unset] [(.int (1 : Int32))]) _ _ _
      refine Ends.go (fun _ k => XS.goto X29.here hx rfl (pc0 := 127) (pc' := 131) rfl (hb hby at_127) (by decide) (by decide) k) ?_
      show Ends p e below s T29 (mkF m 131 #[.val (.long q0), .second, .val (.int p1), .val (.int p2), .val (.int p3), .val (.long (q0 &&& (9223372036854775807 : Int64))), .second, .val (.int (1 : Int32)), .val (.ref w_ENDS_THEN_EXACT), .val (.long ((-4 : Int64) * p1.toInt64)), .second, .unset, .unset] [(.int (1 : Int32))]) _ _ _
      refine Ends.retZ X29 hx Bd.notSynchronized (t := .boolean) Bd.returns (by simp) (hb hby at_131) (by decide) (by decide) ?_
      exact ⟨rfl, N27⟩
    · obtain ⟨_, _, ⟨T30, L30, k30, n30⟩, -, X30, ⟨Lc30, hQ30, l30, y30, z30⟩, st30⟩ := Jvm.LawKit.callS X0 hx (y := (⟨"com/example/sindano/sindano/boyermoore/FastFormBudgetPinLaw", "pick", "(I)Lcom/example/sindano/sindano/boyermoore/Stretches$FastForm;"⟩ : MethodName)) hown (mvT hZ (hw _ (List.mem_of_getElem? (i := 1) rfl))) (mvT hZ (hw _ (List.mem_of_getElem? (i := 2) rfl))) (mvT hZ (hw _ (List.mem_of_getElem? (i := 3) rfl))) (mvT hZ (hw _ (List.mem_of_getElem? (i := 4) rfl))) (by decide) (own_backOf (W := 0) (rmP l Z a0 hw [] n0 h0 O0 p2 w_ENDS_THEN_CLASSIC w_PAIRS w_ENDS w_ENDS_THEN_EXACT FF0 w_PAIRS (by rw [hk]; simp)) hZ (hw _ (List.mem_of_getElem? (i := 4) rfl)) (hw _ (List.mem_of_getElem? (i := 3) rfl)) (by decide) (by decide)) (g := (mkF m 22 #[.val (.long q0), .second, .val (.int p1), .val (.int p2), .val (.int p3), .val (.long (q0 &&& (9223372036854775807 : Int64))), .second, .val (.int (1 : Int32)), .unset, .unset, .unset, .unset, .unset] [(.int p2)])) rfl (by rw [hml]; rfl) (argsL := [(.int p2)]) (rest := []) (lenOf pd0_0 rfl) rfl (by show 2 * 0 + _ ≤ _; exact Nat.le_of_eq rfl) (hb hby at_22) (fun _ _ => ⟨rfl, e0, (by decide : 0 + 0 ≤ _), (by decide : 0 + 0 ≤ _)⟩)
      dsimp only [Pt.U, Pt.locs, Pt.cells, Pt.slots] at X30 l30 y30 z30 st30 hQ30
      subst l30 y30 z30
      obtain ⟨rfl, N30q, e30q⟩ := hQ30
      have N30 := Fr.app N0 N30q
      refine Ends.go st30 ?_
      show Ends p e below s T30 (mkF m 25 #[.val (.long q0), .second, .val (.int p1), .val (.int p2), .val (.int p3), .val (.long (q0 &&& (9223372036854775807 : Int64))), .second, .val (.int (1 : Int32)), .unset, .unset, .unset, .unset, .unset] [(.ref w_PAIRS)]) _ _ _
      refine Ends.go (fun _ k => XS.astore X30.here hx rfl (hb hby at_25) rfl rfl (l' := #[.val (.long q0), .second, .val (.int p1), .val (.int p2), .val (.int p3), .val (.long (q0 &&& (9223372036854775807 : Int64))), .second, .val (.int (1 : Int32)), .val (.ref w_PAIRS), .unset, .unset, .unset, .unset]) rfl k) ?_
      show Ends p e below s T30 (mkF m 27 #[.val (.long q0), .second, .val (.int p1), .val (.int p2), .val (.int p3), .val (.long (q0 &&& (9223372036854775807 : Int64))), .second, .val (.int (1 : Int32)), .val (.ref w_PAIRS), .unset, .unset, .unset, .unset] []) _ _ _
      refine Ends.go (fun _ k => XS.aload X30.here hx rfl (hb hby at_27) rfl rfl k) ?_
      show Ends p e below s T30 (mkF m 29 #[.val (.long q0), .second, .val (.int p1), .val (.int p2), .val (.int p3), .val (.long (q0 &&& (9223372036854775807 : Int64))), .second, .val (.int (1 : Int32)), .val (.ref w_PAIRS), .unset, .unset, .unset, .unset] [(.ref w_PAIRS)]) _ _ _
      refine Ends.go (fun _ k => XS.lload X30.here hx rfl (hb hby at_29) rfl k) ?_
      show Ends p e below s T30 (mkF m 31 #[.val (.long q0), .second, .val (.int p1), .val (.int p2), .val (.int p3), .val (.long (q0 &&& (9223372036854775807 : Int64))), .second, .val (.int (1 : Int32)), .val (.ref w_PAIRS), .unset, .unset, .unset, .unset] [(.long (q0 &&& (9223372036854775807 : Int64))), (.ref w_PAIRS)]) _ _ _
      refine Ends.go (fun _ k => XS.iloadN X30.here hx rfl (hb hby at_31) rfl k) ?_
      show Ends p e below s T30 (mkF m 32 #[.val (.long q0), .second, .val (.int p1), .val (.int p2), .val (.int p3), .val (.long (q0 &&& (9223372036854775807 : Int64))), .second, .val (.int (1 : Int32)), .val (.ref w_PAIRS), .unset, .unset, .unset, .unset] [(.int p1), (.long (q0 &&& (9223372036854775807 : Int64))), (.ref w_PAIRS)]) _ _ _
      refine Ends.go (fun _ k => XS.iload X30.here hx rfl (hb hby at_32) rfl k) ?_
      show Ends p e below s T30 (mkF m 34 #[.val (.long q0), .second, .val (.int p1), .val (.int p2), .val (.int p3), .val (.long (q0 &&& (9223372036854775807 : Int64))), .second, .val (.int (1 : Int32)), .val (.ref w_PAIRS), .unset, .unset, .unset, .unset] [(.int (1 : Int32)), (.int p1), (.long (q0 &&& (9223372036854775807 : Int64))), (.ref w_PAIRS)]) _ _ _
      obtain ⟨cq31, kq31, q31a, q31b, q31c⟩ := isOf hZ e30q (E_PAIRS.ext O0.2)
      obtain ⟨_, _, ⟨T31, L31, k31, n31⟩, -, X31, ⟨Lc31, hQ31, l31, y31, z31⟩, st31⟩ := X30.virtualBack hx (y := (⟨"com/example/sindano/sindano/boyermoore/Stretches$FastForm", "budget", "(JIZ)J"⟩ : MethodName)) (z := (⟨"com/example/sindano/sindano/boyermoore/Stretches$FastForm", "budget", "(JIZ)J"⟩ : MethodName)) hown (mvT hZ (hw _ (List.mem_of_getElem? (i := 8) rfl))) (mvT hZ (hw _ (List.mem_of_getElem? (i := 9) rfl))) (notFace_of_selects (args := #[]) (mvT hZ (hw _ (List.mem_of_getElem? (i := 11) rfl)))) (mvT hZ (hw _ (List.mem_of_getElem? (i := 11) rfl))) (mvT hZ (hw _ (List.mem_of_getElem? (i := 10) rfl))) (by decide) (own_backOf (W := 0) (rmB l Z a0 hw [] n0 h0 O0 w_PAIRS (q0 &&& (9223372036854775807 : Int64)) p1 (1 : Int32) w_ENDS_THEN_CLASSIC w_PAIRS w_ENDS w_ENDS_THEN_EXACT FF0 ((q0 &&& (9223372036854775807 : Int64)) / (2 : Int64)) (by rw [if_pos rfl, if_neg (by decide)])) hZ (hw _ (List.mem_of_getElem? (i := 12) rfl)) (hw _ (List.mem_of_getElem? (i := 6) rfl)) (by decide) (by decide)) q31a q31c (g := (mkF m 34 #[.val (.long q0), .second, .val (.int p1), .val (.int p2), .val (.int p3), .val (.long (q0 &&& (9223372036854775807 : Int64))), .second, .val (.int (1 : Int32)), .val (.ref w_PAIRS), .unset, .unset, .unset, .unset] [(.int (1 : Int32)), (.int p1), (.long (q0 &&& (9223372036854775807 : Int64))), (.ref w_PAIRS)])) rfl (by rw [hml]; rfl) (Steps.refl _) (argsL := [(.long (q0 &&& (9223372036854775807 : Int64))), (.int p1), (.int (1 : Int32))]) (rest := []) (lenOf pd0_1 rfl) rfl (by show 2 * 0 + _ ≤ _; exact Nat.le_of_eq rfl) (hb hby at_34) (fun _ _ => ⟨rfl, e30q, (by decide : 0 + 0 ≤ _), (by decide : 0 + 0 ≤ _)⟩)
      dsimp only [Pt.U, Pt.locs, Pt.cells, Pt.slots] at X31 l31 y31 z31 st31 hQ31
      subst l31 y31 z31
      obtain ⟨rfl, N31q, e31q⟩ := hQ31
      have N31 := Fr.app N30 N31q
      refine Ends.go (fun _ k => st31.trans k) ?_
      show Ends p e below s T31 (mkF m 37 #[.val (.long q0), .second, .val (.int p1), .val (.int p2), .val (.int p3), .val (.long (q0 &&& (9223372036854775807 : Int64))), .second, .val (.int (1 : Int32)), .val (.ref w_PAIRS), .unset, .unset, .unset, .unset] [(.long ((q0 &&& (9223372036854775807 : Int64)) / (2 : Int64)))]) _ _ _
      refine Ends.go (fun _ k => XS.lstore X31.here hx rfl (hb hby at_37) rfl (l' := #[.val (.long q0), .second, .val (.int p1), .val (.int p2), .val (.int p3), .val (.long (q0 &&& (9223372036854775807 : Int64))), .second, .val (.int (1 : Int32)), .val (.ref w_PAIRS), .val (.long ((q0 &&& (9223372036854775807 : Int64)) / (2 : Int64))), .second, .unset, .unset]) rfl k) ?_
      show Ends p e below s T31 (mkF m 39 #[.val (.long q0), .second, .val (.int p1), .val (.int p2), .val (.int p3), .val (.long (q0 &&& (9223372036854775807 : Int64))), .second, .val (.int (1 : Int32)), .val (.ref w_PAIRS), .val (.long ((q0 &&& (9223372036854775807 : Int64)) / (2 : Int64))), .second, .unset, .unset] []) _ _ _
      refine Ends.go (fun _ k => XS.aload X31.here hx rfl (hb hby at_39) rfl rfl k) ?_
      show Ends p e below s T31 (mkF m 41 #[.val (.long q0), .second, .val (.int p1), .val (.int p2), .val (.int p3), .val (.long (q0 &&& (9223372036854775807 : Int64))), .second, .val (.int (1 : Int32)), .val (.ref w_PAIRS), .val (.long ((q0 &&& (9223372036854775807 : Int64)) / (2 : Int64))), .second, .unset, .unset] [(.ref w_PAIRS)]) _ _ _
      obtain ⟨T32, X32, e32, st32⟩ := getS2 X31 hx hZ hown (host := "") (Or.inl (hw _ (List.mem_of_getElem? (i := 18) rfl))) Via.refl e31q (S_PAIRS.ext O0.2) (g := (mkF m 41 #[.val (.long q0), .second, .val (.int p1), .val (.int p2), .val (.int p3), .val (.long (q0 &&& (9223372036854775807 : Int64))), .second, .val (.int (1 : Int32)), .val (.ref w_PAIRS), .val (.long ((q0 &&& (9223372036854775807 : Int64)) / (2 : Int64))), .second, .unset, .unset] [(.ref w_PAIRS)])) rfl (hb hby at_41)
      refine Ends.go st32 ?_
      show Ends p e below s T32 (mkF m 44 #[.val (.long q0), .second, .val (.int p1), .val (.int p2), .val (.int p3), .val (.long (q0 &&& (9223372036854775807 : Int64))), .second, .val (.int (1 : Int32)), .val (.ref w_PAIRS), .val (.long ((q0 &&& (9223372036854775807 : Int64)) / (2 : Int64))), .second, .unset, .unset] [(.ref w_PAIRS), (.ref w_PAIRS)]) _ _ _
      refine Ends.go (fun _ k => Jvm.RoadKit.acmp (g := (mkF m 44 #[.val (.long q0), .second, .val (.int p1), .val (.int p2), .val (.int p3), .val (.long (q0 &&& (9223372036854775807 : Int64))), .second, .val (.int (1 : Int32)), .val (.ref w_PAIRS), .val (.long ((q0 &&& (9223372036854775807 : Int64)) / (2 : Int64))), .second, .unset, .unset] [(.ref w_PAIRS), (.ref w_PAIRS)])) X32 hx rfl rfl rfl (pc0 := 44) (pc' := 47) (same := true) rfl (hb hby at_44) rfl (decide_eq_true rfl) (by decide) (by decide) k) ?_
      show Ends p e below s T32 (mkF m 47 #[.val (.long q0), .second, .val (.int p1), .val (.int p2), .val (.int p3), .val (.long (q0 &&& (9223372036854775807 : Int64))), .second, .val (.int (1 : Int32)), .val (.ref w_PAIRS), .val (.long ((q0 &&& (9223372036854775807 : Int64)) / (2 : Int64))), .second, .unset, .unset] []) _ _ _
      refine Ends.go (fun _ k => XS.iload X32.here hx rfl (hb hby at_47) rfl k) ?_
      show Ends p e below s T32 (mkF m 49 #[.val (.long q0), .second, .val (.int p1), .val (.int p2), .val (.int p3), .val (.long (q0 &&& (9223372036854775807 : Int64))), .second, .val (.int (1 : Int32)), .val (.ref w_PAIRS), .val (.long ((q0 &&& (9223372036854775807 : Int64)) / (2 : Int64))), .second, .unset, .unset] [(.int (1 : Int32))]) _ _ _
      refine Ends.go (fun _ k => XS.ifNo X32.here hx rfl (hb hby at_49) rfl ((if0 _ _).trans (feq (by decide : ¬ ((1 : Int32) = (0 : Int32)))).1) k) ?_
      show Ends p e below s T32 (mkF m 52 #[.val (.long q0), .second, .val (.int p1), .val (.int p2), .val (.int p3), .val (.long (q0 &&& (9223372036854775807 : Int64))), .second, .val (.int (1 : Int32)), .val (.ref w_PAIRS), .val (.long ((q0 &&& (9223372036854775807 : Int64)) / (2 : Int64))), .second, .unset, .unset] []) _ _ _
      refine Ends.go (fun _ k => XS.lload X32.here hx rfl (hb hby at_52) rfl k) ?_
      show Ends p e below s T32 (mkF m 54 #[.val (.long q0), .second, .val (.int p1), .val (.int p2), .val (.int p3), .val (.long (q0 &&& (9223372036854775807 : Int64))), .second, .val (.int (1 : Int32)), .val (.ref w_PAIRS), .val (.long ((q0 &&& (9223372036854775807 : Int64)) / (2 : Int64))), .second, .unset, .unset] [(.long ((q0 &&& (9223372036854775807 : Int64)) / (2 : Int64)))]) _ _ _
      refine Ends.go (fun _ k => XS.lconst X32.here hx rfl (hb hby at_54) k) ?_
      show Ends p e below s T32 (mkF m 55 #[.val (.long q0), .second, .val (.int p1), .val (.int p2), .val (.int p3), .val (.long (q0 &&& (9223372036854775807 : Int64))), .second, .val (.int (1 : Int32)), .val (.ref w_PAIRS), .val (.long ((q0 &&& (9223372036854775807 : Int64)) / (2 : Int64))), .second, .unset, .unset] [(.long (0 : Int64)), (.long ((q0 &&& (9223372036854775807 : Int64)) / (2 : Int64)))]) _ _ _
      refine Ends.go (fun _ k => XS.lcmp X32.here hx rfl (hb hby at_55) rfl k) ?_
      show Ends p e below s T32 (mkF m 56 #[.val (.long q0), .second, .val (.int p1), .val (.int p2), .val (.int p3), .val (.long (q0 &&& (9223372036854775807 : Int64))), .second, .val (.int (1 : Int32)), .val (.ref w_PAIRS), .val (.long ((q0 &&& (9223372036854775807 : Int64)) / (2 : Int64))), .second, .unset, .unset] [(.int (lcmpW ((q0 &&& (9223372036854775807 : Int64)) / (2 : Int64)) (0 : Int64)))]) _ _ _
      refine Ends.go (fun _ k => XS.ifYes X32.here hx rfl (pc0 := 56) (pc' := 61) rfl (hb hby at_56) rfl ((if0 _ _).trans (flt (own_b0 q0 : ¬ ((lcmpW ((q0 &&& (9223372036854775807 : Int64)) / (2 : Int64)) (0 : Int64)) < (0 : Int32)))).2.1) (by decide) (by decide) k) ?_
      show Ends p e below s T32 (mkF m 61 #[.val (.long q0), .second, .val (.int p1), .val (.int p2), .val (.int p3), .val (.long (q0 &&& (9223372036854775807 : Int64))), .second, .val (.int (1 : Int32)), .val (.ref w_PAIRS), .val (.long ((q0 &&& (9223372036854775807 : Int64)) / (2 : Int64))), .second, .unset, .unset] []) _ _ _
      refine Ends.go (fun _ k => XS.lload X32.here hx rfl (hb hby at_61) rfl k) ?_
      show Ends p e below s T32 (mkF m 63 #[.val (.long q0), .second, .val (.int p1), .val (.int p2), .val (.int p3), .val (.long (q0 &&& (9223372036854775807 : Int64))), .second, .val (.int (1 : Int32)), .val (.ref w_PAIRS), .val (.long ((q0 &&& (9223372036854775807 : Int64)) / (2 : Int64))), .second, .unset, .unset] [(.long (q0 &&& (9223372036854775807 : Int64)))]) _ _ _
      refine Ends.go (X32.ldc2Long hx hown (mvT hZ (hw _ (List.mem_of_getElem? (i := 22) rfl))) (g := (mkF m 63 #[.val (.long q0), .second, .val (.int p1), .val (.int p2), .val (.int p3), .val (.long (q0 &&& (9223372036854775807 : Int64))), .second, .val (.int (1 : Int32)), .val (.ref w_PAIRS), .val (.long ((q0 &&& (9223372036854775807 : Int64)) / (2 : Int64))), .second, .unset, .unset] [(.long (q0 &&& (9223372036854775807 : Int64)))])) rfl (hb hby at_63)) ?_
      show Ends p e below s T32 (mkF m 66 #[.val (.long q0), .second, .val (.int p1), .val (.int p2), .val (.int p3), .val (.long (q0 &&& (9223372036854775807 : Int64))), .second, .val (.int (1 : Int32)), .val (.ref w_PAIRS), .val (.long ((q0 &&& (9223372036854775807 : Int64)) / (2 : Int64))), .second, .unset, .unset] [(.long (2 : Int64)), (.long (q0 &&& (9223372036854775807 : Int64)))]) _ _ _
      refine Ends.go (fun _ k => XS.lload X32.here hx rfl (hb hby at_66) rfl k) ?_
      show Ends p e below s T32 (mkF m 68 #[.val (.long q0), .second, .val (.int p1), .val (.int p2), .val (.int p3), .val (.long (q0 &&& (9223372036854775807 : Int64))), .second, .val (.int (1 : Int32)), .val (.ref w_PAIRS), .val (.long ((q0 &&& (9223372036854775807 : Int64)) / (2 : Int64))), .second, .unset, .unset] [(.long ((q0 &&& (9223372036854775807 : Int64)) / (2 : Int64))), (.long (2 : Int64)), (.long (q0 &&& (9223372036854775807 : Int64)))]) _ _ _
      refine Ends.go (fun _ k => XS.lmul X32.here hx rfl (hb hby at_68) rfl k) ?_
      show Ends p e below s T32 (mkF m 69 #[.val (.long q0), .second, .val (.int p1), .val (.int p2), .val (.int p3), .val (.long (q0 &&& (9223372036854775807 : Int64))), .second, .val (.int (1 : Int32)), .val (.ref w_PAIRS), .val (.long ((q0 &&& (9223372036854775807 : Int64)) / (2 : Int64))), .second, .unset, .unset] [(.long ((2 : Int64) * ((q0 &&& (9223372036854775807 : Int64)) / (2 : Int64)))), (.long (q0 &&& (9223372036854775807 : Int64)))]) _ _ _
      refine Ends.go (fun _ k => XS.lsub X32.here hx rfl (hb hby at_69) rfl k) ?_
      show Ends p e below s T32 (mkF m 70 #[.val (.long q0), .second, .val (.int p1), .val (.int p2), .val (.int p3), .val (.long (q0 &&& (9223372036854775807 : Int64))), .second, .val (.int (1 : Int32)), .val (.ref w_PAIRS), .val (.long ((q0 &&& (9223372036854775807 : Int64)) / (2 : Int64))), .second, .unset, .unset] [(.long ((q0 &&& (9223372036854775807 : Int64)) - ((2 : Int64) * ((q0 &&& (9223372036854775807 : Int64)) / (2 : Int64)))))]) _ _ _
      refine Ends.go (fun _ k => XS.lstore X32.here hx rfl (hb hby at_70) rfl (l' := #[.val (.long q0), .second, .val (.int p1), .val (.int p2), .val (.int p3), .val (.long (q0 &&& (9223372036854775807 : Int64))), .second, .val (.int (1 : Int32)), .val (.ref w_PAIRS), .val (.long ((q0 &&& (9223372036854775807 : Int64)) / (2 : Int64))), .second, .val (.long ((q0 &&& (9223372036854775807 : Int64)) - ((2 : Int64) * ((q0 &&& (9223372036854775807 : Int64)) / (2 : Int64))))), .second]) rfl k) ?_
      show Ends p e below s T32 (mkF m 72 #[.val (.long q0), .second, .val (.int p1), .val (.int p2), .val (.int p3), .val (.long (q0 &&& (9223372036854775807 : Int64))), .second, .val (.int (1 : Int32)), .val (.ref w_PAIRS), .val (.long ((q0 &&& (9223372036854775807 : Int64)) / (2 : Int64))), .second, .val (.long ((q0 &&& (9223372036854775807 : Int64)) - ((2 : Int64) * ((q0 &&& (9223372036854775807 : Int64)) / (2 : Int64))))), .second] []) _ _ _
      refine Ends.go (fun _ k => XS.lload X32.here hx rfl (hb hby at_72) rfl k) ?_
      show Ends p e below s T32 (mkF m 74 #[.val (.long q0), .second, .val (.int p1), .val (.int p2), .val (.int p3), .val (.long (q0 &&& (9223372036854775807 : Int64))), .second, .val (.int (1 : Int32)), .val (.ref w_PAIRS), .val (.long ((q0 &&& (9223372036854775807 : Int64)) / (2 : Int64))), .second, .val (.long ((q0 &&& (9223372036854775807 : Int64)) - ((2 : Int64) * ((q0 &&& (9223372036854775807 : Int64)) / (2 : Int64))))), .second] [(.long ((q0 &&& (9223372036854775807 : Int64)) - ((2 : Int64) * ((q0 &&& (9223372036854775807 : Int64)) / (2 : Int64)))))]) _ _ _
      refine Ends.go (fun _ k => XS.lconst X32.here hx rfl (hb hby at_74) k) ?_
      show Ends p e below s T32 (mkF m 75 #[.val (.long q0), .second, .val (.int p1), .val (.int p2), .val (.int p3), .val (.long (q0 &&& (9223372036854775807 : Int64))), .second, .val (.int (1 : Int32)), .val (.ref w_PAIRS), .val (.long ((q0 &&& (9223372036854775807 : Int64)) / (2 : Int64))), .second, .val (.long ((q0 &&& (9223372036854775807 : Int64)) - ((2 : Int64) * ((q0 &&& (9223372036854775807 : Int64)) / (2 : Int64))))), .second] [(.long (0 : Int64)), (.long ((q0 &&& (9223372036854775807 : Int64)) - ((2 : Int64) * ((q0 &&& (9223372036854775807 : Int64)) / (2 : Int64)))))]) _ _ _
      refine Ends.go (fun _ k => XS.lcmp X32.here hx rfl (hb hby at_75) rfl k) ?_
      show Ends p e below s T32 (mkF m 76 #[.val (.long q0), .second, .val (.int p1), .val (.int p2), .val (.int p3), .val (.long (q0 &&& (9223372036854775807 : Int64))), .second, .val (.int (1 : Int32)), .val (.ref w_PAIRS), .val (.long ((q0 &&& (9223372036854775807 : Int64)) / (2 : Int64))), .second, .val (.long ((q0 &&& (9223372036854775807 : Int64)) - ((2 : Int64) * ((q0 &&& (9223372036854775807 : Int64)) / (2 : Int64))))), .second] [(.int (lcmpW ((q0 &&& (9223372036854775807 : Int64)) - ((2 : Int64) * ((q0 &&& (9223372036854775807 : Int64)) / (2 : Int64)))) (0 : Int64)))]) _ _ _
      refine Ends.go (fun _ k => XS.ifNo X32.here hx rfl (hb hby at_76) rfl ((if0 _ _).trans (flt (own_r0 q0 : ¬ ((lcmpW ((q0 &&& (9223372036854775807 : Int64)) - ((2 : Int64) * ((q0 &&& (9223372036854775807 : Int64)) / (2 : Int64)))) (0 : Int64)) < (0 : Int32)))).1) k) ?_
      show Ends p e below s T32 (mkF m 79 #[.val (.long q0), .second, .val (.int p1), .val (.int p2), .val (.int p3), .val (.long (q0 &&& (9223372036854775807 : Int64))), .second, .val (.int (1 : Int32)), .val (.ref w_PAIRS), .val (.long ((q0 &&& (9223372036854775807 : Int64)) / (2 : Int64))), .second, .val (.long ((q0 &&& (9223372036854775807 : Int64)) - ((2 : Int64) * ((q0 &&& (9223372036854775807 : Int64)) / (2 : Int64))))), .second] []) _ _ _
      refine Ends.go (fun _ k => XS.lload X32.here hx rfl (hb hby at_79) rfl k) ?_
      show Ends p e below s T32 (mkF m 81 #[.val (.long q0), .second, .val (.int p1), .val (.int p2), .val (.int p3), .val (.long (q0 &&& (9223372036854775807 : Int64))), .second, .val (.int (1 : Int32)), .val (.ref w_PAIRS), .val (.long ((q0 &&& (9223372036854775807 : Int64)) / (2 : Int64))), .second, .val (.long ((q0 &&& (9223372036854775807 : Int64)) - ((2 : Int64) * ((q0 &&& (9223372036854775807 : Int64)) / (2 : Int64))))), .second] [(.long ((q0 &&& (9223372036854775807 : Int64)) - ((2 : Int64) * ((q0 &&& (9223372036854775807 : Int64)) / (2 : Int64)))))]) _ _ _
      refine Ends.go (fun _ k => XS.lconst X32.here hx rfl (hb hby at_81) k) ?_
      show Ends p e below s T32 (mkF m 82 #[.val (.long q0), .second, .val (.int p1), .val (.int p2), .val (.int p3), .val (.long (q0 &&& (9223372036854775807 : Int64))), .second, .val (.int (1 : Int32)), .val (.ref w_PAIRS), .val (.long ((q0 &&& (9223372036854775807 : Int64)) / (2 : Int64))), .second, .val (.long ((q0 &&& (9223372036854775807 : Int64)) - ((2 : Int64) * ((q0 &&& (9223372036854775807 : Int64)) / (2 : Int64))))), .second] [(.long (1 : Int64)), (.long ((q0 &&& (9223372036854775807 : Int64)) - ((2 : Int64) * ((q0 &&& (9223372036854775807 : Int64)) / (2 : Int64)))))]) _ _ _
      refine Ends.go (fun _ k => XS.lcmp X32.here hx rfl (hb hby at_82) rfl k) ?_
      show Ends p e below s T32 (mkF m 83 #[.val (.long q0), .second, .val (.int p1), .val (.int p2), .val (.int p3), .val (.long (q0 &&& (9223372036854775807 : Int64))), .second, .val (.int (1 : Int32)), .val (.ref w_PAIRS), .val (.long ((q0 &&& (9223372036854775807 : Int64)) / (2 : Int64))), .second, .val (.long ((q0 &&& (9223372036854775807 : Int64)) - ((2 : Int64) * ((q0 &&& (9223372036854775807 : Int64)) / (2 : Int64))))), .second] [(.int (lcmpW ((q0 &&& (9223372036854775807 : Int64)) - ((2 : Int64) * ((q0 &&& (9223372036854775807 : Int64)) / (2 : Int64)))) (1 : Int64)))]) _ _ _
      refine Ends.go (fun _ k => XS.ifNo X32.here hx rfl (hb hby at_83) rfl ((if0 _ _).trans (flt (own_r1 q0 : ¬ ((0 : Int32) < (lcmpW ((q0 &&& (9223372036854775807 : Int64)) - ((2 : Int64) * ((q0 &&& (9223372036854775807 : Int64)) / (2 : Int64)))) (1 : Int64))))).2.2.1) k) ?_
      show Ends p e below s T32 (mkF m 86 #[.val (.long q0), .second, .val (.int p1), .val (.int p2), .val (.int p3), .val (.long (q0 &&& (9223372036854775807 : Int64))), .second, .val (.int (1 : Int32)), .val (.ref w_PAIRS), .val (.long ((q0 &&& (9223372036854775807 : Int64)) / (2 : Int64))), .second, .val (.long ((q0 &&& (9223372036854775807 : Int64)) - ((2 : Int64) * ((q0 &&& (9223372036854775807 : Int64)) / (2 : Int64))))), .second] []) _ _ _
      refine Ends.go (fun _ k => XS.iconst X32.here hx rfl (hb hby at_86) k) ?_
      show Ends p e below s T32 (mkF m 87 #[.val (.long q0), .second, .val (.int p1), .val (.int p2), .val (.int p3), .val (.long (q0 &&& (9223372036854775807 : Int64))), .second, .val (.int (1 : Int32)), .val (.ref w_PAIRS), .val (.long ((q0 &&& (9223372036854775807 : Int64)) / (2 : Int64))), .second, .val (.long ((q0 &&& (9223372036854775807 : Int64)) - ((2 : Int64) * ((q0 &&& (9223372036854775807 : Int64)) / (2 : Int64))))), .second] [(.int (1 : Int32))]) _ _ _
      refine Ends.go (fun _ k => XS.goto X32.here hx rfl (pc0 := 87) (pc' := 91) rfl (hb hby at_87) (by decide) (by decide) k) ?_
      show Ends p e below s T32 (mkF m 91 #[.val (.long q0), .second, .val (.int p1), .val (.int p2), .val (.int p3), .val (.long (q0 &&& (9223372036854775807 : Int64))), .second, .val (.int (1 : Int32)), .val (.ref w_PAIRS), .val (.long ((q0 &&& (9223372036854775807 : Int64)) / (2 : Int64))), .second, .val (.long ((q0 &&& (9223372036854775807 : Int64)) - ((2 : Int64) * ((q0 &&& (9223372036854775807 : Int64)) / (2 : Int64))))), .second] [(.int (1 : Int32))]) _ _ _
      refine Ends.retZ X32 hx Bd.notSynchronized (t := .boolean) Bd.returns (by simp) (hb hby at_91) (by decide) (by decide) ?_
      exact ⟨rfl, N31⟩
set_option maxRecDepth 65536 in
set_option maxHeartbeats 40000000 in
theorem comes_1 {Post : Tables → Env → Array Value → State → Outcome → State → Prop} (hpost : ∀ tb e args s v u, (limb_1_1.after args s (.returned v) u = true ∧ limb_1_2.after args s (.returned v) u = true ∧ True) → FrameEnd s (.returned v) u (Jvm.fieldLocs frame_1_writes args s ++ Jvm.arrayLocs frame_1_arrays args s ++ Jvm.staticLocs frame_1_statics s) 0 0 → Post tb e args s (.returned v) u) :
    ArmFor flags0 classFile x code maxLocals ret World_1 tables_1 room_1 Calls_1 rest_1 Pre_1 Post := by
  intro l hfl _ _ p e ha hc hk s m args below hf hA hF happ hP
  obtain ⟨hcalls, hrest, hpre⟩ := hP
  obtain ⟨-, -, -, hnamed, -, -, -, hat⟩ := (Spec.applies_iff hf).mp happ
  obtain ⟨hg, hn⟩ := and_e (Cond.before_iff.mp (show (Jvm.Cond.and given_1 narrow_1).before args s = true from hpre))
  obtain ⟨g0a, g0b⟩ := and_e hg
  obtain ⟨g1a, g1b⟩ := and_e g0b
  obtain ⟨g2a, g2b⟩ := and_e g1b
  obtain ⟨g3a, g3b⟩ := and_e g2b
  obtain ⟨w0, w1, w2, w3, rfl⟩ : ∃ w0 w1 w2 w3 : Value, args = #[w0, w1, w2, w3] := by
    have hs : args.size = 4 := by simpa [Cond.value, given_1] using g0a
    obtain ⟨L⟩ := args
    match L, hs with
    | [w0, w1, w2, w3], _ => exact ⟨w0, w1, w2, w3, rfl⟩
  have hw := fun d (hd : d ∈ tables_1) => atoms_spec (ws := Jvm.Cond.code x code maxLocals ret :: tables_1) hat d (List.mem_cons_of_mem _ hd)
  have hfit : Fit s := fun {y c} hc i hi => by
    obtain ⟨ha, rfl⟩ := Array.getElem?_eq_some_iff.mp hc
    have q := List.all_eq_true.mp ((Array.all_eq_true_iff_forall_mem.mp hF) _ (Array.getElem_mem ha)) i (List.mem_range.mpr hi)
    simpa [Array.getElem?_eq_getElem hi] using q
  obtain ⟨i0, ei0⟩ := isL_v g1a
  obtain rfl : w0 = (.long i0) := Option.some.inj ei0
  obtain ⟨i1, ei1⟩ := is_v g2a
  obtain rfl : w1 = (.int i1) := Option.some.inj ei1
  obtain ⟨i2, ei2⟩ := is_v g3a
  obtain rfl : w2 = (.int i2) := Option.some.inj ei2
  obtain ⟨i3, ei3⟩ := is_v g3b
  obtain rfl : w3 = (.int i3) := Option.some.inj ei3
  obtain ⟨n0a, n0b⟩ := and_e hn
  obtain ⟨w_ENDS_THEN_CLASSIC, ev_ENDS_THEN_CLASSIC⟩ := exa_v n0a
  obtain ⟨n1a, n1b⟩ := and_e n0b
  obtain ⟨w_PAIRS, ev_PAIRS⟩ := exa_v n1a
  obtain ⟨n2a, n2b⟩ := and_e n1b
  obtain ⟨n3a, n3b⟩ := and_e n2b
  obtain ⟨n4a, n4b⟩ := and_e n3b
  obtain ⟨w_ENDS, ev_ENDS⟩ := exa_v n4a
  obtain ⟨n5a, n5b⟩ := and_e n4b
  obtain ⟨n6a, n6b⟩ := and_e n5b
  obtain ⟨w_ENDS_THEN_EXACT, ev_ENDS_THEN_EXACT⟩ := exa_v n6a
  obtain ⟨n, o, h1, h2, h3, _, L, rfl, ⟨rfl, N⟩, hq⟩ := rm0 l s _ hw tables_1 s.heap.size s.heap (Old.start s) i0 i1 i2 i3 w_ENDS_THEN_CLASSIC w_PAIRS w_ENDS w_ENDS_THEN_EXACT ⟨Sta.start ev_ENDS_THEN_CLASSIC (Or.inr ⟨(hw _ (List.mem_of_getElem? (i := 6) rfl)), (hw _ (List.mem_of_getElem? (i := 7) rfl))⟩), Exa.start ev_ENDS_THEN_CLASSIC n0a, Sta.start ev_PAIRS (Or.inr ⟨(hw _ (List.mem_of_getElem? (i := 6) rfl)), (hw _ (List.mem_of_getElem? (i := 14) rfl))⟩), Exa.start ev_PAIRS n1a, Fld.start ((fld_at ev_ENDS_THEN_CLASSIC).symm.trans (own_eqI n2a)), Fld.start ((fld_at ev_PAIRS).symm.trans (own_eqI n3a)), Sta.start ev_ENDS (Or.inr ⟨(hw _ (List.mem_of_getElem? (i := 6) rfl)), (hw _ (List.mem_of_getElem? (i := 16) rfl))⟩), Exa.start ev_ENDS n4a, Fld.start ((fld_at ev_ENDS).symm.trans (own_eqI n5a)), Sta.start ev_ENDS_THEN_EXACT (Or.inr ⟨(hw _ (List.mem_of_getElem? (i := 6) rfl)), (hw _ (List.mem_of_getElem? (i := 24) rfl))⟩), Exa.start ev_ENDS_THEN_EXACT n6a, Fld.start ((fld_at ev_ENDS_THEN_EXACT).symm.trans (own_eqI n6b))⟩ p e ha hc hk s m _ below hf ((Spec.applies_iff_loose hf).mp happ).1 ⟨rfl, State.Warmed39.refl s, rfl⟩ trivial
  refine ⟨n, _, h1, h2, h3, hpost _ _ _ _ _ _ ⟨Cond.after_iff.mpr rfl, Cond.after_iff.mpr (eq_i res_at (Term.int_eval (1)) rfl), trivial⟩ ⟨hq.1, hq.2.1, (hq.2.2.sift fun y hy => Or.inr (N y hy)).mono (by decide) (by decide)⟩⟩
theorem main_1_1 : Claimed_1_1 := comes_1 fun _ _ _ _ _ _ h hF => ⟨h.1, hF⟩
theorem main_1_2 : Claimed_1_2 := comes_1 fun _ _ _ _ _ _ h hF => ⟨h.2.1, hF⟩
end Jvm.Pilot.@@N@@
namespace Jvm.Pilot.@@N@@
open Jvm Jvm.ClassFile Sem Op Lib Jvm.Free Jvm.Stand Jvm.Pilot.@@N@@.Jvm.D
/-! MADE BY PROGRAM (witnessworld.py) out of the Statement's table words and the real class files: 12 classes; the members and pool entries that the words name. The judged class is class 1, her method 2. -/
namespace start1
open Jvm.ClassFile
def u (s : String) : CpInfo := .utf8 (stringToUtf16 s)
/-- a pool by its gaps: so many unusable entries, then the entry; so many at the end -/
def gap : Nat → List CpInfo → List CpInfo
  | 0, r => r
  | n + 1, r => .unusable :: gap n r
def poolList (es : List (Nat × CpInfo)) (last : Nat) : List CpInfo := es.foldr (fun e r => gap e.1 (e.2 :: r)) (gap last [])
def pool (es : List (Nat × CpInfo)) (last : Nat) : Array CpInfo := ⟨poolList es last⟩
def fileOf (pool : Array CpInfo) (this : Nat) (attrs : Array Attribute := #[]) (ms : Array MethodInfo := #[]) (fl : Nat := 33) (sup : Nat := 0) (ifs : Array Nat := #[]) (fds : Array FieldInfo := #[]) : ClassFile where
  minorVersion := 0
  majorVersion := 65
  constantPool := pool
  accessFlags := fl
  thisClass := this
  superClass := sup
  interfaces := ifs
  fields := fds
  methods := ms
  attributes := attrs
def plain (name : String) (sup : Option ClassId) : Class where
  name := name
  kind := .ordinary
  loader := none
  accessFlags := 33
  super := sup
  interfaces := #[]
  cf := none
  fields := #[]
  methods := #[]
  instanceTypes := #[]
  staticTypes := #[]
  resolved := #[]
  callSites := []
  init := .initialized
  statics := none
  mirror := none

def pool0 : Array CpInfo := pool [(5, u "<init>"), (0, u "()V"), (1, .class_ 10), (1, u "java/lang/Object")] 113

def k0m0 : Method := { name := "<init>", desc := "()V", sig := { parameters := [], returnType := none }, accessFlags := 1, code := none }
/-- java/lang/Object -/
def k0 : Class := { plain "java/lang/Object" none with
  accessFlags := 33
  interfaces := #[]
  cf := some (fileOf pool0 8 #[] #[{ accessFlags := 1, nameIndex := 5, descriptorIndex := 6, attributes := #[] }] 33 0 #[] #[])
  fields := #[]
  methods := #[k0m0]
  instanceTypes := #[]
  staticTypes := #[]
  resolved := Array.replicate 124 none
  statics := none }

def pool1 : Array CpInfo := pool [(2, .class_ 4), (1, u "java/lang/Object"), (0, u "<init>"), (0, u "()V"), (0, .fieldref 8 9), (0, .class_ 10), (0, .nameAndType 11 12), (0, u "com/example/sindano/sindano/boyermoore/Stretches$FastForm"), (0, u "ENDS"), (0, u "Lcom/example/sindano/sindano/boyermoore/Stretches$FastForm;"), (0, .fieldref 8 14), (0, .nameAndType 15 12), (0, u "ENDS_THEN_CLASSIC"), (0, .fieldref 8 17), (0, .nameAndType 18 12), (0, u "ENDS_THEN_EXACT"), (0, .fieldref 8 20), (0, .nameAndType 21 12), (0, u "PAIRS"), (2, .long 9223372036854775807), (1, .methodref 27 28), (0, .class_ 29), (0, .nameAndType 30 31), (0, u "com/example/sindano/sindano/boyermoore/FastFormBudgetPinLaw"), (0, u "pick"), (0, u "(I)Lcom/example/sindano/sindano/boyermoore/Stretches$FastForm;"), (0, .methodref 8 33), (0, .nameAndType 34 35), (0, u "budget"), (0, u "(JIZ)J"), (0, .long 2), (1, .long 18446744073709551612), (4, u "law"), (0, u "(JIII)Z")] 6

def k1m0 : Method := { name := "<init>", desc := "()V", sig := { parameters := [], returnType := none }, accessFlags := 2, code := none }
def k1c1 : Code := { maxStack := 2, maxLocals := 2, code := method_2_code, exceptionTable := #[], attributes := #[] }
def k1m1 : Method := { name := "pick", desc := "(I)Lcom/example/sindano/sindano/boyermoore/Stretches$FastForm;", sig := { parameters := [.int], returnType := some (.object "com/example/sindano/sindano/boyermoore/Stretches$FastForm") }, accessFlags := 10, code := some k1c1 }
def k1c2 : Code := { maxStack := 6, maxLocals := 13, code := code, exceptionTable := #[], attributes := #[] }
def k1m2 : Method := { name := "law", desc := "(JIII)Z", sig := { parameters := [.long, .int, .int, .int], returnType := some .boolean }, accessFlags := 9, code := some k1c2 }
/-- com/example/sindano/sindano/boyermoore/FastFormBudgetPinLaw -/
def k1 : Class := { plain "com/example/sindano/sindano/boyermoore/FastFormBudgetPinLaw" (some 0) with
  accessFlags := 49
  interfaces := #[]
  cf := some (fileOf pool1 27 #[] #[{ accessFlags := 2, nameIndex := 5, descriptorIndex := 6, attributes := #[] }, { accessFlags := 10, nameIndex := 30, descriptorIndex := 31, attributes := #[] }, { accessFlags := 9, nameIndex := 43, descriptorIndex := 44, attributes := #[] }] 49 2 #[] #[])
  fields := #[]
  methods := #[k1m0, k1m1, k1m2]
  instanceTypes := #[]
  staticTypes := #[]
  resolved := Array.replicate 51 none
  statics := none }

def pool2 : Array CpInfo := pool [(1, .class_ 2), (0, u "java/lang/constant/Constable"), (0, .class_ 4), (0, u "java/lang/Object")] 6

/-- java/lang/constant/Constable -/
def k2 : Class := { plain "java/lang/constant/Constable" (some 0) with
  accessFlags := 1537
  interfaces := #[]
  cf := some (fileOf pool2 1 #[] #[] 1537 3 #[] #[])
  fields := #[]
  methods := #[]
  instanceTypes := #[]
  staticTypes := #[]
  resolved := Array.replicate 11 none
  statics := none }

def pool3 : Array CpInfo := pool [(1, .class_ 2), (0, u "java/lang/Comparable"), (0, .class_ 4), (0, u "java/lang/Object")] 7

/-- java/lang/Comparable -/
def k3 : Class := { plain "java/lang/Comparable" (some 0) with
  accessFlags := 1537
  interfaces := #[]
  cf := some (fileOf pool3 1 #[] #[] 1537 3 #[] #[])
  fields := #[]
  methods := #[]
  instanceTypes := #[]
  staticTypes := #[]
  resolved := Array.replicate 12 none
  statics := none }

def pool4 : Array CpInfo := pool [(1, .class_ 2), (0, u "java/io/Serializable"), (0, .class_ 4), (0, u "java/lang/Object")] 2

/-- java/io/Serializable -/
def k4 : Class := { plain "java/io/Serializable" (some 0) with
  accessFlags := 1537
  interfaces := #[]
  cf := some (fileOf pool4 1 #[] #[] 1537 3 #[] #[])
  fields := #[]
  methods := #[]
  instanceTypes := #[]
  staticTypes := #[]
  resolved := Array.replicate 7 none
  statics := none }

def pool5 : Array CpInfo := pool [(2, .class_ 4), (1, u "java/lang/Enum"), (0, u "name"), (0, u "Ljava/lang/String;"), (2, u "ordinal"), (0, u "I"), (1, .class_ 14), (1, u "java/lang/Object"), (4, u "hash"), (86, .class_ 108), (1, u "java/lang/Enum$EnumDesc"), (2, .class_ 112), (0, u "java/lang/constant/Constable"), (0, .class_ 114), (0, u "java/lang/Comparable"), (0, .class_ 116), (0, u "java/io/Serializable")] 87

/-- java/lang/Enum -/
def k5 : Class := { plain "java/lang/Enum" (some 0) with
  accessFlags := 1057
  interfaces := #[2, 3, 4]
  cf := some (fileOf pool5 2 #[.nestMembers #[106]] #[] 1057 12 #[111, 113, 115] #[{ accessFlags := 18, nameIndex := 5, descriptorIndex := 6, attributes := #[] }, { accessFlags := 18, nameIndex := 9, descriptorIndex := 10, attributes := #[] }, { accessFlags := 2, nameIndex := 19, descriptorIndex := 10, attributes := #[] }])
  fields := #[{ name := "name", type := (.object "java/lang/String"), accessFlags := 18, slot := 0, constantValue := 0 }, { name := "ordinal", type := .int, accessFlags := 18, slot := 1, constantValue := 0 }, { name := "hash", type := .int, accessFlags := 2, slot := 2, constantValue := 0 }]
  methods := #[]
  instanceTypes := #[(.object "java/lang/String"), .int, .int]
  staticTypes := #[]
  resolved := Array.replicate 204 none
  statics := none }

def pool6 : Array CpInfo := pool [(1, .class_ 2), (0, u "com/example/sindano/sindano/boyermoore/Stretches"), (0, .class_ 4), (0, u "com/example/sindano/sindano/boyermoore/Stretches$FastForm"), (0, .fieldref 3 6), (0, .nameAndType 7 8), (0, u "ENDS"), (0, u "Lcom/example/sindano/sindano/boyermoore/Stretches$FastForm;"), (2, u "ENDS_THEN_CLASSIC"), (2, u "ENDS_THEN_EXACT"), (0, .fieldref 3 16), (0, .nameAndType 17 8), (0, u "PAIRS"), (2, u "$VALUES"), (0, u "[Lcom/example/sindano/sindano/boyermoore/Stretches$FastForm;"), (6, .class_ 30), (1, u "java/lang/Enum"), (8, u "ceilingHalves"), (0, u "I"), (2, u "turnsExact"), (0, u "Z"), (2, u "byEnds"), (0, .long 2), (1, .long 18446744073709551612), (22, u "budget"), (0, u "(JIZ)J")] 11

def k6c0 : Code := { maxStack := 4, maxLocals := 7, code := prog_49_method_7_code, exceptionTable := #[], attributes := #[] }
def k6m0 : Method := { name := "budget", desc := "(JIZ)J", sig := { parameters := [.long, .int, .boolean], returnType := some .long }, accessFlags := 0, code := some k6c0 }
/-- com/example/sindano/sindano/boyermoore/Stretches$FastForm -/
def k6 : Class := { plain "com/example/sindano/sindano/boyermoore/Stretches$FastForm" (some 5) with
  accessFlags := 16432
  interfaces := #[]
  cf := some (fileOf pool6 3 #[.nestHost 1] #[{ accessFlags := 0, nameIndex := 73, descriptorIndex := 74, attributes := #[] }] 16432 28 #[] #[{ accessFlags := 16409, nameIndex := 7, descriptorIndex := 8, attributes := #[] }, { accessFlags := 16409, nameIndex := 11, descriptorIndex := 8, attributes := #[] }, { accessFlags := 16409, nameIndex := 14, descriptorIndex := 8, attributes := #[] }, { accessFlags := 16409, nameIndex := 17, descriptorIndex := 8, attributes := #[] }, { accessFlags := 18, nameIndex := 39, descriptorIndex := 40, attributes := #[] }, { accessFlags := 18, nameIndex := 43, descriptorIndex := 44, attributes := #[] }, { accessFlags := 18, nameIndex := 47, descriptorIndex := 44, attributes := #[] }, { accessFlags := 4122, nameIndex := 20, descriptorIndex := 21, attributes := #[] }])
  fields := #[{ name := "ENDS", type := (.object "com/example/sindano/sindano/boyermoore/Stretches$FastForm"), accessFlags := 16409, slot := 0, constantValue := 0 }, { name := "ENDS_THEN_CLASSIC", type := (.object "com/example/sindano/sindano/boyermoore/Stretches$FastForm"), accessFlags := 16409, slot := 1, constantValue := 0 }, { name := "ENDS_THEN_EXACT", type := (.object "com/example/sindano/sindano/boyermoore/Stretches$FastForm"), accessFlags := 16409, slot := 2, constantValue := 0 }, { name := "PAIRS", type := (.object "com/example/sindano/sindano/boyermoore/Stretches$FastForm"), accessFlags := 16409, slot := 3, constantValue := 0 }, { name := "ceilingHalves", type := .int, accessFlags := 18, slot := 3, constantValue := 0 }, { name := "turnsExact", type := .boolean, accessFlags := 18, slot := 4, constantValue := 0 }, { name := "byEnds", type := .boolean, accessFlags := 18, slot := 5, constantValue := 0 }, { name := "$VALUES", type := (.array (.object "com/example/sindano/sindano/boyermoore/Stretches$FastForm")), accessFlags := 4122, slot := 4, constantValue := 0 }]
  methods := #[k6m0]
  instanceTypes := #[(.object "java/lang/String"), .int, .int, .int, .boolean, .boolean]
  staticTypes := #[(.object "com/example/sindano/sindano/boyermoore/Stretches$FastForm"), (.object "com/example/sindano/sindano/boyermoore/Stretches$FastForm"), (.object "com/example/sindano/sindano/boyermoore/Stretches$FastForm"), (.object "com/example/sindano/sindano/boyermoore/Stretches$FastForm"), (.array (.object "com/example/sindano/sindano/boyermoore/Stretches$FastForm"))]
  resolved := Array.replicate 86 none
  statics := some 0 }

def pool7 : Array CpInfo := pool [(1, u "java/lang/Cloneable"), (0, .class_ 1), (0, u "java/lang/Object"), (0, .class_ 3)] 3

/-- java/lang/Cloneable -/
def k7 : Class := { plain "java/lang/Cloneable" (some 0) with
  accessFlags := 1537
  interfaces := #[]
  cf := some (fileOf pool7 2 #[] #[] 1537 4 #[] #[])
  fields := #[]
  methods := #[]
  instanceTypes := #[]
  staticTypes := #[]
  resolved := Array.replicate 8 none
  statics := none }

/-- the primitive byte -/
def k8 : Class := { plain "byte" none with kind := .primitive 'B', accessFlags := 0x411 }
/-- [B -/
def k9 : Class := { plain "[B" (some 0) with kind := .array 8 .byte, interfaces := #[7, 4], accessFlags := 1041 }

/-- the primitive int -/
def k10 : Class := { plain "int" none with kind := .primitive 'I', accessFlags := 0x411 }
/-- [I -/
def k11 : Class := { plain "[I" (some 0) with kind := .array 10 .int, interfaces := #[7, 4], accessFlags := 1041 }

def heap : Heap := #[{ cls := 6, slots := #[.ref 3, .ref 1, .ref 4, .ref 2, .null], vm := .statics 6 },
  { cls := 6, slots := #[.null, .int 1, .int 0, .int 0, .int 0, .int 0], vm := .none },
  { cls := 6, slots := #[.null, .int 3, .int 0, .int 0, .int 0, .int 0], vm := .none },
  { cls := 6, slots := #[.null, .int 0, .int 0, .int 0, .int 0, .int 0], vm := .none },
  { cls := 6, slots := #[.null, .int 2, .int 0, .int 0, .int 0, .int 0], vm := .none }]
def classes : Array Class := #[k0, k1, k2, k3, k4, k5, k6, k7, k8, k9, k10, k11]
def interned : List (Array UInt16 × Addr) := []
def slotsUsed : Nat := 29
def theMethod : MethodId := ⟨1, 2⟩
def args0 : Array Value := #[.long 5, .int 3, .int 1, .int 0]
def aboutOver (below : List Frame) : State where
  vm := { classes := classes, interned := interned.toArray }
  heap := heap
  slotsUsed := slotsUsed
  threads := #[{ frames := .invoking theMethod args0 :: below }]
def below0 : List Frame := [.native { method := ⟨0, 0⟩, args := #[] }]
def about1 : State := aboutOver below0
def p0 : Program := .bare "" "" ""
def e0 : Env := launch0.env 0 0 0
theorem w_frames : about1.frames = Frame.invoking theMethod args0 :: below0 := rfl
set_option maxRecDepth 65536 in
theorem w_args : argsFit about1.vm theMethod args0 = true := by decide +kernel
set_option maxRecDepth 65536 in
theorem w_heap : heapFits about1 = true := by decide +kernel
set_option maxRecDepth 65536 in
theorem w_runnable : about1.curStatus? = some .runnable := by decide +kernel
set_option maxRecDepth 65536 in
theorem w_alone : about1.alone = true := by decide +kernel
set_option maxRecDepth 65536 in
theorem w_named : about1.methodNamed? x = some theMethod := by decide +kernel
set_option maxRecDepth 65536 in
theorem w_hears : about1.hears theMethod below0 = true := by decide +kernel
set_option maxRecDepth 65536 in
theorem w_ripe : about1.ripe theMethod args0 below0 = true := by decide +kernel
theorem w_running : about1.status = .running := rfl
set_option maxRecDepth 65536 in
theorem w_room : about1.hasRoom e0.platform room_1 = true :=
  launch0.hasRoom_least _ room_1 (by decide +kernel) (by decide +kernel) (by decide +kernel) (by decide +kernel) (by decide +kernel) (by decide +kernel)
theorem allAtoms_all (ts : List Jvm.Cond) (a : Array Jvm.Value) (st : Jvm.State) : (allAtoms ts).before a st = ts.all (fun c => c.before a st) := by
  induction ts with
  | nil => rfl
  | cons c t ih =>
    show (Jvm.Cond.and c (allAtoms t)).before a st = _
    rw [Jvm.Cond.before_and, ih, List.all_cons]
def words1 : List Jvm.Cond := Jvm.Cond.code x code maxLocals ret :: tables_1
/-- a 'code' word, met by the world's own term for the bytes: nothing is compared byte by byte -/
theorem code_word {y : MethodName} {bytes : ByteArray} {mx : Nat} {rt : Option FieldType} {a : Array Value} {s : State} {m : MethodId} {meth : Method} {c : Code} (h1 : s.methodNamed? y = some m) (h2 : s.vm.method? m = some meth) (h3 : meth.code = some c) (h4 : c.code = bytes)
    (h5 : (c.maxLocals == mx && c.exceptionTable.isEmpty && decide (c.maxStack ≤ mostOperands) && decide (meth.sig.returnType = rt) && !meth.locks && decide (parseMethodDescriptor y.desc = some meth.sig)) = true) : (Jvm.Cond.code y bytes mx rt).before a s = true := by
  simp only [Bool.and_eq_true, beq_iff_eq, Bool.not_eq_true', decide_eq_true_eq] at h5
  obtain ⟨⟨⟨⟨⟨g1, g2⟩, g3⟩, g4⟩, g5⟩, g6⟩ := h5
  simp [Cond.before, Cond.holds, Cond.value, h1, h2, h3, h4, g1, g2, g3, g4, g5, g6]
def isCode : Jvm.Cond → Bool
  | .code _ _ _ _ => true
  | _ => false
theorem all_split {L : List Jvm.Cond} {P : Jvm.Cond → Bool} (h1 : L.all (fun c => isCode c || P c) = true) (h2 : ∀ c ∈ L.filter isCode, P c = true) : L.all P = true := by
  refine List.all_eq_true.mpr fun c hc => ?_
  have h := List.all_eq_true.mp h1 c hc
  rcases Bool.eq_false_or_eq_true (isCode c) with hi | hi
  · exact h2 c (List.mem_filter.mpr ⟨hc, hi⟩)
  · simpa [hi] using h
set_option maxRecDepth 65536 in
theorem w_c0 : (Jvm.Cond.code x code maxLocals ret).before args0 about1 = true := code_word (m := ⟨1, 2⟩) (meth := k1m2) (c := k1c2) (by decide +kernel) rfl rfl rfl (by decide +kernel)
set_option maxRecDepth 65536 in
theorem w_c1 : (Jvm.Cond.code ({ cls := "com/example/sindano/sindano/boyermoore/FastFormBudgetPinLaw", name := "pick", desc := "(I)Lcom/example/sindano/sindano/boyermoore/Stretches$FastForm;" } : Jvm.MethodName) method_2_code (2 : Nat) (Option.some (Jvm.ClassFile.FieldType.object "com/example/sindano/sindano/boyermoore/Stretches$FastForm"))).before args0 about1 = true := code_word (m := ⟨1, 1⟩) (meth := k1m1) (c := k1c1) (by decide +kernel) rfl rfl rfl (by decide +kernel)
set_option maxRecDepth 65536 in
theorem w_c2 : (Jvm.Cond.code ({ cls := "com/example/sindano/sindano/boyermoore/Stretches$FastForm", name := "budget", desc := "(JIZ)J" } : Jvm.MethodName) prog_49_method_7_code (7 : Nat) (Option.some Jvm.ClassFile.FieldType.long)).before args0 about1 = true := code_word (m := ⟨6, 0⟩) (meth := k6m0) (c := k6c0) (by decide +kernel) rfl rfl rfl (by decide +kernel)
def codes1 : List Jvm.Cond := [Jvm.Cond.code x code maxLocals ret, Jvm.Cond.code ({ cls := "com/example/sindano/sindano/boyermoore/FastFormBudgetPinLaw", name := "pick", desc := "(I)Lcom/example/sindano/sindano/boyermoore/Stretches$FastForm;" } : Jvm.MethodName) method_2_code (2 : Nat) (Option.some (Jvm.ClassFile.FieldType.object "com/example/sindano/sindano/boyermoore/Stretches$FastForm")), Jvm.Cond.code ({ cls := "com/example/sindano/sindano/boyermoore/Stretches$FastForm", name := "budget", desc := "(JIZ)J" } : Jvm.MethodName) prog_49_method_7_code (7 : Nat) (Option.some Jvm.ClassFile.FieldType.long)]
set_option maxRecDepth 65536 in
theorem codes_eq : words1.filter isCode = codes1 := rfl
theorem w_codes : ∀ c ∈ words1.filter isCode, c.before args0 about1 = true := by
  rw [codes_eq]
  intro c hc
  simp only [codes1, List.mem_cons, List.not_mem_nil, or_false] at hc
  rcases hc with rfl | rfl | rfl
  · exact w_c0
  · exact w_c1
  · exact w_c2
set_option maxRecDepth 65536 in
theorem w_t1 : (words1.take 24).all (fun c => isCode c || c.before args0 about1) = true := by decide +kernel
set_option maxRecDepth 65536 in
theorem w_t2 : (words1.drop 24).all (fun c => isCode c || c.before args0 about1) = true := by decide +kernel
theorem w_tables : (allAtoms (Jvm.Cond.code x code maxLocals ret :: tables_1)).before args0 about1 = true := by
  rw [allAtoms_all]
  show words1.all (fun c => c.before args0 about1) = true
  refine all_split ?_ w_codes
  rw [← List.take_append_drop 24 words1, List.all_append, w_t1, w_t2]
  rfl
set_option maxRecDepth 65536 in
theorem w_case : (Jvm.Cond.and given_1 narrow_1).before args0 about1 = true := by decide +kernel
theorem w_applies : (headSpec (Jvm.Cond.code x code maxLocals ret :: tables_1) room_1).applies x e0.platform about1 = true :=
  (Spec.applies_iff w_frames).mpr ⟨w_running, w_runnable, w_alone, w_named, w_hears, w_ripe, w_room, w_tables⟩
theorem atStart : AtStart classFile x code maxLocals ret World_1 tables_1 room_1 Calls_1 rest_1 Pre_1 launch0 p0 e0 about1 theMethod args0 below0 :=
  ⟨lists_1, trivial, launch0.admits_env _ _ _, launch0.least_env, fairChoices_fair.cas, fairChoices_fair.clock, w_frames, w_args, w_heap, w_applies, trivial, trivial, w_case⟩
end start1
theorem witness_1 : WitnessClaimed_1 := ⟨start1.p0, start1.e0, start1.about1, start1.theMethod, start1.args0, start1.below0, start1.atStart⟩
end Jvm.Pilot.@@N@@
