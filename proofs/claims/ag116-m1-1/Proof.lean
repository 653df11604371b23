import JvmDerived
import JvmDerived.Pilot.@@N@@Statement
import JvmDerived.Pilot.@@N@@Code
set_option linter.unusedVariables false
set_option linter.unusedSimpArgs false
namespace Jvm.Pilot.@@N@@
open Jvm Jvm.ClassFile Sem Op Lib Jvm.Free Jvm.Stand Jvm.LawKit Jvm.RoadKit Bundle Jvm.Pilot.@@N@@.Jvm.D

section OwnEnds
variable {p : Program} {l : Launch} {e : Env} {R : Room} {s : State} {m : MethodId} {args : Array Value} {below : List Frame} {meth : Method} {c : Code} {T : State} {locs : List Loc} {cells slots : Nat}
/-- from here the body comes to its end, returns, and leaves what Q says -/
def Ends (p : Program) (e : Env) (below : List Frame) (s T : State) (g : JFrame) (kc ks : Nat) (Q : Option Value → Heap → List Loc → Prop) : Prop :=
  ∃ s₂ o, Steps p.tables e below (T.setTop g) s₂ ∧ s₂.status = .running ∧ Ended s₂ below o ∧ ∃ v L, o = .returned v ∧ Q v s₂.heap L ∧ FrameEnd s o s₂ L kc ks
theorem Ends.go {T' : State} {g g' : JFrame} {kc ks : Nat} {Q : Option Value → Heap → List Loc → Prop} (h : ∀ target, Steps p.tables e below (T'.setTop g') target → Steps p.tables e below (T.setTop g) target) (k : Ends p e below s T' g' kc ks Q) : Ends p e below s T g kc ks Q := by
  obtain ⟨s₂, o, h1, h2⟩ := k
  exact ⟨s₂, o, h _ h1, h2⟩
theorem Ends.ret (X : Stand p l e R s m args below meth c T locs cells slots) (hx : p.tables.exec = Jvm.exec) (hlocks : meth.locks = false) {pc : Nat} {Ls : Array Slot} {w : Value} {t : FieldType} {i : Instr} {rest : List Value} (hret : meth.sig.returnType = some t) (hn : narrow t w = w)
    (hi : (i = .ireturn ∧ (t = .int ∨ t = .boolean ∨ t = .byte ∨ t = .char ∨ t = .short) ∧ ∃ z, w = .int z) ∨ (i = .lreturn ∧ t = .long ∧ ∃ z, w = .long z) ∨ (i = .dreturn ∧ t = .double ∧ ∃ z, w = .double z) ∨ (i = .freturn ∧ t = .float ∧ ∃ z, w = .float z) ∨ (i = .areturn ∧ t.isReference = true ∧ w.isRef = true))
    (hd : decode c.code pc = .ok (i, 1)) {kc ks : Nat} {Q : Option Value → Heap → List Loc → Prop} (hc : cells ≤ kc) (hs : slots ≤ ks) (hq : Q (some w) T.heap locs) : Ends p e below s T (mkF m pc Ls (w :: rest)) kc ks Q := by
  obtain ⟨fs, hr, hrun, hended, hW, hsame⟩ := X.leave (v := some w) (fun h => by rw [hret] at h; cases h) hlocks
  exact ⟨_, _, retOut X hx hret hn hi hd hr, hrun, hended, _, _, rfl, hq, ⟨_, rfl⟩, hW, hsame.mono hc hs⟩
theorem Ends.retZ (X : Stand p l e R s m args below meth c T locs cells slots) (hx : p.tables.exec = Jvm.exec) (hlocks : meth.locks = false) {pc : Nat} {Ls : Array Slot} {z : Int32} {t : FieldType} {rest : List Value} (hret : meth.sig.returnType = some t) (ht : t = .boolean ∨ t = .byte ∨ t = .char ∨ t = .short)
    (hd : decode c.code pc = .ok (.ireturn, 1)) {kc ks : Nat} {Q : Option Value → Heap → List Loc → Prop} (hc : cells ≤ kc) (hs : slots ≤ ks) (hq : Q (some (.int (nar t z))) T.heap locs) : Ends p e below s T (mkF m pc Ls (.int z :: rest)) kc ks Q := by
  obtain ⟨fs, hr, hrun, hended, hW, hsame⟩ := X.leave (v := some (.int (nar t z))) (fun h => by rw [hret] at h; cases h) hlocks
  exact ⟨_, _, retN X hx hret ht hd hr, hrun, hended, _, _, rfl, hq, ⟨_, rfl⟩, hW, hsame.mono hc hs⟩
theorem Ends.retV (X : Stand p l e R s m args below meth c T locs cells slots) (hx : p.tables.exec = Jvm.exec) (hlocks : meth.locks = false) {pc : Nat} {Ls : Array Slot} (hret : meth.sig.returnType = none)
    (hd : decode c.code pc = .ok (.return_, 1)) {kc ks : Nat} {Q : Option Value → Heap → List Loc → Prop} (hc : cells ≤ kc) (hs : slots ≤ ks) (hq : Q none T.heap locs) : Ends p e below s T (mkF m pc Ls []) kc ks Q := by
  obtain ⟨fs, hr, hrun, hended, hW, hsame⟩ := X.leave (v := none) (fun _ => rfl) hlocks
  exact ⟨_, _, X.returnOut hx hret hd hr, hrun, hended, _, _, rfl, hq, ⟨_, rfl⟩, hW, hsame.mono hc hs⟩
end OwnEnds
abbrev Meets1 (l : Launch) (y : MethodName) (bytes : ByteArray) (ml : Nat) (rt : Option FieldType) (ws : List Jvm.Cond) (rm : Room) (av : Array Value) (Z : State) (h0 : Heap) (Q : Option Value → Heap → List Loc → Prop) : Prop :=
  MetFree l y (head1 (Jvm.Cond.code y bytes ml rt :: ws) rm) (fun a U => a = av ∧ Z.Warmed39 U.vm ∧ U.heap = h0) (fun _ _ _ _ _ => True) (fun _ U o U' => ∃ v L, o = .returned v ∧ Q v U'.heap L ∧ FrameEnd U o U' L rm.cells rm.slots)
theorem own_backOf {p : Program} {l : Launch} {e : Env} {R : Room} {s : State} {args : Array Value} {below : List Frame} {Z : State} {a0 : Array Value} {h : Heap} {y : MethodName} {bytes : ByteArray} {maxL : Nat} {ret : Option FieldType} {rm : Room} {len W : Nat} {as' : Array Value} {Q : Option Value → Heap → List Loc → Prop}
    (hM : Meets1 l y bytes maxL ret [] rm as' Z h Q) (hZ : Z.Warmed39 s.vm) (wc : (Jvm.Cond.code y bytes maxL ret).before a0 Z = true) (wz : (Jvm.Cond.initialized y.cls).before a0 Z = true) (hf : rm.frames + 1 ≤ R.frames) (hl : W + (maxL + 11) + rm.locals ≤ R.locals) :
    Back l R p e below s args y len W (fun A a => a = as' ∧ A.U.heap = h ∧ A.cells + rm.cells ≤ R.cells ∧ A.slots + rm.slots ≤ R.slots)
      (fun A _ v B => ∃ L, Q v B.U.heap L ∧ B.locs = A.locs ++ L ∧ B.cells = A.cells + rm.cells ∧ B.slots = A.slots + rm.slots) := backOf (Q := Q) hM hZ wc wz hf hl
theorem own_old_le {Z : State} {n0 : Nat} {h : Heap} (O : Old Z n0 h) : n0 ≤ h.size := O.1 ▸ O.2.1
theorem own_eqI {args : Array Value} {s : State} {t : Term} {k : Int32} (h : (Jvm.Cond.eq t (.int k)).value args s none s [] = some true) : t.eval args s none [] s = some (.int k) := by
  cases ht : t.eval args s none [] s with
  | none => simp [Cond.value, ht] at h
  | some x => cases x <;> simp_all [Cond.value, Term.eval]
theorem own_mod (p0 i : Int32) (h : ((p0 &&& (2147483647 : Int32)) % (7 : Int32)) = i) : i = 0 ∨ i = 1 ∨ i = 2 ∨ i = 3 ∨ i = 4 ∨ i = 5 ∨ i = 6 := by
  have h1 := c_and p0 2147483647 (by decide)
  have h2 := (c_irem (p0 &&& 2147483647) 7 7 (by decide)).1 h1.1
  rw [h] at h2
  have h3 : i.toInt = 0 ∨ i.toInt = 1 ∨ i.toInt = 2 ∨ i.toInt = 3 ∨ i.toInt = 4 ∨ i.toInt = 5 ∨ i.toInt = 6 := by omega
  rcases h3 with q | q | q | q | q | q | q
  · exact Or.inl (Int32.toInt_inj.mp q)
  · exact Or.inr (Or.inl (Int32.toInt_inj.mp q))
  · exact Or.inr (Or.inr (Or.inl (Int32.toInt_inj.mp q)))
  · exact Or.inr (Or.inr (Or.inr (Or.inl (Int32.toInt_inj.mp q))))
  · exact Or.inr (Or.inr (Or.inr (Or.inr (Or.inl (Int32.toInt_inj.mp q)))))
  · exact Or.inr (Or.inr (Or.inr (Or.inr (Or.inr (Or.inl (Int32.toInt_inj.mp q))))))
  · exact Or.inr (Or.inr (Or.inr (Or.inr (Or.inr (Or.inr (Int32.toInt_inj.mp q))))))
def Facts (Z : State) (w_EQUALS : Addr) (w_BETWEEN : Addr) (w_LT : Addr) (w_GT : Addr) (w_GE : Addr) (w_LE : Addr) (w_BEGINS_WITH : Addr) : Prop :=
  Sta Z Z.heap "com/example/patterns_to_keys/patternstokeys/Comparison" "EQUALS" "Lcom/example/patterns_to_keys/patternstokeys/Comparison;" (.ref w_EQUALS) ∧
  Exa Z Z.heap w_EQUALS "com/example/patterns_to_keys/patternstokeys/Comparison" ∧
  Sta Z Z.heap "com/example/patterns_to_keys/patternstokeys/Comparison" "BETWEEN" "Lcom/example/patterns_to_keys/patternstokeys/Comparison;" (.ref w_BETWEEN) ∧
  Exa Z Z.heap w_BETWEEN "com/example/patterns_to_keys/patternstokeys/Comparison" ∧
  Fld Z Z.heap w_EQUALS "java/lang/Enum" "ordinal" "I" (.int (0 : Int32)) ∧
  Fld Z Z.heap w_BETWEEN "java/lang/Enum" "ordinal" "I" (.int (2 : Int32)) ∧
  Sta Z Z.heap "com/example/patterns_to_keys/patternstokeys/Comparison" "LT" "Lcom/example/patterns_to_keys/patternstokeys/Comparison;" (.ref w_LT) ∧
  Exa Z Z.heap w_LT "com/example/patterns_to_keys/patternstokeys/Comparison" ∧
  Fld Z Z.heap w_LT "java/lang/Enum" "ordinal" "I" (.int (3 : Int32)) ∧
  Sta Z Z.heap "com/example/patterns_to_keys/patternstokeys/Comparison" "GT" "Lcom/example/patterns_to_keys/patternstokeys/Comparison;" (.ref w_GT) ∧
  Exa Z Z.heap w_GT "com/example/patterns_to_keys/patternstokeys/Comparison" ∧
  Fld Z Z.heap w_GT "java/lang/Enum" "ordinal" "I" (.int (5 : Int32)) ∧
  Sta Z Z.heap "com/example/patterns_to_keys/patternstokeys/Comparison" "GE" "Lcom/example/patterns_to_keys/patternstokeys/Comparison;" (.ref w_GE) ∧
  Exa Z Z.heap w_GE "com/example/patterns_to_keys/patternstokeys/Comparison" ∧
  Fld Z Z.heap w_GE "java/lang/Enum" "ordinal" "I" (.int (6 : Int32)) ∧
  Sta Z Z.heap "com/example/patterns_to_keys/patternstokeys/Comparison" "LE" "Lcom/example/patterns_to_keys/patternstokeys/Comparison;" (.ref w_LE) ∧
  Exa Z Z.heap w_LE "com/example/patterns_to_keys/patternstokeys/Comparison" ∧
  Fld Z Z.heap w_LE "java/lang/Enum" "ordinal" "I" (.int (4 : Int32)) ∧
  Sta Z Z.heap "com/example/patterns_to_keys/patternstokeys/Comparison" "BEGINS_WITH" "Lcom/example/patterns_to_keys/patternstokeys/Comparison;" (.ref w_BEGINS_WITH) ∧
  Exa Z Z.heap w_BEGINS_WITH "com/example/patterns_to_keys/patternstokeys/Comparison" ∧
  Fld Z Z.heap w_BEGINS_WITH "java/lang/Enum" "ordinal" "I" (.int (1 : Int32))
theorem d1_0 : decode prog_13_method_5_code 0 = .ok (.aload_n 0, 1) := by decide +kernel
theorem d1_1 : decode prog_13_method_5_code 1 = .ok (.getstatic 10, 3) := by decide +kernel
theorem d1_4 : decode prog_13_method_5_code 4 = .ok (.if_acmp .ne 7, 3) := by decide +kernel
theorem d1_7 : decode prog_13_method_5_code 7 = .ok (.iconst 2, 1) := by decide +kernel
theorem d1_8 : decode prog_13_method_5_code 8 = .ok (.goto 4, 3) := by decide +kernel
theorem d1_11 : decode prog_13_method_5_code 11 = .ok (.iconst 1, 1) := by decide +kernel
theorem d1_12 : decode prog_13_method_5_code 12 = .ok (.ireturn, 1) := by decide +kernel
theorem pn1 : plainName "com/example/patterns_to_keys/patternstokeys/Comparison" = true := by first | (simp [plainName, overriddenIn]; done) | decide +kernel
theorem ef1 (m : MethodId) (o0 : Addr) : entryFrame m #[(.ref o0)] 1 = mkF m 0 #[.val (.ref o0)] [] := by first | (simp [entryFrame, mkF, argsToLocals, Value.category]; done) | rfl
set_option maxRecDepth 65536 in
set_option maxHeartbeats 40000000 in
theorem rm1 (l : Launch) (Z : State) (a0 : Array Value) (hw : ∀ d ∈ tables_1, d.before a0 Z = true) (ws : List Jvm.Cond) (n0 : Nat) (h0 : Heap) (O0 : Old Z n0 h0) (o0 : Addr) (w_EQUALS : Addr) (w_BETWEEN : Addr) (w_LT : Addr) (w_GT : Addr) (w_GE : Addr) (w_LE : Addr) (w_BEGINS_WITH : Addr) (FF : Facts Z w_EQUALS w_BETWEEN w_LT w_GT w_GE w_LE w_BEGINS_WITH) (r : Int32) (hr2 : o0 = w_BETWEEN → r = 2) (hr1 : ¬ o0 = w_BETWEEN → r = 1) :
    Meets1 l (⟨"com/example/patterns_to_keys/patternstokeys/Comparison", "operands", "()I"⟩ : MethodName) prog_13_method_5_code 1 (some .int) ws ({ frames := 0, cells := 0, slots := 0, locals := 0 } : Room) #[(.ref o0)] Z h0 (fun v h L => v = some (.int r) ∧ Fr n0 L ∧ h = h0) := by
  refine MetFree.of_bodySF (plainFor_of_name pn1) hisR ?_
  intro p e s m args below meth c s₁ Bd hml0 hP hK
  obtain ⟨rfl, hZ, hh⟩ := hP
  have hx := Bd.exec
  have hby := Bd.bytes
  have hml : c.maxLocals = 1 := hml0
  have hown : s.vm.findClass "com/example/patterns_to_keys/patternstokeys/Comparison" = some m.cls := findClass_of_methodNamed Bd.named
  have hnm := (name_of_methodNamed Bd.named Bd.method).1
  have X0 : Stand p l e ({ frames := 0, cells := 0, slots := 0, locals := 0 } : Room) s m #[(.ref o0)] below meth c s₁ [] 0 0 := Stand.of_body Bd
  have e0 : s₁.heap = h0 := by rw [← hh, Bd.state]; rfl
  have N0 := Fr.nil n0
  have Z0 := own_old_le O0
  show Ends p e below s s₁ (entryFrame m #[(.ref o0)] 1) ({ frames := 0, cells := 0, slots := 0, locals := 0 } : Room).cells ({ frames := 0, cells := 0, slots := 0, locals := 0 } : Room).slots (fun v h L => v = some (.int r) ∧ Fr n0 L ∧ h = h0)
  refine Ends.go (fun _ k => castTop (ef1 m o0) k) ?_
  have K0 := Keep.refl h0 []
  have FF0 := FF
  obtain ⟨S_EQUALS, E_EQUALS, S_BETWEEN, E_BETWEEN, F_ordinal_EQUALS, F_ordinal_BETWEEN, S_LT, E_LT, F_ordinal_LT, S_GT, E_GT, F_ordinal_GT, S_GE, E_GE, F_ordinal_GE, S_LE, E_LE, F_ordinal_LE, S_BEGINS_WITH, E_BEGINS_WITH, F_ordinal_BEGINS_WITH⟩ := FF
  show Ends p e below s s₁ (mkF m 0 #[.val (.ref o0)] []) _ _ _
  refine Ends.go (fun _ k => XS.aloadN X0.here hx rfl (hb hby d1_0) rfl rfl k) ?_
  show Ends p e below s s₁ (mkF m 1 #[.val (.ref o0)] [(.ref o0)]) _ _ _
  obtain ⟨T1, X1, e1, st1⟩ := getS2 X0 hx hZ hown (host := "") (Or.inl (hw _ (List.mem_of_getElem? (i := 9) rfl))) Via.refl e0 (S_BETWEEN.ext O0.2) (g := (mkF m 1 #[.val (.ref o0)] [(.ref o0)])) rfl (hb hby d1_1)
  refine Ends.go st1 ?_
  show Ends p e below s T1 (mkF m 4 #[.val (.ref o0)] [(.ref w_BETWEEN), (.ref o0)]) _ _ _
  by_cases ha4_2 : o0 = w_BETWEEN
  · refine Ends.go (fun _ k => Jvm.RoadKit.acmp (g := (mkF m 4 #[.val (.ref o0)] [(.ref w_BETWEEN), (.ref o0)])) X1 hx rfl rfl rfl (pc0 := 4) (pc' := 7) (same := true) rfl (hb hby d1_4) rfl (decide_eq_true (congrArg Value.ref ha4_2)) (by decide) (by decide) k) ?_
    show Ends p e below s T1 (mkF m 7 #[.val (.ref o0)] []) _ _ _
    refine Ends.go (fun _ k => XS.iconst X1.here hx rfl (hb hby d1_7) k) ?_
    show Ends p e below s T1 (mkF m 8 #[.val (.ref o0)] [(.int (2 : Int32))]) _ _ _
    refine Ends.go (fun _ k => XS.goto X1.here hx rfl (pc0 := 8) (pc' := 12) rfl (hb hby d1_8) (by decide) (by decide) k) ?_
    show Ends p e below s T1 (mkF m 12 #[.val (.ref o0)] [(.int (2 : Int32))]) _ _ _
    refine Ends.ret X1 hx Bd.notSynchronized (t := .int) Bd.returns rfl (Or.inl ⟨rfl, by simp, _, rfl⟩) (hb hby d1_12) (by decide) (by decide) ?_
    exact ⟨by rw [hr2 ha4_2], N0, e1⟩
  · refine Ends.go (fun _ k => Jvm.RoadKit.acmp (g := (mkF m 4 #[.val (.ref o0)] [(.ref w_BETWEEN), (.ref o0)])) X1 hx rfl rfl rfl (pc0 := 4) (pc' := 11) (same := false) rfl (hb hby d1_4) rfl (decide_eq_false fun q => ha4_2 (Value.ref.inj q)) (by decide) (by decide) k) ?_
    show Ends p e below s T1 (mkF m 11 #[.val (.ref o0)] []) _ _ _
    refine Ends.go (fun _ k => XS.iconst X1.here hx rfl (hb hby d1_11) k) ?_
    show Ends p e below s T1 (mkF m 12 #[.val (.ref o0)] [(.int (1 : Int32))]) _ _ _
    refine Ends.ret X1 hx Bd.notSynchronized (t := .int) Bd.returns rfl (Or.inl ⟨rfl, by simp, _, rfl⟩) (hb hby d1_12) (by decide) (by decide) ?_
    exact ⟨by rw [hr1 ha4_2], N0, e1⟩
theorem pn0 : plainName "com/example/patterns_to_keys/patternstokeys/ComparisonOperandsPinLaw" = true := by first | (simp [plainName, overriddenIn]; done) | decide +kernel
theorem pd0_0 : parseMethodDescriptor "()I" = some ⟨[], some .int⟩ := by decide +kernel
theorem ef0 (m : MethodId) (p0 : Int32) : entryFrame m #[(.int p0)] maxLocals = mkF m 0 #[.val (.int p0), .unset, .unset, .unset] [] := by first | (simp [entryFrame, mkF, argsToLocals, Value.category, maxLocals]; done) | rfl
set_option maxRecDepth 65536 in
set_option maxHeartbeats 40000000 in
theorem rm0 (l : Launch) (Z : State) (a0 : Array Value) (hw : ∀ d ∈ tables_1, d.before a0 Z = true) (ws : List Jvm.Cond) (n0 : Nat) (h0 : Heap) (O0 : Old Z n0 h0) (p0 : Int32) (w_EQUALS : Addr) (w_BETWEEN : Addr) (w_LT : Addr) (w_GT : Addr) (w_GE : Addr) (w_LE : Addr) (w_BEGINS_WITH : Addr) (FF : Facts Z w_EQUALS w_BETWEEN w_LT w_GT w_GE w_LE w_BEGINS_WITH) :
    Meets1 l x code maxLocals ret ws room_1 #[(.int p0)] Z h0 (fun v h L => v = some (.int (1 : Int32)) ∧ Fr n0 L) := by
  refine MetFree.of_bodySF (plainFor_of_name pn0) hisR ?_
  intro p e s m args below meth c s₁ Bd hml0 hP hK
  obtain ⟨rfl, hZ, hh⟩ := hP
  have hx := Bd.exec
  have hby := Bd.bytes
  have hml : c.maxLocals = 4 := hml0
  have hown : s.vm.findClass "com/example/patterns_to_keys/patternstokeys/ComparisonOperandsPinLaw" = some m.cls := findClass_of_methodNamed Bd.named
  have hnm := (name_of_methodNamed Bd.named Bd.method).1
  have X0 : Stand p l e room_1 s m #[(.int p0)] below meth c s₁ [] 0 0 := Stand.of_body Bd
  have e0 : s₁.heap = h0 := by rw [← hh, Bd.state]; rfl
  have N0 := Fr.nil n0
  have Z0 := own_old_le O0
  show Ends p e below s s₁ (entryFrame m #[(.int p0)] maxLocals) room_1.cells room_1.slots (fun v h L => v = some (.int (1 : Int32)) ∧ Fr n0 L)
  refine Ends.go (fun _ k => castTop (ef0 m p0) k) ?_
  have K0 := Keep.refl h0 []
  have FF0 := FF
  obtain ⟨S_EQUALS, E_EQUALS, S_BETWEEN, E_BETWEEN, F_ordinal_EQUALS, F_ordinal_BETWEEN, S_LT, E_LT, F_ordinal_LT, S_GT, E_GT, F_ordinal_GT, S_GE, E_GE, F_ordinal_GE, S_LE, E_LE, F_ordinal_LE, S_BEGINS_WITH, E_BEGINS_WITH, F_ordinal_BEGINS_WITH⟩ := FF
  show Ends p e below s s₁ (mkF m 0 #[.val (.int p0), .unset, .unset, .unset] []) _ _ _
  refine Ends.go (fun _ k => XS.iloadN X0.here hx rfl (hb hby at_0) rfl k) ?_
  show Ends p e below s s₁ (mkF m 1 #[.val (.int p0), .unset, .unset, .unset] [(.int p0)]) _ _ _
  refine Ends.go (X0.ldcInt hx hown (mvT hZ (hw _ (List.mem_of_getElem? (i := 0) rfl))) (g := (mkF m 1 #[.val (.int p0), .unset, .unset, .unset] [(.int p0)])) rfl (hb hby at_1)) ?_
  show Ends p e below s s₁ (mkF m 3 #[.val (.int p0), .unset, .unset, .unset] [(.int (2147483647 : Int32)), (.int p0)]) _ _ _
  refine Ends.go (fun _ k => XS.iand X0.here hx rfl (hb hby at_3) rfl k) ?_
  show Ends p e below s s₁ (mkF m 4 #[.val (.int p0), .unset, .unset, .unset] [(.int (p0 &&& (2147483647 : Int32)))]) _ _ _
  refine Ends.go (fun _ k => XS.bipush X0.here hx rfl (hb hby at_4) k) ?_
  show Ends p e below s s₁ (mkF m 6 #[.val (.int p0), .unset, .unset, .unset] [(.int (7 : Int32)), (.int (p0 &&& (2147483647 : Int32)))]) _ _ _
  refine Ends.go (fun _ k => iremM X0 hx rfl (hb hby at_6) rfl (by decide) k) ?_
  show Ends p e below s s₁ (mkF m 7 #[.val (.int p0), .unset, .unset, .unset] [(.int ((p0 &&& (2147483647 : Int32)) % (7 : Int32)))]) _ _ _
  generalize hi : ((p0 &&& (2147483647 : Int32)) % (7 : Int32)) = i
  rcases own_mod p0 i hi with rfl | rfl | rfl | rfl | rfl | rfl | rfl
  · show Ends p e below s s₁ (mkF m 7 #[.val (.int p0), .unset, .unset, .unset] [(.int (0 : Int32))]) _ _ _
    refine Ends.go (fun _ k => XS.istoreN X0.here hx rfl (hb hby at_7) rfl (l' := #[.val (.int p0), .val (.int (0 : Int32)), .unset, .unset]) rfl k) ?_
    show Ends p e below s s₁ (mkF m 8 #[.val (.int p0), .val (.int (0 : Int32)), .unset, .unset] []) _ _ _
    refine Ends.go (fun _ k => XS.iloadN X0.here hx rfl (hb hby at_8) rfl k) ?_
    show Ends p e below s s₁ (mkF m 9 #[.val (.int p0), .val (.int (0 : Int32)), .unset, .unset] [(.int (0 : Int32))]) _ _ _
    refine Ends.go (fun _ k => XS.ifNo X0.here hx rfl (hb hby at_9) rfl ((if0 _ _).trans (teq (by decide : (0 : Int32) = (0 : Int32))).2) k) ?_
    show Ends p e below s s₁ (mkF m 12 #[.val (.int p0), .val (.int (0 : Int32)), .unset, .unset] []) _ _ _
    obtain ⟨T1, X1, e1, st1⟩ := getS2 X0 hx hZ hown (host := "") (Or.inl (hw _ (List.mem_of_getElem? (i := 1) rfl))) Via.refl e0 (S_EQUALS.ext O0.2) (g := (mkF m 12 #[.val (.int p0), .val (.int (0 : Int32)), .unset, .unset] [])) rfl (hb hby at_12)
    refine Ends.go st1 ?_
    show Ends p e below s T1 (mkF m 15 #[.val (.int p0), .val (.int (0 : Int32)), .unset, .unset] [(.ref w_EQUALS)]) _ _ _
    refine Ends.go (fun _ k => XS.astoreN X1.here hx rfl (hb hby at_15) rfl rfl (l' := #[.val (.int p0), .val (.int (0 : Int32)), .val (.ref w_EQUALS), .unset]) rfl k) ?_
    show Ends p e below s T1 (mkF m 16 #[.val (.int p0), .val (.int (0 : Int32)), .val (.ref w_EQUALS), .unset] []) _ _ _
    refine Ends.go (fun _ k => XS.iconst X1.here hx rfl (hb hby at_16) k) ?_
    show Ends p e below s T1 (mkF m 17 #[.val (.int p0), .val (.int (0 : Int32)), .val (.ref w_EQUALS), .unset] [(.int (1 : Int32))]) _ _ _
    refine Ends.go (fun _ k => XS.istoreN X1.here hx rfl (hb hby at_17) rfl (l' := #[.val (.int p0), .val (.int (0 : Int32)), .val (.ref w_EQUALS), .val (.int (1 : Int32))]) rfl k) ?_
    show Ends p e below s T1 (mkF m 18 #[.val (.int p0), .val (.int (0 : Int32)), .val (.ref w_EQUALS), .val (.int (1 : Int32))] []) _ _ _
    refine Ends.go (fun _ k => XS.goto X1.here hx rfl (pc0 := 18) (pc' := 97) rfl (hb hby at_18) (by decide) (by decide) k) ?_
    show Ends p e below s T1 (mkF m 97 #[.val (.int p0), .val (.int (0 : Int32)), .val (.ref w_EQUALS), .val (.int (1 : Int32))] []) _ _ _
    refine Ends.go (fun _ k => XS.aloadN X1.here hx rfl (hb hby at_97) rfl rfl k) ?_
    show Ends p e below s T1 (mkF m 98 #[.val (.int p0), .val (.int (0 : Int32)), .val (.ref w_EQUALS), .val (.int (1 : Int32))] [(.ref w_EQUALS)]) _ _ _
    obtain ⟨cq2, kq2, q2a, q2b, q2c⟩ := isOf hZ e1 (E_EQUALS.ext O0.2)
    obtain ⟨_, _, ⟨T2, L2, k2, n2⟩, -, X2, ⟨Lc2, hQ2, l2, y2, z2⟩, st2⟩ := X1.virtualBack hx (y := (⟨"com/example/patterns_to_keys/patternstokeys/Comparison", "operands", "()I"⟩ : MethodName)) (z := (⟨"com/example/patterns_to_keys/patternstokeys/Comparison", "operands", "()I"⟩ : MethodName)) hown (mvT hZ (hw _ (List.mem_of_getElem? (i := 4) rfl))) (mvT hZ (hw _ (List.mem_of_getElem? (i := 5) rfl))) (notFace_of_selects (args := #[]) (mvT hZ (hw _ (List.mem_of_getElem? (i := 7) rfl)))) (mvT hZ (hw _ (List.mem_of_getElem? (i := 7) rfl))) (mvT hZ (hw _ (List.mem_of_getElem? (i := 6) rfl))) (by decide) (own_backOf (W := 0) (rm1 l Z a0 hw [] n0 h0 O0 w_EQUALS w_EQUALS w_BETWEEN w_LT w_GT w_GE w_LE w_BEGINS_WITH FF0 (1 : Int32) (fun q => absurd q (Fld.ne F_ordinal_EQUALS F_ordinal_BETWEEN (by decide))) (fun _ => rfl)) hZ (hw _ (List.mem_of_getElem? (i := 8) rfl)) (hw _ (List.mem_of_getElem? (i := 2) rfl)) (by decide) (by decide)) q2a q2c (g := (mkF m 98 #[.val (.int p0), .val (.int (0 : Int32)), .val (.ref w_EQUALS), .val (.int (1 : Int32))] [(.ref w_EQUALS)])) rfl (by rw [hml]; rfl) (Steps.refl _) (argsL := []) (rest := []) (lenOf pd0_0 rfl) rfl (by show 2 * 0 + _ ≤ _; exact Nat.le_of_eq rfl) (hb hby at_98) (fun _ _ => ⟨rfl, e1, (by decide : 0 + 0 ≤ _), (by decide : 0 + 0 ≤ _)⟩)
    dsimp only [Pt.U, Pt.locs, Pt.cells, Pt.slots] at X2 l2 y2 z2 st2 hQ2
    subst l2 y2 z2
    obtain ⟨rfl, N2q, e2q⟩ := hQ2
    have N2 := Fr.app N0 N2q
    refine Ends.go (fun _ k => st2.trans k) ?_
    show Ends p e below s T2 (mkF m 101 #[.val (.int p0), .val (.int (0 : Int32)), .val (.ref w_EQUALS), .val (.int (1 : Int32))] [(.int (1 : Int32))]) _ _ _
    refine Ends.go (fun _ k => XS.iloadN X2.here hx rfl (hb hby at_101) rfl k) ?_
    show Ends p e below s T2 (mkF m 102 #[.val (.int p0), .val (.int (0 : Int32)), .val (.ref w_EQUALS), .val (.int (1 : Int32))] [(.int (1 : Int32)), (.int (1 : Int32))]) _ _ _
    refine Ends.go (fun _ k => XS.icmpNo X2.here hx rfl (hb hby at_102) rfl (teq (by decide : (1 : Int32) = (1 : Int32))).2 k) ?_
    show Ends p e below s T2 (mkF m 105 #[.val (.int p0), .val (.int (0 : Int32)), .val (.ref w_EQUALS), .val (.int (1 : Int32))] []) _ _ _
    refine Ends.go (fun _ k => XS.iconst X2.here hx rfl (hb hby at_105) k) ?_
    show Ends p e below s T2 (mkF m 106 #[.val (.int p0), .val (.int (0 : Int32)), .val (.ref w_EQUALS), .val (.int (1 : Int32))] [(.int (1 : Int32))]) _ _ _
    refine Ends.go (fun _ k => XS.goto X2.here hx rfl (pc0 := 106) (pc' := 110) rfl (hb hby at_106) (by decide) (by decide) k) ?_
    show Ends p e below s T2 (mkF m 110 #[.val (.int p0), .val (.int (0 : Int32)), .val (.ref w_EQUALS), .val (.int (1 : Int32))] [(.int (1 : Int32))]) _ _ _
    refine Ends.retZ X2 hx Bd.notSynchronized (t := .boolean) Bd.returns (by simp) (hb hby at_110) (by decide) (by decide) ?_
    exact ⟨rfl, N2⟩
  · show Ends p e below s s₁ (mkF m 7 #[.val (.int p0), .unset, .unset, .unset] [(.int (1 : Int32))]) _ _ _
    refine Ends.go (fun _ k => XS.istoreN X0.here hx rfl (hb hby at_7) rfl (l' := #[.val (.int p0), .val (.int (1 : Int32)), .unset, .unset]) rfl k) ?_
    show Ends p e below s s₁ (mkF m 8 #[.val (.int p0), .val (.int (1 : Int32)), .unset, .unset] []) _ _ _
    refine Ends.go (fun _ k => XS.iloadN X0.here hx rfl (hb hby at_8) rfl k) ?_
    show Ends p e below s s₁ (mkF m 9 #[.val (.int p0), .val (.int (1 : Int32)), .unset, .unset] [(.int (1 : Int32))]) _ _ _
    refine Ends.go (fun _ k => XS.ifYes X0.here hx rfl (pc0 := 9) (pc' := 21) rfl (hb hby at_9) rfl ((if0 _ _).trans (feq (by decide : ¬ ((1 : Int32) = (0 : Int32)))).2) (by decide) (by decide) k) ?_
    show Ends p e below s s₁ (mkF m 21 #[.val (.int p0), .val (.int (1 : Int32)), .unset, .unset] []) _ _ _
    refine Ends.go (fun _ k => XS.iloadN X0.here hx rfl (hb hby at_21) rfl k) ?_
    show Ends p e below s s₁ (mkF m 22 #[.val (.int p0), .val (.int (1 : Int32)), .unset, .unset] [(.int (1 : Int32))]) _ _ _
    refine Ends.go (fun _ k => XS.iconst X0.here hx rfl (hb hby at_22) k) ?_
    show Ends p e below s s₁ (mkF m 23 #[.val (.int p0), .val (.int (1 : Int32)), .unset, .unset] [(.int (1 : Int32)), (.int (1 : Int32))]) _ _ _
    refine Ends.go (fun _ k => XS.icmpNo X0.here hx rfl (hb hby at_23) rfl (teq (by decide : (1 : Int32) = (1 : Int32))).2 k) ?_
    show Ends p e below s s₁ (mkF m 26 #[.val (.int p0), .val (.int (1 : Int32)), .unset, .unset] []) _ _ _
    obtain ⟨T3, X3, e3, st3⟩ := getS2 X0 hx hZ hown (host := "") (Or.inl (hw _ (List.mem_of_getElem? (i := 20) rfl))) Via.refl e0 (S_BEGINS_WITH.ext O0.2) (g := (mkF m 26 #[.val (.int p0), .val (.int (1 : Int32)), .unset, .unset] [])) rfl (hb hby at_26)
    refine Ends.go st3 ?_
    show Ends p e below s T3 (mkF m 29 #[.val (.int p0), .val (.int (1 : Int32)), .unset, .unset] [(.ref w_BEGINS_WITH)]) _ _ _
    refine Ends.go (fun _ k => XS.astoreN X3.here hx rfl (hb hby at_29) rfl rfl (l' := #[.val (.int p0), .val (.int (1 : Int32)), .val (.ref w_BEGINS_WITH), .unset]) rfl k) ?_
    show Ends p e below s T3 (mkF m 30 #[.val (.int p0), .val (.int (1 : Int32)), .val (.ref w_BEGINS_WITH), .unset] []) _ _ _
    refine Ends.go (fun _ k => XS.iconst X3.here hx rfl (hb hby at_30) k) ?_
    show Ends p e below s T3 (mkF m 31 #[.val (.int p0), .val (.int (1 : Int32)), .val (.ref w_BEGINS_WITH), .unset] [(.int (1 : Int32))]) _ _ _
    refine Ends.go (fun _ k => XS.istoreN X3.here hx rfl (hb hby at_31) rfl (l' := #[.val (.int p0), .val (.int (1 : Int32)), .val (.ref w_BEGINS_WITH), .val (.int (1 : Int32))]) rfl k) ?_
    show Ends p e below s T3 (mkF m 32 #[.val (.int p0), .val (.int (1 : Int32)), .val (.ref w_BEGINS_WITH), .val (.int (1 : Int32))] []) _ _ _
    refine Ends.go (fun _ k => XS.goto X3.here hx rfl (pc0 := 32) (pc' := 97) rfl (hb hby at_32) (by decide) (by decide) k) ?_
    show Ends p e below s T3 (mkF m 97 #[.val (.int p0), .val (.int (1 : Int32)), .val (.ref w_BEGINS_WITH), .val (.int (1 : Int32))] []) _ _ _
    refine Ends.go (fun _ k => XS.aloadN X3.here hx rfl (hb hby at_97) rfl rfl k) ?_
    show Ends p e below s T3 (mkF m 98 #[.val (.int p0), .val (.int (1 : Int32)), .val (.ref w_BEGINS_WITH), .val (.int (1 : Int32))] [(.ref w_BEGINS_WITH)]) _ _ _
    obtain ⟨cq4, kq4, q4a, q4b, q4c⟩ := isOf hZ e3 (E_BEGINS_WITH.ext O0.2)
    obtain ⟨_, _, ⟨T4, L4, k4, n4⟩, -, X4, ⟨Lc4, hQ4, l4, y4, z4⟩, st4⟩ := X3.virtualBack hx (y := (⟨"com/example/patterns_to_keys/patternstokeys/Comparison", "operands", "()I"⟩ : MethodName)) (z := (⟨"com/example/patterns_to_keys/patternstokeys/Comparison", "operands", "()I"⟩ : MethodName)) hown (mvT hZ (hw _ (List.mem_of_getElem? (i := 4) rfl))) (mvT hZ (hw _ (List.mem_of_getElem? (i := 5) rfl))) (notFace_of_selects (args := #[]) (mvT hZ (hw _ (List.mem_of_getElem? (i := 7) rfl)))) (mvT hZ (hw _ (List.mem_of_getElem? (i := 7) rfl))) (mvT hZ (hw _ (List.mem_of_getElem? (i := 6) rfl))) (by decide) (own_backOf (W := 0) (rm1 l Z a0 hw [] n0 h0 O0 w_BEGINS_WITH w_EQUALS w_BETWEEN w_LT w_GT w_GE w_LE w_BEGINS_WITH FF0 (1 : Int32) (fun q => absurd q (Fld.ne F_ordinal_BEGINS_WITH F_ordinal_BETWEEN (by decide))) (fun _ => rfl)) hZ (hw _ (List.mem_of_getElem? (i := 8) rfl)) (hw _ (List.mem_of_getElem? (i := 2) rfl)) (by decide) (by decide)) q4a q4c (g := (mkF m 98 #[.val (.int p0), .val (.int (1 : Int32)), .val (.ref w_BEGINS_WITH), .val (.int (1 : Int32))] [(.ref w_BEGINS_WITH)])) rfl (by rw [hml]; rfl) (Steps.refl _) (argsL := []) (rest := []) (lenOf pd0_0 rfl) rfl (by show 2 * 0 + _ ≤ _; exact Nat.le_of_eq rfl) (hb hby at_98) (fun _ _ => ⟨rfl, e3, (by decide : 0 + 0 ≤ _), (by decide : 0 + 0 ≤ _)⟩)
    dsimp only [Pt.U, Pt.locs, Pt.cells, Pt.slots] at X4 l4 y4 z4 st4 hQ4
    subst l4 y4 z4
    obtain ⟨rfl, N4q, e4q⟩ := hQ4
    have N4 := Fr.app N0 N4q
    refine Ends.go (fun _ k => st4.trans k) ?_
    show Ends p e below s T4 (mkF m 101 #[.val (.int p0), .val (.int (1 : Int32)), .val (.ref w_BEGINS_WITH), .val (.int (1 : Int32))] [(.int (1 : Int32))]) _ _ _
    refine Ends.go (fun _ k => XS.iloadN X4.here hx rfl (hb hby at_101) rfl k) ?_
    show Ends p e below s T4 (mkF m 102 #[.val (.int p0), .val (.int (1 : Int32)), .val (.ref w_BEGINS_WITH), .val (.int (1 : Int32))] [(.int (1 : Int32)), (.int (1 : Int32))]) _ _ _
    refine Ends.go (fun _ k => XS.icmpNo X4.here hx rfl (hb hby at_102) rfl (teq (by decide : (1 : Int32) = (1 : Int32))).2 k) ?_
    show Ends p e below s T4 (mkF m 105 #[.val (.int p0), .val (.int (1 : Int32)), .val (.ref w_BEGINS_WITH), .val (.int (1 : Int32))] []) _ _ _
    refine Ends.go (fun _ k => XS.iconst X4.here hx rfl (hb hby at_105) k) ?_
    show Ends p e below s T4 (mkF m 106 #[.val (.int p0), .val (.int (1 : Int32)), .val (.ref w_BEGINS_WITH), .val (.int (1 : Int32))] [(.int (1 : Int32))]) _ _ _
    refine Ends.go (fun _ k => XS.goto X4.here hx rfl (pc0 := 106) (pc' := 110) rfl (hb hby at_106) (by decide) (by decide) k) ?_
    show Ends p e below s T4 (mkF m 110 #[.val (.int p0), .val (.int (1 : Int32)), .val (.ref w_BEGINS_WITH), .val (.int (1 : Int32))] [(.int (1 : Int32))]) _ _ _
    refine Ends.retZ X4 hx Bd.notSynchronized (t := .boolean) Bd.returns (by simp) (hb hby at_110) (by decide) (by decide) ?_
    exact ⟨rfl, N4⟩
  · show Ends p e below s s₁ (mkF m 7 #[.val (.int p0), .unset, .unset, .unset] [(.int (2 : Int32))]) _ _ _
    refine Ends.go (fun _ k => XS.istoreN X0.here hx rfl (hb hby at_7) rfl (l' := #[.val (.int p0), .val (.int (2 : Int32)), .unset, .unset]) rfl k) ?_
    show Ends p e below s s₁ (mkF m 8 #[.val (.int p0), .val (.int (2 : Int32)), .unset, .unset] []) _ _ _
    refine Ends.go (fun _ k => XS.iloadN X0.here hx rfl (hb hby at_8) rfl k) ?_
    show Ends p e below s s₁ (mkF m 9 #[.val (.int p0), .val (.int (2 : Int32)), .unset, .unset] [(.int (2 : Int32))]) _ _ _
    refine Ends.go (fun _ k => XS.ifYes X0.here hx rfl (pc0 := 9) (pc' := 21) rfl (hb hby at_9) rfl ((if0 _ _).trans (feq (by decide : ¬ ((2 : Int32) = (0 : Int32)))).2) (by decide) (by decide) k) ?_
    show Ends p e below s s₁ (mkF m 21 #[.val (.int p0), .val (.int (2 : Int32)), .unset, .unset] []) _ _ _
    refine Ends.go (fun _ k => XS.iloadN X0.here hx rfl (hb hby at_21) rfl k) ?_
    show Ends p e below s s₁ (mkF m 22 #[.val (.int p0), .val (.int (2 : Int32)), .unset, .unset] [(.int (2 : Int32))]) _ _ _
    refine Ends.go (fun _ k => XS.iconst X0.here hx rfl (hb hby at_22) k) ?_
    show Ends p e below s s₁ (mkF m 23 #[.val (.int p0), .val (.int (2 : Int32)), .unset, .unset] [(.int (1 : Int32)), (.int (2 : Int32))]) _ _ _
    refine Ends.go (fun _ k => XS.icmpYes X0.here hx rfl (pc0 := 23) (pc' := 35) rfl (hb hby at_23) rfl (feq (by decide : ¬ ((2 : Int32) = (1 : Int32)))).2 (by decide) (by decide) k) ?_
    show Ends p e below s s₁ (mkF m 35 #[.val (.int p0), .val (.int (2 : Int32)), .unset, .unset] []) _ _ _
    refine Ends.go (fun _ k => XS.iloadN X0.here hx rfl (hb hby at_35) rfl k) ?_
    show Ends p e below s s₁ (mkF m 36 #[.val (.int p0), .val (.int (2 : Int32)), .unset, .unset] [(.int (2 : Int32))]) _ _ _
    refine Ends.go (fun _ k => XS.iconst X0.here hx rfl (hb hby at_36) k) ?_
    show Ends p e below s s₁ (mkF m 37 #[.val (.int p0), .val (.int (2 : Int32)), .unset, .unset] [(.int (2 : Int32)), (.int (2 : Int32))]) _ _ _
    refine Ends.go (fun _ k => XS.icmpNo X0.here hx rfl (hb hby at_37) rfl (teq (by decide : (2 : Int32) = (2 : Int32))).2 k) ?_
    show Ends p e below s s₁ (mkF m 40 #[.val (.int p0), .val (.int (2 : Int32)), .unset, .unset] []) _ _ _
    obtain ⟨T5, X5, e5, st5⟩ := getS2 X0 hx hZ hown (host := "") (Or.inl (hw _ (List.mem_of_getElem? (i := 19) rfl))) Via.refl e0 (S_BETWEEN.ext O0.2) (g := (mkF m 40 #[.val (.int p0), .val (.int (2 : Int32)), .unset, .unset] [])) rfl (hb hby at_40)
    refine Ends.go st5 ?_
    show Ends p e below s T5 (mkF m 43 #[.val (.int p0), .val (.int (2 : Int32)), .unset, .unset] [(.ref w_BETWEEN)]) _ _ _
    refine Ends.go (fun _ k => XS.astoreN X5.here hx rfl (hb hby at_43) rfl rfl (l' := #[.val (.int p0), .val (.int (2 : Int32)), .val (.ref w_BETWEEN), .unset]) rfl k) ?_
    show Ends p e below s T5 (mkF m 44 #[.val (.int p0), .val (.int (2 : Int32)), .val (.ref w_BETWEEN), .unset] []) _ _ _
    refine Ends.go (fun _ k => XS.iconst X5.here hx rfl (hb hby at_44) k) ?_
    show Ends p e below s T5 (mkF m 45 #[.val (.int p0), .val (.int (2 : Int32)), .val (.ref w_BETWEEN), .unset] [(.int (2 : Int32))]) _ _ _
    refine Ends.go (fun _ k => XS.istoreN X5.here hx rfl (hb hby at_45) rfl (l' := #[.val (.int p0), .val (.int (2 : Int32)), .val (.ref w_BETWEEN), .val (.int (2 : Int32))]) rfl k) ?_
    show Ends p e below s T5 (mkF m 46 #[.val (.int p0), .val (.int (2 : Int32)), .val (.ref w_BETWEEN), .val (.int (2 : Int32))] []) _ _ _
    refine Ends.go (fun _ k => XS.goto X5.here hx rfl (pc0 := 46) (pc' := 97) rfl (hb hby at_46) (by decide) (by decide) k) ?_
    show Ends p e below s T5 (mkF m 97 #[.val (.int p0), .val (.int (2 : Int32)), .val (.ref w_BETWEEN), .val (.int (2 : Int32))] []) _ _ _
    refine Ends.go (fun _ k => XS.aloadN X5.here hx rfl (hb hby at_97) rfl rfl k) ?_
    show Ends p e below s T5 (mkF m 98 #[.val (.int p0), .val (.int (2 : Int32)), .val (.ref w_BETWEEN), .val (.int (2 : Int32))] [(.ref w_BETWEEN)]) _ _ _
    obtain ⟨cq6, kq6, q6a, q6b, q6c⟩ := isOf hZ e5 (E_BETWEEN.ext O0.2)
    obtain ⟨_, _, ⟨T6, L6, k6, n6⟩, -, X6, ⟨Lc6, hQ6, l6, y6, z6⟩, st6⟩ := X5.virtualBack hx (y := (⟨"com/example/patterns_to_keys/patternstokeys/Comparison", "operands", "()I"⟩ : MethodName)) (z := (⟨"com/example/patterns_to_keys/patternstokeys/Comparison", "operands", "()I"⟩ : MethodName)) hown (mvT hZ (hw _ (List.mem_of_getElem? (i := 4) rfl))) (mvT hZ (hw _ (List.mem_of_getElem? (i := 5) rfl))) (notFace_of_selects (args := #[]) (mvT hZ (hw _ (List.mem_of_getElem? (i := 7) rfl)))) (mvT hZ (hw _ (List.mem_of_getElem? (i := 7) rfl))) (mvT hZ (hw _ (List.mem_of_getElem? (i := 6) rfl))) (by decide) (own_backOf (W := 0) (rm1 l Z a0 hw [] n0 h0 O0 w_BETWEEN w_EQUALS w_BETWEEN w_LT w_GT w_GE w_LE w_BEGINS_WITH FF0 (2 : Int32) (fun _ => rfl) (fun q => absurd rfl q)) hZ (hw _ (List.mem_of_getElem? (i := 8) rfl)) (hw _ (List.mem_of_getElem? (i := 2) rfl)) (by decide) (by decide)) q6a q6c (g := (mkF m 98 #[.val (.int p0), .val (.int (2 : Int32)), .val (.ref w_BETWEEN), .val (.int (2 : Int32))] [(.ref w_BETWEEN)])) rfl (by rw [hml]; rfl) (Steps.refl _) (argsL := []) (rest := []) (lenOf pd0_0 rfl) rfl (by show 2 * 0 + _ ≤ _; exact Nat.le_of_eq rfl) (hb hby at_98) (fun _ _ => ⟨rfl, e5, (by decide : 0 + 0 ≤ _), (by decide : 0 + 0 ≤ _)⟩)
    dsimp only [Pt.U, Pt.locs, Pt.cells, Pt.slots] at X6 l6 y6 z6 st6 hQ6
    subst l6 y6 z6
    obtain ⟨rfl, N6q, e6q⟩ := hQ6
    have N6 := Fr.app N0 N6q
    refine Ends.go (fun _ k => st6.trans k) ?_
    show Ends p e below s T6 (mkF m 101 #[.val (.int p0), .val (.int (2 : Int32)), .val (.ref w_BETWEEN), .val (.int (2 : Int32))] [(.int (2 : Int32))]) _ _ _
    refine Ends.go (fun _ k => XS.iloadN X6.here hx rfl (hb hby at_101) rfl k) ?_
    show Ends p e below s T6 (mkF m 102 #[.val (.int p0), .val (.int (2 : Int32)), .val (.ref w_BETWEEN), .val (.int (2 : Int32))] [(.int (2 : Int32)), (.int (2 : Int32))]) _ _ _
    refine Ends.go (fun _ k => XS.icmpNo X6.here hx rfl (hb hby at_102) rfl (teq (by decide : (2 : Int32) = (2 : Int32))).2 k) ?_
    show Ends p e below s T6 (mkF m 105 #[.val (.int p0), .val (.int (2 : Int32)), .val (.ref w_BETWEEN), .val (.int (2 : Int32))] []) _ _ _
    refine Ends.go (fun _ k => XS.iconst X6.here hx rfl (hb hby at_105) k) ?_
    show Ends p e below s T6 (mkF m 106 #[.val (.int p0), .val (.int (2 : Int32)), .val (.ref w_BETWEEN), .val (.int (2 : Int32))] [(.int (1 : Int32))]) _ _ _
    refine Ends.go (fun _ k => XS.goto X6.here hx rfl (pc0 := 106) (pc' := 110) rfl (hb hby at_106) (by decide) (by decide) k) ?_
    show Ends p e below s T6 (mkF m 110 #[.val (.int p0), .val (.int (2 : Int32)), .val (.ref w_BETWEEN), .val (.int (2 : Int32))] [(.int (1 : Int32))]) _ _ _
    refine Ends.retZ X6 hx Bd.notSynchronized (t := .boolean) Bd.returns (by simp) (hb hby at_110) (by decide) (by decide) ?_
    exact ⟨rfl, N6⟩
  · show Ends p e below s s₁ (mkF m 7 #[.val (.int p0), .unset, .unset, .unset] [(.int (3 : Int32))]) _ _ _
    refine Ends.go (fun _ k => XS.istoreN X0.here hx rfl (hb hby at_7) rfl (l' := #[.val (.int p0), .val (.int (3 : Int32)), .unset, .unset]) rfl k) ?_
    show Ends p e below s s₁ (mkF m 8 #[.val (.int p0), .val (.int (3 : Int32)), .unset, .unset] []) _ _ _
    refine Ends.go (fun _ k => XS.iloadN X0.here hx rfl (hb hby at_8) rfl k) ?_
    show Ends p e below s s₁ (mkF m 9 #[.val (.int p0), .val (.int (3 : Int32)), .unset, .unset] [(.int (3 : Int32))]) _ _ _
    refine Ends.go (fun _ k => XS.ifYes X0.here hx rfl (pc0 := 9) (pc' := 21) rfl (hb hby at_9) rfl ((if0 _ _).trans (feq (by decide : ¬ ((3 : Int32) = (0 : Int32)))).2) (by decide) (by decide) k) ?_
    show Ends p e below s s₁ (mkF m 21 #[.val (.int p0), .val (.int (3 : Int32)), .unset, .unset] []) _ _ _
    refine Ends.go (fun _ k => XS.iloadN X0.here hx rfl (hb hby at_21) rfl k) ?_
    show Ends p e below s s₁ (mkF m 22 #[.val (.int p0), .val (.int (3 : Int32)), .unset, .unset] [(.int (3 : Int32))]) _ _ _
    refine Ends.go (fun _ k => XS.iconst X0.here hx rfl (hb hby at_22) k) ?_
    show Ends p e below s s₁ (mkF m 23 #[.val (.int p0), .val (.int (3 : Int32)), .unset, .unset] [(.int (1 : Int32)), (.int (3 : Int32))]) _ _ _
    refine Ends.go (fun _ k => XS.icmpYes X0.here hx rfl (pc0 := 23) (pc' := 35) rfl (hb hby at_23) rfl (feq (by decide : ¬ ((3 : Int32) = (1 : Int32)))).2 (by decide) (by decide) k) ?_
    show Ends p e below s s₁ (mkF m 35 #[.val (.int p0), .val (.int (3 : Int32)), .unset, .unset] []) _ _ _
    refine Ends.go (fun _ k => XS.iloadN X0.here hx rfl (hb hby at_35) rfl k) ?_
    show Ends p e below s s₁ (mkF m 36 #[.val (.int p0), .val (.int (3 : Int32)), .unset, .unset] [(.int (3 : Int32))]) _ _ _
    refine Ends.go (fun _ k => XS.iconst X0.here hx rfl (hb hby at_36) k) ?_
    show Ends p e below s s₁ (mkF m 37 #[.val (.int p0), .val (.int (3 : Int32)), .unset, .unset] [(.int (2 : Int32)), (.int (3 : Int32))]) _ _ _
    refine Ends.go (fun _ k => XS.icmpYes X0.here hx rfl (pc0 := 37) (pc' := 49) rfl (hb hby at_37) rfl (feq (by decide : ¬ ((3 : Int32) = (2 : Int32)))).2 (by decide) (by decide) k) ?_
    show Ends p e below s s₁ (mkF m 49 #[.val (.int p0), .val (.int (3 : Int32)), .unset, .unset] []) _ _ _
    refine Ends.go (fun _ k => XS.iloadN X0.here hx rfl (hb hby at_49) rfl k) ?_
    show Ends p e below s s₁ (mkF m 50 #[.val (.int p0), .val (.int (3 : Int32)), .unset, .unset] [(.int (3 : Int32))]) _ _ _
    refine Ends.go (fun _ k => XS.iconst X0.here hx rfl (hb hby at_50) k) ?_
    show Ends p e below s s₁ (mkF m 51 #[.val (.int p0), .val (.int (3 : Int32)), .unset, .unset] [(.int (3 : Int32)), (.int (3 : Int32))]) _ _ _
    refine Ends.go (fun _ k => XS.icmpNo X0.here hx rfl (hb hby at_51) rfl (teq (by decide : (3 : Int32) = (3 : Int32))).2 k) ?_
    show Ends p e below s s₁ (mkF m 54 #[.val (.int p0), .val (.int (3 : Int32)), .unset, .unset] []) _ _ _
    obtain ⟨T7, X7, e7, st7⟩ := getS2 X0 hx hZ hown (host := "") (Or.inl (hw _ (List.mem_of_getElem? (i := 11) rfl))) Via.refl e0 (S_LT.ext O0.2) (g := (mkF m 54 #[.val (.int p0), .val (.int (3 : Int32)), .unset, .unset] [])) rfl (hb hby at_54)
    refine Ends.go st7 ?_
    show Ends p e below s T7 (mkF m 57 #[.val (.int p0), .val (.int (3 : Int32)), .unset, .unset] [(.ref w_LT)]) _ _ _
    refine Ends.go (fun _ k => XS.astoreN X7.here hx rfl (hb hby at_57) rfl rfl (l' := #[.val (.int p0), .val (.int (3 : Int32)), .val (.ref w_LT), .unset]) rfl k) ?_
    show Ends p e below s T7 (mkF m 58 #[.val (.int p0), .val (.int (3 : Int32)), .val (.ref w_LT), .unset] []) _ _ _
    refine Ends.go (fun _ k => XS.iconst X7.here hx rfl (hb hby at_58) k) ?_
    show Ends p e below s T7 (mkF m 59 #[.val (.int p0), .val (.int (3 : Int32)), .val (.ref w_LT), .unset] [(.int (1 : Int32))]) _ _ _
    refine Ends.go (fun _ k => XS.istoreN X7.here hx rfl (hb hby at_59) rfl (l' := #[.val (.int p0), .val (.int (3 : Int32)), .val (.ref w_LT), .val (.int (1 : Int32))]) rfl k) ?_
    show Ends p e below s T7 (mkF m 60 #[.val (.int p0), .val (.int (3 : Int32)), .val (.ref w_LT), .val (.int (1 : Int32))] []) _ _ _
    refine Ends.go (fun _ k => XS.goto X7.here hx rfl (pc0 := 60) (pc' := 97) rfl (hb hby at_60) (by decide) (by decide) k) ?_
    show Ends p e below s T7 (mkF m 97 #[.val (.int p0), .val (.int (3 : Int32)), .val (.ref w_LT), .val (.int (1 : Int32))] []) _ _ _
    refine Ends.go (fun _ k => XS.aloadN X7.here hx rfl (hb hby at_97) rfl rfl k) ?_
    show Ends p e below s T7 (mkF m 98 #[.val (.int p0), .val (.int (3 : Int32)), .val (.ref w_LT), .val (.int (1 : Int32))] [(.ref w_LT)]) _ _ _
    obtain ⟨cq8, kq8, q8a, q8b, q8c⟩ := isOf hZ e7 (E_LT.ext O0.2)
    obtain ⟨_, _, ⟨T8, L8, k8, n8⟩, -, X8, ⟨Lc8, hQ8, l8, y8, z8⟩, st8⟩ := X7.virtualBack hx (y := (⟨"com/example/patterns_to_keys/patternstokeys/Comparison", "operands", "()I"⟩ : MethodName)) (z := (⟨"com/example/patterns_to_keys/patternstokeys/Comparison", "operands", "()I"⟩ : MethodName)) hown (mvT hZ (hw _ (List.mem_of_getElem? (i := 4) rfl))) (mvT hZ (hw _ (List.mem_of_getElem? (i := 5) rfl))) (notFace_of_selects (args := #[]) (mvT hZ (hw _ (List.mem_of_getElem? (i := 7) rfl)))) (mvT hZ (hw _ (List.mem_of_getElem? (i := 7) rfl))) (mvT hZ (hw _ (List.mem_of_getElem? (i := 6) rfl))) (by decide) (own_backOf (W := 0) (rm1 l Z a0 hw [] n0 h0 O0 w_LT w_EQUALS w_BETWEEN w_LT w_GT w_GE w_LE w_BEGINS_WITH FF0 (1 : Int32) (fun q => absurd q (Fld.ne F_ordinal_LT F_ordinal_BETWEEN (by decide))) (fun _ => rfl)) hZ (hw _ (List.mem_of_getElem? (i := 8) rfl)) (hw _ (List.mem_of_getElem? (i := 2) rfl)) (by decide) (by decide)) q8a q8c (g := (mkF m 98 #[.val (.int p0), .val (.int (3 : Int32)), .val (.ref w_LT), .val (.int (1 : Int32))] [(.ref w_LT)])) rfl (by rw [hml]; rfl) (Steps.refl _) (argsL := []) (rest := []) (lenOf pd0_0 rfl) rfl (by show 2 * 0 + _ ≤ _; exact Nat.le_of_eq rfl) (hb hby at_98) (fun _ _ => ⟨rfl, e7, (by decide : 0 + 0 ≤ _), (by decide : 0 + 0 ≤ _)⟩)
    dsimp only [Pt.U, Pt.locs, Pt.cells, Pt.slots] at X8 l8 y8 z8 st8 hQ8
    subst l8 y8 z8
    obtain ⟨rfl, N8q, e8q⟩ := hQ8
    have N8 := Fr.app N0 N8q
    refine Ends.go (fun _ k => st8.trans k) ?_
    show Ends p e below s T8 (mkF m 101 #[.val (.int p0), .val (.int (3 : Int32)), .val (.ref w_LT), .val (.int (1 : Int32))] [(.int (1 : Int32))]) _ _ _
    refine Ends.go (fun _ k => XS.iloadN X8.here hx rfl (hb hby at_101) rfl k) ?_
    show Ends p e below s T8 (mkF m 102 #[.val (.int p0), .val (.int (3 : Int32)), .val (.ref w_LT), .val (.int (1 : Int32))] [(.int (1 : Int32)), (.int (1 : Int32))]) _ _ _
    refine Ends.go (fun _ k => XS.icmpNo X8.here hx rfl (hb hby at_102) rfl (teq (by decide : (1 : Int32) = (1 : Int32))).2 k) ?_
    show Ends p e below s T8 (mkF m 105 #[.val (.int p0), .val (.int (3 : Int32)), .val (.ref w_LT), .val (.int (1 : Int32))] []) _ _ _
    refine Ends.go (fun _ k => XS.iconst X8.here hx rfl (hb hby at_105) k) ?_
    show Ends p e below s T8 (mkF m 106 #[.val (.int p0), .val (.int (3 : Int32)), .val (.ref w_LT), .val (.int (1 : Int32))] [(.int (1 : Int32))]) _ _ _
    refine Ends.go (fun _ k => XS.goto X8.here hx rfl (pc0 := 106) (pc' := 110) rfl (hb hby at_106) (by decide) (by decide) k) ?_
    show Ends p e below s T8 (mkF m 110 #[.val (.int p0), .val (.int (3 : Int32)), .val (.ref w_LT), .val (.int (1 : Int32))] [(.int (1 : Int32))]) _ _ _
    refine Ends.retZ X8 hx Bd.notSynchronized (t := .boolean) Bd.returns (by simp) (hb hby at_110) (by decide) (by decide) ?_
    exact ⟨rfl, N8⟩
  · show Ends p e below s s₁ (mkF m 7 #[.val (.int p0), .unset, .unset, .unset] [(.int (4 : Int32))]) _ _ _
    refine Ends.go (fun _ k => XS.istoreN X0.here hx rfl (hb hby at_7) rfl (l' := #[.val (.int p0), .val (.int (4 : Int32)), .unset, .unset]) rfl k) ?_
    show Ends p e below s s₁ (mkF m 8 #[.val (.int p0), .val (.int (4 : Int32)), .unset, .unset] []) _ _ _
    refine Ends.go (fun _ k => XS.iloadN X0.here hx rfl (hb hby at_8) rfl k) ?_
    show Ends p e below s s₁ (mkF m 9 #[.val (.int p0), .val (.int (4 : Int32)), .unset, .unset] [(.int (4 : Int32))]) _ _ _
    refine Ends.go (fun _ k => XS.ifYes X0.here hx rfl (pc0 := 9) (pc' := 21) rfl (hb hby at_9) rfl ((if0 _ _).trans (feq (by decide : ¬ ((4 : Int32) = (0 : Int32)))).2) (by decide) (by decide) k) ?_
    show Ends p e below s s₁ (mkF m 21 #[.val (.int p0), .val (.int (4 : Int32)), .unset, .unset] []) _ _ _
    refine Ends.go (fun _ k => XS.iloadN X0.here hx rfl (hb hby at_21) rfl k) ?_
    show Ends p e below s s₁ (mkF m 22 #[.val (.int p0), .val (.int (4 : Int32)), .unset, .unset] [(.int (4 : Int32))]) _ _ _
    refine Ends.go (fun _ k => XS.iconst X0.here hx rfl (hb hby at_22) k) ?_
    show Ends p e below s s₁ (mkF m 23 #[.val (.int p0), .val (.int (4 : Int32)), .unset, .unset] [(.int (1 : Int32)), (.int (4 : Int32))]) _ _ _
    refine Ends.go (fun _ k => XS.icmpYes X0.here hx rfl (pc0 := 23) (pc' := 35) rfl (hb hby at_23) rfl (feq (by decide : ¬ ((4 : Int32) = (1 : Int32)))).2 (by decide) (by decide) k) ?_
    show Ends p e below s s₁ (mkF m 35 #[.val (.int p0), .val (.int (4 : Int32)), .unset, .unset] []) _ _ _
    refine Ends.go (fun _ k => XS.iloadN X0.here hx rfl (hb hby at_35) rfl k) ?_
    show Ends p e below s s₁ (mkF m 36 #[.val (.int p0), .val (.int (4 : Int32)), .unset, .unset] [(.int (4 : Int32))]) _ _ _
    refine Ends.go (fun _ k => XS.iconst X0.here hx rfl (hb hby at_36) k) ?_
    show Ends p e below s s₁ (mkF m 37 #[.val (.int p0), .val (.int (4 : Int32)), .unset, .unset] [(.int (2 : Int32)), (.int (4 : Int32))]) _ _ _
    refine Ends.go (fun _ k => XS.icmpYes X0.here hx rfl (pc0 := 37) (pc' := 49) rfl (hb hby at_37) rfl (feq (by decide : ¬ ((4 : Int32) = (2 : Int32)))).2 (by decide) (by decide) k) ?_
    show Ends p e below s s₁ (mkF m 49 #[.val (.int p0), .val (.int (4 : Int32)), .unset, .unset] []) _ _ _
    refine Ends.go (fun _ k => XS.iloadN X0.here hx rfl (hb hby at_49) rfl k) ?_
    show Ends p e below s s₁ (mkF m 50 #[.val (.int p0), .val (.int (4 : Int32)), .unset, .unset] [(.int (4 : Int32))]) _ _ _
    refine Ends.go (fun _ k => XS.iconst X0.here hx rfl (hb hby at_50) k) ?_
    show Ends p e below s s₁ (mkF m 51 #[.val (.int p0), .val (.int (4 : Int32)), .unset, .unset] [(.int (3 : Int32)), (.int (4 : Int32))]) _ _ _
    refine Ends.go (fun _ k => XS.icmpYes X0.here hx rfl (pc0 := 51) (pc' := 63) rfl (hb hby at_51) rfl (feq (by decide : ¬ ((4 : Int32) = (3 : Int32)))).2 (by decide) (by decide) k) ?_
    show Ends p e below s s₁ (mkF m 63 #[.val (.int p0), .val (.int (4 : Int32)), .unset, .unset] []) _ _ _
    refine Ends.go (fun _ k => XS.iloadN X0.here hx rfl (hb hby at_63) rfl k) ?_
    show Ends p e below s s₁ (mkF m 64 #[.val (.int p0), .val (.int (4 : Int32)), .unset, .unset] [(.int (4 : Int32))]) _ _ _
    refine Ends.go (fun _ k => XS.iconst X0.here hx rfl (hb hby at_64) k) ?_
    show Ends p e below s s₁ (mkF m 65 #[.val (.int p0), .val (.int (4 : Int32)), .unset, .unset] [(.int (4 : Int32)), (.int (4 : Int32))]) _ _ _
    refine Ends.go (fun _ k => XS.icmpNo X0.here hx rfl (hb hby at_65) rfl (teq (by decide : (4 : Int32) = (4 : Int32))).2 k) ?_
    show Ends p e below s s₁ (mkF m 68 #[.val (.int p0), .val (.int (4 : Int32)), .unset, .unset] []) _ _ _
    obtain ⟨T9, X9, e9, st9⟩ := getS2 X0 hx hZ hown (host := "") (Or.inl (hw _ (List.mem_of_getElem? (i := 17) rfl))) Via.refl e0 (S_LE.ext O0.2) (g := (mkF m 68 #[.val (.int p0), .val (.int (4 : Int32)), .unset, .unset] [])) rfl (hb hby at_68)
    refine Ends.go st9 ?_
    show Ends p e below s T9 (mkF m 71 #[.val (.int p0), .val (.int (4 : Int32)), .unset, .unset] [(.ref w_LE)]) _ _ _
    refine Ends.go (fun _ k => XS.astoreN X9.here hx rfl (hb hby at_71) rfl rfl (l' := #[.val (.int p0), .val (.int (4 : Int32)), .val (.ref w_LE), .unset]) rfl k) ?_
    show Ends p e below s T9 (mkF m 72 #[.val (.int p0), .val (.int (4 : Int32)), .val (.ref w_LE), .unset] []) _ _ _
    refine Ends.go (fun _ k => XS.iconst X9.here hx rfl (hb hby at_72) k) ?_
    show Ends p e below s T9 (mkF m 73 #[.val (.int p0), .val (.int (4 : Int32)), .val (.ref w_LE), .unset] [(.int (1 : Int32))]) _ _ _
    refine Ends.go (fun _ k => XS.istoreN X9.here hx rfl (hb hby at_73) rfl (l' := #[.val (.int p0), .val (.int (4 : Int32)), .val (.ref w_LE), .val (.int (1 : Int32))]) rfl k) ?_
    show Ends p e below s T9 (mkF m 74 #[.val (.int p0), .val (.int (4 : Int32)), .val (.ref w_LE), .val (.int (1 : Int32))] []) _ _ _
    refine Ends.go (fun _ k => XS.goto X9.here hx rfl (pc0 := 74) (pc' := 97) rfl (hb hby at_74) (by decide) (by decide) k) ?_
    show Ends p e below s T9 (mkF m 97 #[.val (.int p0), .val (.int (4 : Int32)), .val (.ref w_LE), .val (.int (1 : Int32))] []) _ _ _
    refine Ends.go (fun _ k => XS.aloadN X9.here hx rfl (hb hby at_97) rfl rfl k) ?_
    show Ends p e below s T9 (mkF m 98 #[.val (.int p0), .val (.int (4 : Int32)), .val (.ref w_LE), .val (.int (1 : Int32))] [(.ref w_LE)]) _ _ _
    obtain ⟨cq10, kq10, q10a, q10b, q10c⟩ := isOf hZ e9 (E_LE.ext O0.2)
    obtain ⟨_, _, ⟨T10, L10, k10, n10⟩, -, X10, ⟨Lc10, hQ10, l10, y10, z10⟩, st10⟩ := X9.virtualBack hx (y := (⟨"com/example/patterns_to_keys/patternstokeys/Comparison", "operands", "()I"⟩ : MethodName)) (z := (⟨"com/example/patterns_to_keys/patternstokeys/Comparison", "operands", "()I"⟩ : MethodName)) hown (mvT hZ (hw _ (List.mem_of_getElem? (i := 4) rfl))) (mvT hZ (hw _ (List.mem_of_getElem? (i := 5) rfl))) (notFace_of_selects (args := #[]) (mvT hZ (hw _ (List.mem_of_getElem? (i := 7) rfl)))) (mvT hZ (hw _ (List.mem_of_getElem? (i := 7) rfl))) (mvT hZ (hw _ (List.mem_of_getElem? (i := 6) rfl))) (by decide) (own_backOf (W := 0) (rm1 l Z a0 hw [] n0 h0 O0 w_LE w_EQUALS w_BETWEEN w_LT w_GT w_GE w_LE w_BEGINS_WITH FF0 (1 : Int32) (fun q => absurd q (Fld.ne F_ordinal_LE F_ordinal_BETWEEN (by decide))) (fun _ => rfl)) hZ (hw _ (List.mem_of_getElem? (i := 8) rfl)) (hw _ (List.mem_of_getElem? (i := 2) rfl)) (by decide) (by decide)) q10a q10c (g := (mkF m 98 #[.val (.int p0), .val (.int (4 : Int32)), .val (.ref w_LE), .val (.int (1 : Int32))] [(.ref w_LE)])) rfl (by rw [hml]; rfl) (Steps.refl _) (argsL := []) (rest := []) (lenOf pd0_0 rfl) rfl (by show 2 * 0 + _ ≤ _; exact Nat.le_of_eq rfl) (hb hby at_98) (fun _ _ => ⟨rfl, e9, (by decide : 0 + 0 ≤ _), (by decide : 0 + 0 ≤ _)⟩)
    dsimp only [Pt.U, Pt.locs, Pt.cells, Pt.slots] at X10 l10 y10 z10 st10 hQ10
    subst l10 y10 z10
    obtain ⟨rfl, N10q, e10q⟩ := hQ10
    have N10 := Fr.app N0 N10q
    refine Ends.go (fun _ k => st10.trans k) ?_
    show Ends p e below s T10 (mkF m 101 #[.val (.int p0), .val (.int (4 : Int32)), .val (.ref w_LE), .val (.int (1 : Int32))] [(.int (1 : Int32))]) _ _ _
    refine Ends.go (fun _ k => XS.iloadN X10.here hx rfl (hb hby at_101) rfl k) ?_
    show Ends p e below s T10 (mkF m 102 #[.val (.int p0), .val (.int (4 : Int32)), .val (.ref w_LE), .val (.int (1 : Int32))] [(.int (1 : Int32)), (.int (1 : Int32))]) _ _ _
    refine Ends.go (fun _ k => XS.icmpNo X10.here hx rfl (hb hby at_102) rfl (teq (by decide : (1 : Int32) = (1 : Int32))).2 k) ?_
    show Ends p e below s T10 (mkF m 105 #[.val (.int p0), .val (.int (4 : Int32)), .val (.ref w_LE), .val (.int (1 : Int32))] []) _ _ _
    refine Ends.go (fun _ k => XS.iconst X10.here hx rfl (hb hby at_105) k) ?_
    show Ends p e below s T10 (mkF m 106 #[.val (.int p0), .val (.int (4 : Int32)), .val (.ref w_LE), .val (.int (1 : Int32))] [(.int (1 : Int32))]) _ _ _
    refine Ends.go (fun _ k => XS.goto X10.here hx rfl (pc0 := 106) (pc' := 110) rfl (hb hby at_106) (by decide) (by decide) k) ?_
    show Ends p e below s T10 (mkF m 110 #[.val (.int p0), .val (.int (4 : Int32)), .val (.ref w_LE), .val (.int (1 : Int32))] [(.int (1 : Int32))]) _ _ _
    refine Ends.retZ X10 hx Bd.notSynchronized (t := .boolean) Bd.returns (by simp) (hb hby at_110) (by decide) (by decide) ?_
    exact ⟨rfl, N10⟩
  · show Ends p e below s s₁ (mkF m 7 #[.val (.int p0), .unset, .unset, .unset] [(.int (5 : Int32))]) _ _ _
    refine Ends.go (fun _ k => XS.istoreN X0.here hx rfl (hb hby at_7) rfl (l' := #[.val (.int p0), .val (.int (5 : Int32)), .unset, .unset]) rfl k) ?_
    show Ends p e below s s₁ (mkF m 8 #[.val (.int p0), .val (.int (5 : Int32)), .unset, .unset] []) _ _ _
    refine Ends.go (fun _ k => XS.iloadN X0.here hx rfl (hb hby at_8) rfl k) ?_
    show Ends p e below s s₁ (mkF m 9 #[.val (.int p0), .val (.int (5 : Int32)), .unset, .unset] [(.int (5 : Int32))]) _ _ _
    refine Ends.go (fun _ k => XS.ifYes X0.here hx rfl (pc0 := 9) (pc' := 21) rfl (hb hby at_9) rfl ((if0 _ _).trans (feq (by decide : ¬ ((5 : Int32) = (0 : Int32)))).2) (by decide) (by decide) k) ?_
    show Ends p e below s s₁ (mkF m 21 #[.val (.int p0), .val (.int (5 : Int32)), .unset, .unset] []) _ _ _
    refine Ends.go (fun _ k => XS.iloadN X0.here hx rfl (hb hby at_21) rfl k) ?_
    show Ends p e below s s₁ (mkF m 22 #[.val (.int p0), .val (.int (5 : Int32)), .unset, .unset] [(.int (5 : Int32))]) _ _ _
    refine Ends.go (fun _ k => XS.iconst X0.here hx rfl (hb hby at_22) k) ?_
    show Ends p e below s s₁ (mkF m 23 #[.val (.int p0), .val (.int (5 : Int32)), .unset, .unset] [(.int (1 : Int32)), (.int (5 : Int32))]) _ _ _
    refine Ends.go (fun _ k => XS.icmpYes X0.here hx rfl (pc0 := 23) (pc' := 35) rfl (hb hby at_23) rfl (feq (by decide : ¬ ((5 : Int32) = (1 : Int32)))).2 (by decide) (by decide) k) ?_
    show Ends p e below s s₁ (mkF m 35 #[.val (.int p0), .val (.int (5 : Int32)), .unset, .unset] []) _ _ _
    refine Ends.go (fun _ k => XS.iloadN X0.here hx rfl (hb hby at_35) rfl k) ?_
    show Ends p e below s s₁ (mkF m 36 #[.val (.int p0), .val (.int (5 : Int32)), .unset, .unset] [(.int (5 : Int32))]) _ _ _
    refine Ends.go (fun _ k => XS.iconst X0.here hx rfl (hb hby at_36) k) ?_
    show Ends p e below s s₁ (mkF m 37 #[.val (.int p0), .val (.int (5 : Int32)), .unset, .unset] [(.int (2 : Int32)), (.int (5 : Int32))]) _ _ _
    refine Ends.go (fun _ k => XS.icmpYes X0.here hx rfl (pc0 := 37) (pc' := 49) rfl (hb hby at_37) rfl (feq (by decide : ¬ ((5 : Int32) = (2 : Int32)))).2 (by decide) (by decide) k) ?_
    show Ends p e below s s₁ (mkF m 49 #[.val (.int p0), .val (.int (5 : Int32)), .unset, .unset] []) _ _ _
    refine Ends.go (fun _ k => XS.iloadN X0.here hx rfl (hb hby at_49) rfl k) ?_
    show Ends p e below s s₁ (mkF m 50 #[.val (.int p0), .val (.int (5 : Int32)), .unset, .unset] [(.int (5 : Int32))]) _ _ _
    refine Ends.go (fun _ k => XS.iconst X0.here hx rfl (hb hby at_50) k) ?_
    show Ends p e below s s₁ (mkF m 51 #[.val (.int p0), .val (.int (5 : Int32)), .unset, .unset] [(.int (3 : Int32)), (.int (5 : Int32))]) _ _ _
    refine Ends.go (fun _ k => XS.icmpYes X0.here hx rfl (pc0 := 51) (pc' := 63) rfl (hb hby at_51) rfl (feq (by decide : ¬ ((5 : Int32) = (3 : Int32)))).2 (by decide) (by decide) k) ?_
    show Ends p e below s s₁ (mkF m 63 #[.val (.int p0), .val (.int (5 : Int32)), .unset, .unset] []) _ _ _
    refine Ends.go (fun _ k => XS.iloadN X0.here hx rfl (hb hby at_63) rfl k) ?_
    show Ends p e below s s₁ (mkF m 64 #[.val (.int p0), .val (.int (5 : Int32)), .unset, .unset] [(.int (5 : Int32))]) _ _ _
    refine Ends.go (fun _ k => XS.iconst X0.here hx rfl (hb hby at_64) k) ?_
    show Ends p e below s s₁ (mkF m 65 #[.val (.int p0), .val (.int (5 : Int32)), .unset, .unset] [(.int (4 : Int32)), (.int (5 : Int32))]) _ _ _
    refine Ends.go (fun _ k => XS.icmpYes X0.here hx rfl (pc0 := 65) (pc' := 77) rfl (hb hby at_65) rfl (feq (by decide : ¬ ((5 : Int32) = (4 : Int32)))).2 (by decide) (by decide) k) ?_
    show Ends p e below s s₁ (mkF m 77 #[.val (.int p0), .val (.int (5 : Int32)), .unset, .unset] []) _ _ _
    refine Ends.go (fun _ k => XS.iloadN X0.here hx rfl (hb hby at_77) rfl k) ?_
    show Ends p e below s s₁ (mkF m 78 #[.val (.int p0), .val (.int (5 : Int32)), .unset, .unset] [(.int (5 : Int32))]) _ _ _
    refine Ends.go (fun _ k => XS.iconst X0.here hx rfl (hb hby at_78) k) ?_
    show Ends p e below s s₁ (mkF m 79 #[.val (.int p0), .val (.int (5 : Int32)), .unset, .unset] [(.int (5 : Int32)), (.int (5 : Int32))]) _ _ _
    refine Ends.go (fun _ k => XS.icmpNo X0.here hx rfl (hb hby at_79) rfl (teq (by decide : (5 : Int32) = (5 : Int32))).2 k) ?_
    show Ends p e below s s₁ (mkF m 82 #[.val (.int p0), .val (.int (5 : Int32)), .unset, .unset] []) _ _ _
    obtain ⟨T11, X11, e11, st11⟩ := getS2 X0 hx hZ hown (host := "") (Or.inl (hw _ (List.mem_of_getElem? (i := 13) rfl))) Via.refl e0 (S_GT.ext O0.2) (g := (mkF m 82 #[.val (.int p0), .val (.int (5 : Int32)), .unset, .unset] [])) rfl (hb hby at_82)
    refine Ends.go st11 ?_
    show Ends p e below s T11 (mkF m 85 #[.val (.int p0), .val (.int (5 : Int32)), .unset, .unset] [(.ref w_GT)]) _ _ _
    refine Ends.go (fun _ k => XS.astoreN X11.here hx rfl (hb hby at_85) rfl rfl (l' := #[.val (.int p0), .val (.int (5 : Int32)), .val (.ref w_GT), .unset]) rfl k) ?_
    show Ends p e below s T11 (mkF m 86 #[.val (.int p0), .val (.int (5 : Int32)), .val (.ref w_GT), .unset] []) _ _ _
    refine Ends.go (fun _ k => XS.iconst X11.here hx rfl (hb hby at_86) k) ?_
    show Ends p e below s T11 (mkF m 87 #[.val (.int p0), .val (.int (5 : Int32)), .val (.ref w_GT), .unset] [(.int (1 : Int32))]) _ _ _
    refine Ends.go (fun _ k => XS.istoreN X11.here hx rfl (hb hby at_87) rfl (l' := #[.val (.int p0), .val (.int (5 : Int32)), .val (.ref w_GT), .val (.int (1 : Int32))]) rfl k) ?_
    show Ends p e below s T11 (mkF m 88 #[.val (.int p0), .val (.int (5 : Int32)), .val (.ref w_GT), .val (.int (1 : Int32))] []) _ _ _
    refine Ends.go (fun _ k => XS.goto X11.here hx rfl (pc0 := 88) (pc' := 97) rfl (hb hby at_88) (by decide) (by decide) k) ?_
    show Ends p e below s T11 (mkF m 97 #[.val (.int p0), .val (.int (5 : Int32)), .val (.ref w_GT), .val (.int (1 : Int32))] []) _ _ _
    refine Ends.go (fun _ k => XS.aloadN X11.here hx rfl (hb hby at_97) rfl rfl k) ?_
    show Ends p e below s T11 (mkF m 98 #[.val (.int p0), .val (.int (5 : Int32)), .val (.ref w_GT), .val (.int (1 : Int32))] [(.ref w_GT)]) _ _ _
    obtain ⟨cq12, kq12, q12a, q12b, q12c⟩ := isOf hZ e11 (E_GT.ext O0.2)
    obtain ⟨_, _, ⟨T12, L12, k12, n12⟩, -, X12, ⟨Lc12, hQ12, l12, y12, z12⟩, st12⟩ := X11.virtualBack hx (y := (⟨"com/example/patterns_to_keys/patternstokeys/Comparison", "operands", "()I"⟩ : MethodName)) (z := (⟨"com/example/patterns_to_keys/patternstokeys/Comparison", "operands", "()I"⟩ : MethodName)) hown (mvT hZ (hw _ (List.mem_of_getElem? (i := 4) rfl))) (mvT hZ (hw _ (List.mem_of_getElem? (i := 5) rfl))) (notFace_of_selects (args := #[]) (mvT hZ (hw _ (List.mem_of_getElem? (i := 7) rfl)))) (mvT hZ (hw _ (List.mem_of_getElem? (i := 7) rfl))) (mvT hZ (hw _ (List.mem_of_getElem? (i := 6) rfl))) (by decide) (own_backOf (W := 0) (rm1 l Z a0 hw [] n0 h0 O0 w_GT w_EQUALS w_BETWEEN w_LT w_GT w_GE w_LE w_BEGINS_WITH FF0 (1 : Int32) (fun q => absurd q (Fld.ne F_ordinal_GT F_ordinal_BETWEEN (by decide))) (fun _ => rfl)) hZ (hw _ (List.mem_of_getElem? (i := 8) rfl)) (hw _ (List.mem_of_getElem? (i := 2) rfl)) (by decide) (by decide)) q12a q12c (g := (mkF m 98 #[.val (.int p0), .val (.int (5 : Int32)), .val (.ref w_GT), .val (.int (1 : Int32))] [(.ref w_GT)])) rfl (by rw [hml]; rfl) (Steps.refl _) (argsL := []) (rest := []) (lenOf pd0_0 rfl) rfl (by show 2 * 0 + _ ≤ _; exact Nat.le_of_eq rfl) (hb hby at_98) (fun _ _ => ⟨rfl, e11, (by decide : 0 + 0 ≤ _), (by decide : 0 + 0 ≤ _)⟩)
    dsimp only [Pt.U, Pt.locs, Pt.cells, Pt.slots] at X12 l12 y12 z12 st12 hQ12
    subst l12 y12 z12
    obtain ⟨rfl, N12q, e12q⟩ := hQ12
    have N12 := Fr.app N0 N12q
    refine Ends.go (fun _ k => st12.trans k) ?_
    show Ends p e below s T12 (mkF m 101 #[.val (.int p0), .val (.int (5 : Int32)), .val (.ref w_GT), .val (.int (1 : Int32))] [(.int (1 : Int32))]) _ _ _
    refine Ends.go (fun _ k => XS.iloadN X12.here hx rfl (hb hby at_101) rfl k) ?_
    show Ends p e below s T12 (mkF m 102 #[.val (.int p0), .val (.int (5 : Int32)), .val (.ref w_GT), .val (.int (1 : Int32))] [(.int (1 : Int32)), (.int (1 : Int32))]) _ _ _
    refine Ends.go (fun _ k => XS.icmpNo X12.here hx rfl (hb hby at_102) rfl (teq (by decide : (1 : Int32) = (1 : Int32))).2 k) ?_
    show Ends p e below s T12 (mkF m 105 #[.val (.int p0), .val (.int (5 : Int32)), .val (.ref w_GT), .val (.int (1 : Int32))] []) _ _ _
    refine Ends.go (fun _ k => XS.iconst X12.here hx rfl (hb hby at_105) k) ?_
    show Ends p e below s T12 (mkF m 106 #[.val (.int p0), .val (.int (5 : Int32)), .val (.ref w_GT), .val (.int (1 : Int32))] [(.int (1 : Int32))]) _ _ _
    refine Ends.go (fun _ k => XS.goto X12.here hx rfl (pc0 := 106) (pc' := 110) rfl (hb hby at_106) (by decide) (by decide) k) ?_
    show Ends p e below s T12 (mkF m 110 #[.val (.int p0), .val (.int (5 : Int32)), .val (.ref w_GT), .val (.int (1 : Int32))] [(.int (1 : Int32))]) _ _ _
    refine Ends.retZ X12 hx Bd.notSynchronized (t := .boolean) Bd.returns (by simp) (hb hby at_110) (by decide) (by decide) ?_
    exact ⟨rfl, N12⟩
  · show Ends p e below s s₁ (mkF m 7 #[.val (.int p0), .unset, .unset, .unset] [(.int (6 : Int32))]) _ _ _
    refine Ends.go (fun _ k => XS.istoreN X0.here hx rfl (hb hby at_7) rfl (l' := #[.val (.int p0), .val (.int (6 : Int32)), .unset, .unset]) rfl k) ?_
    show Ends p e below s s₁ (mkF m 8 #[.val (.int p0), .val (.int (6 : Int32)), .unset, .unset] []) _ _ _
    refine Ends.go (fun _ k => XS.iloadN X0.here hx rfl (hb hby at_8) rfl k) ?_
    show Ends p e below s s₁ (mkF m 9 #[.val (.int p0), .val (.int (6 : Int32)), .unset, .unset] [(.int (6 : Int32))]) _ _ _
    refine Ends.go (fun _ k => XS.ifYes X0.here hx rfl (pc0 := 9) (pc' := 21) rfl (hb hby at_9) rfl ((if0 _ _).trans (feq (by decide : ¬ ((6 : Int32) = (0 : Int32)))).2) (by decide) (by decide) k) ?_
    show Ends p e below s s₁ (mkF m 21 #[.val (.int p0), .val (.int (6 : Int32)), .unset, .unset] []) _ _ _
    refine Ends.go (fun _ k => XS.iloadN X0.here hx rfl (hb hby at_21) rfl k) ?_
    show Ends p e below s s₁ (mkF m 22 #[.val (.int p0), .val (.int (6 : Int32)), .unset, .unset] [(.int (6 : Int32))]) _ _ _
    refine Ends.go (fun _ k => XS.iconst X0.here hx rfl (hb hby at_22) k) ?_
    show Ends p e below s s₁ (mkF m 23 #[.val (.int p0), .val (.int (6 : Int32)), .unset, .unset] [(.int (1 : Int32)), (.int (6 : Int32))]) _ _ _
    refine Ends.go (fun _ k => XS.icmpYes X0.here hx rfl (pc0 := 23) (pc' := 35) rfl (hb hby at_23) rfl (feq (by decide : ¬ ((6 : Int32) = (1 : Int32)))).2 (by decide) (by decide) k) ?_
    show Ends p e below s s₁ (mkF m 35 #[.val (.int p0), .val (.int (6 : Int32)), .unset, .unset] []) _ _ _
    refine Ends.go (fun _ k => XS.iloadN X0.here hx rfl (hb hby at_35) rfl k) ?_
    show Ends p e below s s₁ (mkF m 36 #[.val (.int p0), .val (.int (6 : Int32)), .unset, .unset] [(.int (6 : Int32))]) _ _ _
    refine Ends.go (fun _ k => XS.iconst X0.here hx rfl (hb hby at_36) k) ?_
    show Ends p e below s s₁ (mkF m 37 #[.val (.int p0), .val (.int (6 : Int32)), .unset, .unset] [(.int (2 : Int32)), (.int (6 : Int32))]) _ _ _
    refine Ends.go (fun _ k => XS.icmpYes X0.here hx rfl (pc0 := 37) (pc' := 49) rfl (hb hby at_37) rfl (feq (by decide : ¬ ((6 : Int32) = (2 : Int32)))).2 (by decide) (by decide) k) ?_
    show Ends p e below s s₁ (mkF m 49 #[.val (.int p0), .val (.int (6 : Int32)), .unset, .unset] []) _ _ _
    refine Ends.go (fun _ k => XS.iloadN X0.here hx rfl (hb hby at_49) rfl k) ?_
    show Ends p e below s s₁ (mkF m 50 #[.val (.int p0), .val (.int (6 : Int32)), .unset, .unset] [(.int (6 : Int32))]) _ _ _
    refine Ends.go (fun _ k => XS.iconst X0.here hx rfl (hb hby at_50) k) ?_
    show Ends p e below s s₁ (mkF m 51 #[.val (.int p0), .val (.int (6 : Int32)), .unset, .unset] [(.int (3 : Int32)), (.int (6 : Int32))]) _ _ _
    refine Ends.go (fun _ k => XS.icmpYes X0.here hx rfl (pc0 := 51) (pc' := 63) rfl (hb hby at_51) rfl (feq (by decide : ¬ ((6 : Int32) = (3 : Int32)))).2 (by decide) (by decide) k) ?_
    show Ends p e below s s₁ (mkF m 63 #[.val (.int p0), .val (.int (6 : Int32)), .unset, .unset] []) _ _ _
    refine Ends.go (fun _ k => XS.iloadN X0.here hx rfl (hb hby at_63) rfl k) ?_
    show Ends p e below s s₁ (mkF m 64 #[.val (.int p0), .val (.int (6 : Int32)), .unset, .unset] [(.int (6 : Int32))]) _ _ _
    refine Ends.go (fun _ k => XS.iconst X0.here hx rfl (hb hby at_64) k) ?_
    show Ends p e below s s₁ (mkF m 65 #[.val (.int p0), .val (.int (6 : Int32)), .unset, .unset] [(.int (4 : Int32)), (.int (6 : Int32))]) _ _ _
    refine Ends.go (fun _ k => XS.icmpYes X0.here hx rfl (pc0 := 65) (pc' := 77) rfl (hb hby at_65) rfl (feq (by decide : ¬ ((6 : Int32) = (4 : Int32)))).2 (by decide) (by decide) k) ?_
    show Ends p e below s s₁ (mkF m 77 #[.val (.int p0), .val (.int (6 : Int32)), .unset, .unset] []) _ _ _
    refine Ends.go (fun _ k => XS.iloadN X0.here hx rfl (hb hby at_77) rfl k) ?_
    show Ends p e below s s₁ (mkF m 78 #[.val (.int p0), .val (.int (6 : Int32)), .unset, .unset] [(.int (6 : Int32))]) _ _ _
    refine Ends.go (fun _ k => XS.iconst X0.here hx rfl (hb hby at_78) k) ?_
    show Ends p e below s s₁ (mkF m 79 #[.val (.int p0), .val (.int (6 : Int32)), .unset, .unset] [(.int (5 : Int32)), (.int (6 : Int32))]) _ _ _
    refine Ends.go (fun _ k => XS.icmpYes X0.here hx rfl (pc0 := 79) (pc' := 91) rfl (hb hby at_79) rfl (feq (by decide : ¬ ((6 : Int32) = (5 : Int32)))).2 (by decide) (by decide) k) ?_
    show Ends p e below s s₁ (mkF m 91 #[.val (.int p0), .val (.int (6 : Int32)), .unset, .unset] []) _ _ _
    obtain ⟨T13, X13, e13, st13⟩ := getS2 X0 hx hZ hown (host := "") (Or.inl (hw _ (List.mem_of_getElem? (i := 15) rfl))) Via.refl e0 (S_GE.ext O0.2) (g := (mkF m 91 #[.val (.int p0), .val (.int (6 : Int32)), .unset, .unset] [])) rfl (hb hby at_91)
    refine Ends.go st13 ?_
    show Ends p e below s T13 (mkF m 94 #[.val (.int p0), .val (.int (6 : Int32)), .unset, .unset] [(.ref w_GE)]) _ _ _
    refine Ends.go (fun _ k => XS.astoreN X13.here hx rfl (hb hby at_94) rfl rfl (l' := #[.val (.int p0), .val (.int (6 : Int32)), .val (.ref w_GE), .unset]) rfl k) ?_
    show Ends p e below s T13 (mkF m 95 #[.val (.int p0), .val (.int (6 : Int32)), .val (.ref w_GE), .unset] []) _ _ _
    refine Ends.go (fun _ k => XS.iconst X13.here hx rfl (hb hby at_95) k) ?_
    show Ends p e below s T13 (mkF m 96 #[.val (.int p0), .val (.int (6 : Int32)), .val (.ref w_GE), .unset] [(.int (1 : Int32))]) _ _ _
    refine Ends.go (fun _ k => XS.istoreN X13.here hx rfl (hb hby at_96) rfl (l' := #[.val (.int p0), .val (.int (6 : Int32)), .val (.ref w_GE), .val (.int (1 : Int32))]) rfl k) ?_
    show Ends p e below s T13 (mkF m 97 #[.val (.int p0), .val (.int (6 : Int32)), .val (.ref w_GE), .val (.int (1 : Int32))] []) _ _ _
    refine Ends.go (fun _ k => XS.aloadN X13.here hx rfl (hb hby at_97) rfl rfl k) ?_
    show Ends p e below s T13 (mkF m 98 #[.val (.int p0), .val (.int (6 : Int32)), .val (.ref w_GE), .val (.int (1 : Int32))] [(.ref w_GE)]) _ _ _
    obtain ⟨cq14, kq14, q14a, q14b, q14c⟩ := isOf hZ e13 (E_GE.ext O0.2)
    obtain ⟨_, _, ⟨T14, L14, k14, n14⟩, -, X14, ⟨Lc14, hQ14, l14, y14, z14⟩, st14⟩ := X13.virtualBack hx (y := (⟨"com/example/patterns_to_keys/patternstokeys/Comparison", "operands", "()I"⟩ : MethodName)) (z := (⟨"com/example/patterns_to_keys/patternstokeys/Comparison", "operands", "()I"⟩ : MethodName)) hown (mvT hZ (hw _ (List.mem_of_getElem? (i := 4) rfl))) (mvT hZ (hw _ (List.mem_of_getElem? (i := 5) rfl))) (notFace_of_selects (args := #[]) (mvT hZ (hw _ (List.mem_of_getElem? (i := 7) rfl)))) (mvT hZ (hw _ (List.mem_of_getElem? (i := 7) rfl))) (mvT hZ (hw _ (List.mem_of_getElem? (i := 6) rfl))) (by decide) (own_backOf (W := 0) (rm1 l Z a0 hw [] n0 h0 O0 w_GE w_EQUALS w_BETWEEN w_LT w_GT w_GE w_LE w_BEGINS_WITH FF0 (1 : Int32) (fun q => absurd q (Fld.ne F_ordinal_GE F_ordinal_BETWEEN (by decide))) (fun _ => rfl)) hZ (hw _ (List.mem_of_getElem? (i := 8) rfl)) (hw _ (List.mem_of_getElem? (i := 2) rfl)) (by decide) (by decide)) q14a q14c (g := (mkF m 98 #[.val (.int p0), .val (.int (6 : Int32)), .val (.ref w_GE), .val (.int (1 : Int32))] [(.ref w_GE)])) rfl (by rw [hml]; rfl) (Steps.refl _) (argsL := []) (rest := []) (lenOf pd0_0 rfl) rfl (by show 2 * 0 + _ ≤ _; exact Nat.le_of_eq rfl) (hb hby at_98) (fun _ _ => ⟨rfl, e13, (by decide : 0 + 0 ≤ _), (by decide : 0 + 0 ≤ _)⟩)
    dsimp only [Pt.U, Pt.locs, Pt.cells, Pt.slots] at X14 l14 y14 z14 st14 hQ14
    subst l14 y14 z14
    obtain ⟨rfl, N14q, e14q⟩ := hQ14
    have N14 := Fr.app N0 N14q
    refine Ends.go (fun _ k => st14.trans k) ?_
    show Ends p e below s T14 (mkF m 101 #[.val (.int p0), .val (.int (6 : Int32)), .val (.ref w_GE), .val (.int (1 : Int32))] [(.int (1 : Int32))]) _ _ _
    refine Ends.go (fun _ k => XS.iloadN X14.here hx rfl (hb hby at_101) rfl k) ?_
    show Ends p e below s T14 (mkF m 102 #[.val (.int p0), .val (.int (6 : Int32)), .val (.ref w_GE), .val (.int (1 : Int32))] [(.int (1 : Int32)), (.int (1 : Int32))]) _ _ _
    refine Ends.go (fun _ k => XS.icmpNo X14.here hx rfl (hb hby at_102) rfl (teq (by decide : (1 : Int32) = (1 : Int32))).2 k) ?_
    show Ends p e below s T14 (mkF m 105 #[.val (.int p0), .val (.int (6 : Int32)), .val (.ref w_GE), .val (.int (1 : Int32))] []) _ _ _
    refine Ends.go (fun _ k => XS.iconst X14.here hx rfl (hb hby at_105) k) ?_
    show Ends p e below s T14 (mkF m 106 #[.val (.int p0), .val (.int (6 : Int32)), .val (.ref w_GE), .val (.int (1 : Int32))] [(.int (1 : Int32))]) _ _ _
    refine Ends.go (fun _ k => XS.goto X14.here hx rfl (pc0 := 106) (pc' := 110) rfl (hb hby at_106) (by decide) (by decide) k) ?_
    show Ends p e below s T14 (mkF m 110 #[.val (.int p0), .val (.int (6 : Int32)), .val (.ref w_GE), .val (.int (1 : Int32))] [(.int (1 : Int32))]) _ _ _
    refine Ends.retZ X14 hx Bd.notSynchronized (t := .boolean) Bd.returns (by simp) (hb hby at_110) (by decide) (by decide) ?_
    exact ⟨rfl, N14⟩
set_option maxRecDepth 65536 in
set_option maxHeartbeats 40000000 in
theorem comes_1 {Post : Tables → Env → Array Value → State → Outcome → State → Prop} (hpost : ∀ tb e args s v u, (limb_1_1.after args s (.returned v) u = true ∧ limb_1_2.after args s (.returned v) u = true ∧ True) → FrameEnd s (.returned v) u (Jvm.fieldLocs frame_1_writes args s ++ Jvm.arrayLocs frame_1_arrays args s ++ Jvm.staticLocs frame_1_statics s) 0 0 → Post tb e args s (.returned v) u) :
    ArmFor flags0 classFile x code maxLocals ret World_1 tables_1 room_1 Calls_1 rest_1 Pre_1 Post := by
  intro l hfl _ _ p e ha hc hk s m args below hf hA hF happ hP
  obtain ⟨hcalls, hrest, hpre⟩ := hP
  obtain ⟨-, -, -, hnamed, -, -, -, hat⟩ := (Spec.applies_iff hf).mp happ
  obtain ⟨hg, hn⟩ := and_e (Cond.before_iff.mp (show (Jvm.Cond.and given_1 narrow_1).before args s = true from hpre))
  obtain ⟨g0a, g0b⟩ := and_e hg
  obtain ⟨w0, rfl⟩ : ∃ w0 : Value, args = #[w0] := by
    have hs : args.size = 1 := by simpa [Cond.value, given_1] using g0a
    obtain ⟨L⟩ := args
    match L, hs with
    | [w0], _ => exact ⟨w0, rfl⟩
  have hw := fun d (hd : d ∈ tables_1) => atoms_spec (ws := Jvm.Cond.code x code maxLocals ret :: tables_1) hat d (List.mem_cons_of_mem _ hd)
  have hfit : Fit s := fun {y c} hc i hi => by
    obtain ⟨ha, rfl⟩ := Array.getElem?_eq_some_iff.mp hc
    have q := List.all_eq_true.mp ((Array.all_eq_true_iff_forall_mem.mp hF) _ (Array.getElem_mem ha)) i (List.mem_range.mpr hi)
    simpa [Array.getElem?_eq_getElem hi] using q
  obtain ⟨i0, ei0⟩ := is_v g0b
  obtain rfl : w0 = (.int i0) := Option.some.inj ei0
  obtain ⟨n0a, n0b⟩ := and_e hn
  obtain ⟨w_EQUALS, ev_EQUALS⟩ := exa_v n0a
  obtain ⟨n1a, n1b⟩ := and_e n0b
  obtain ⟨w_BETWEEN, ev_BETWEEN⟩ := exa_v n1a
  obtain ⟨n2a, n2b⟩ := and_e n1b
  obtain ⟨n3a, n3b⟩ := and_e n2b
  obtain ⟨n4a, n4b⟩ := and_e n3b
  obtain ⟨w_LT, ev_LT⟩ := exa_v n4a
  obtain ⟨n5a, n5b⟩ := and_e n4b
  obtain ⟨n6a, n6b⟩ := and_e n5b
  obtain ⟨w_GT, ev_GT⟩ := exa_v n6a
  obtain ⟨n7a, n7b⟩ := and_e n6b
  obtain ⟨n8a, n8b⟩ := and_e n7b
  obtain ⟨w_GE, ev_GE⟩ := exa_v n8a
  obtain ⟨n9a, n9b⟩ := and_e n8b
  obtain ⟨n10a, n10b⟩ := and_e n9b
  obtain ⟨w_LE, ev_LE⟩ := exa_v n10a
  obtain ⟨n11a, n11b⟩ := and_e n10b
  obtain ⟨n12a, n12b⟩ := and_e n11b
  obtain ⟨w_BEGINS_WITH, ev_BEGINS_WITH⟩ := exa_v n12a
  obtain ⟨n, o, h1, h2, h3, _, L, rfl, ⟨rfl, N⟩, hq⟩ := rm0 l s _ hw tables_1 s.heap.size s.heap (Old.start s) i0 w_EQUALS w_BETWEEN w_LT w_GT w_GE w_LE w_BEGINS_WITH ⟨Sta.start ev_EQUALS (Or.inr ⟨(hw _ (List.mem_of_getElem? (i := 2) rfl)), (hw _ (List.mem_of_getElem? (i := 3) rfl))⟩), Exa.start ev_EQUALS n0a, Sta.start ev_BETWEEN (Or.inr ⟨(hw _ (List.mem_of_getElem? (i := 2) rfl)), (hw _ (List.mem_of_getElem? (i := 10) rfl))⟩), Exa.start ev_BETWEEN n1a, Fld.start ((fld_at ev_EQUALS).symm.trans (own_eqI n2a)), Fld.start ((fld_at ev_BETWEEN).symm.trans (own_eqI n3a)), Sta.start ev_LT (Or.inr ⟨(hw _ (List.mem_of_getElem? (i := 2) rfl)), (hw _ (List.mem_of_getElem? (i := 12) rfl))⟩), Exa.start ev_LT n4a, Fld.start ((fld_at ev_LT).symm.trans (own_eqI n5a)), Sta.start ev_GT (Or.inr ⟨(hw _ (List.mem_of_getElem? (i := 2) rfl)), (hw _ (List.mem_of_getElem? (i := 14) rfl))⟩), Exa.start ev_GT n6a, Fld.start ((fld_at ev_GT).symm.trans (own_eqI n7a)), Sta.start ev_GE (Or.inr ⟨(hw _ (List.mem_of_getElem? (i := 2) rfl)), (hw _ (List.mem_of_getElem? (i := 16) rfl))⟩), Exa.start ev_GE n8a, Fld.start ((fld_at ev_GE).symm.trans (own_eqI n9a)), Sta.start ev_LE (Or.inr ⟨(hw _ (List.mem_of_getElem? (i := 2) rfl)), (hw _ (List.mem_of_getElem? (i := 18) rfl))⟩), Exa.start ev_LE n10a, Fld.start ((fld_at ev_LE).symm.trans (own_eqI n11a)), Sta.start ev_BEGINS_WITH (Or.inr ⟨(hw _ (List.mem_of_getElem? (i := 2) rfl)), (hw _ (List.mem_of_getElem? (i := 21) rfl))⟩), Exa.start ev_BEGINS_WITH n12a, Fld.start ((fld_at ev_BEGINS_WITH).symm.trans (own_eqI n12b))⟩ p e ha hc hk s m _ below hf ((Spec.applies_iff_loose hf).mp happ).1 ⟨rfl, State.Warmed39.refl s, rfl⟩ trivial
  refine ⟨n, _, h1, h2, h3, hpost _ _ _ _ _ _ ⟨Cond.after_iff.mpr rfl, Cond.after_iff.mpr (eq_i res_at (Term.int_eval (1)) rfl), trivial⟩ ⟨hq.1, hq.2.1, (hq.2.2.sift fun y hy => Or.inr (N y hy)).mono (by decide) (by decide)⟩⟩
theorem main_1_1 : Claimed_1_1 := comes_1 fun _ _ _ _ _ _ h hF => ⟨h.1, hF⟩
theorem main_1_2 : Claimed_1_2 := comes_1 fun _ _ _ _ _ _ h hF => ⟨h.2.1, hF⟩
end Jvm.Pilot.@@N@@
namespace Jvm.Pilot.@@N@@
open Jvm Jvm.ClassFile Sem Op Lib Jvm.Free Jvm.Stand Jvm.Pilot.@@N@@.Jvm.D
/-! MADE BY PROGRAM (witnessworld.py) out of the Statement's table words and the real class files: 12 classes; the members and pool entries that the words name. The judged class is class 1, her method 1. -/
namespace start1
open Jvm.ClassFile
def u (s : String) : CpInfo := .utf8 (stringToUtf16 s)
/-- a pool by its gaps: so many unusable entries, then the entry; so many at the end -/
def gap : Nat → List CpInfo → List CpInfo
  | 0, r => r
  | n + 1, r => .unusable :: gap n r
def poolList (es : List (Nat × CpInfo)) (last : Nat) : List CpInfo := es.foldr (fun e r => gap e.1 (e.2 :: r)) (gap last [])
def pool (es : List (Nat × CpInfo)) (last : Nat) : Array CpInfo := ⟨poolList es last⟩
def fileOf (pool : Array CpInfo) (this : Nat) (attrs : Array Attribute := #[]) (ms : Array MethodInfo := #[]) (fl : Nat := 33) (sup : Nat := 0) (ifs : Array Nat := #[]) (fds : Array FieldInfo := #[]) : ClassFile where
  minorVersion := 0
  majorVersion := 65
  constantPool := pool
  accessFlags := fl
  thisClass := this
  superClass := sup
  interfaces := ifs
  fields := fds
  methods := ms
  attributes := attrs
def plain (name : String) (sup : Option ClassId) : Class where
  name := name
  kind := .ordinary
  loader := none
  accessFlags := 33
  super := sup
  interfaces := #[]
  cf := none
  fields := #[]
  methods := #[]
  instanceTypes := #[]
  staticTypes := #[]
  resolved := #[]
  callSites := []
  init := .initialized
  statics := none
  mirror := none

def pool0 : Array CpInfo := pool [(5, u "<init>"), (0, u "()V"), (1, .class_ 10), (1, u "java/lang/Object")] 113

def k0m0 : Method := { name := "<init>", desc := "()V", sig := { parameters := [], returnType := none }, accessFlags := 1, code := none }
/-- java/lang/Object -/
def k0 : Class := { plain "java/lang/Object" none with
  accessFlags := 33
  interfaces := #[]
  cf := some (fileOf pool0 8 #[] #[{ accessFlags := 1, nameIndex := 5, descriptorIndex := 6, attributes := #[] }] 33 0 #[] #[])
  fields := #[]
  methods := #[k0m0]
  instanceTypes := #[]
  staticTypes := #[]
  resolved := Array.replicate 124 none
  statics := none }

def pool1 : Array CpInfo := pool [(2, .class_ 4), (1, u "java/lang/Object"), (0, u "<init>"), (0, u "()V"), (0, .integer 2147483647), (0, .fieldref 9 10), (0, .class_ 11), (0, .nameAndType 12 13), (0, u "com/example/patterns_to_keys/patternstokeys/Comparison"), (0, u "EQUALS"), (0, u "Lcom/example/patterns_to_keys/patternstokeys/Comparison;"), (0, .fieldref 9 15), (0, .nameAndType 16 13), (0, u "BEGINS_WITH"), (0, .fieldref 9 18), (0, .nameAndType 19 13), (0, u "BETWEEN"), (0, .fieldref 9 21), (0, .nameAndType 22 13), (0, u "LT"), (0, .fieldref 9 24), (0, .nameAndType 25 13), (0, u "LE"), (0, .fieldref 9 27), (0, .nameAndType 28 13), (0, u "GT"), (0, .fieldref 9 30), (0, .nameAndType 31 13), (0, u "GE"), (0, .methodref 9 33), (0, .nameAndType 34 35), (0, u "operands"), (0, u "()I"), (0, .class_ 37), (0, u "com/example/patterns_to_keys/patternstokeys/ComparisonOperandsPinLaw"), (2, u "law"), (0, u "(I)Z")] 3

def k1m0 : Method := { name := "<init>", desc := "()V", sig := { parameters := [], returnType := none }, accessFlags := 2, code := none }
def k1c1 : Code := { maxStack := 2, maxLocals := 4, code := code, exceptionTable := #[], attributes := #[] }
def k1m1 : Method := { name := "law", desc := "(I)Z", sig := { parameters := [.int], returnType := some .boolean }, accessFlags := 9, code := some k1c1 }
/-- com/example/patterns_to_keys/patternstokeys/ComparisonOperandsPinLaw -/
def k1 : Class := { plain "com/example/patterns_to_keys/patternstokeys/ComparisonOperandsPinLaw" (some 0) with
  accessFlags := 49
  interfaces := #[]
  cf := some (fileOf pool1 36 #[] #[{ accessFlags := 2, nameIndex := 5, descriptorIndex := 6, attributes := #[] }, { accessFlags := 9, nameIndex := 40, descriptorIndex := 41, attributes := #[] }] 49 2 #[] #[])
  fields := #[]
  methods := #[k1m0, k1m1]
  instanceTypes := #[]
  staticTypes := #[]
  resolved := Array.replicate 45 none
  statics := none }

def pool2 : Array CpInfo := pool [(1, .class_ 2), (0, u "java/lang/constant/Constable"), (0, .class_ 4), (0, u "java/lang/Object")] 6

/-- java/lang/constant/Constable -/
def k2 : Class := { plain "java/lang/constant/Constable" (some 0) with
  accessFlags := 1537
  interfaces := #[]
  cf := some (fileOf pool2 1 #[] #[] 1537 3 #[] #[])
  fields := #[]
  methods := #[]
  instanceTypes := #[]
  staticTypes := #[]
  resolved := Array.replicate 11 none
  statics := none }

def pool3 : Array CpInfo := pool [(1, .class_ 2), (0, u "java/lang/Comparable"), (0, .class_ 4), (0, u "java/lang/Object")] 7

/-- java/lang/Comparable -/
def k3 : Class := { plain "java/lang/Comparable" (some 0) with
  accessFlags := 1537
  interfaces := #[]
  cf := some (fileOf pool3 1 #[] #[] 1537 3 #[] #[])
  fields := #[]
  methods := #[]
  instanceTypes := #[]
  staticTypes := #[]
  resolved := Array.replicate 12 none
  statics := none }

def pool4 : Array CpInfo := pool [(1, .class_ 2), (0, u "java/io/Serializable"), (0, .class_ 4), (0, u "java/lang/Object")] 2

/-- java/io/Serializable -/
def k4 : Class := { plain "java/io/Serializable" (some 0) with
  accessFlags := 1537
  interfaces := #[]
  cf := some (fileOf pool4 1 #[] #[] 1537 3 #[] #[])
  fields := #[]
  methods := #[]
  instanceTypes := #[]
  staticTypes := #[]
  resolved := Array.replicate 7 none
  statics := none }

def pool5 : Array CpInfo := pool [(2, .class_ 4), (1, u "java/lang/Enum"), (0, u "name"), (0, u "Ljava/lang/String;"), (2, u "ordinal"), (0, u "I"), (1, .class_ 14), (1, u "java/lang/Object"), (4, u "hash"), (86, .class_ 108), (1, u "java/lang/Enum$EnumDesc"), (2, .class_ 112), (0, u "java/lang/constant/Constable"), (0, .class_ 114), (0, u "java/lang/Comparable"), (0, .class_ 116), (0, u "java/io/Serializable")] 87

/-- java/lang/Enum -/
def k5 : Class := { plain "java/lang/Enum" (some 0) with
  accessFlags := 1057
  interfaces := #[2, 3, 4]
  cf := some (fileOf pool5 2 #[.nestMembers #[106]] #[] 1057 12 #[111, 113, 115] #[{ accessFlags := 18, nameIndex := 5, descriptorIndex := 6, attributes := #[] }, { accessFlags := 18, nameIndex := 9, descriptorIndex := 10, attributes := #[] }, { accessFlags := 2, nameIndex := 19, descriptorIndex := 10, attributes := #[] }])
  fields := #[{ name := "name", type := (.object "java/lang/String"), accessFlags := 18, slot := 0, constantValue := 0 }, { name := "ordinal", type := .int, accessFlags := 18, slot := 1, constantValue := 0 }, { name := "hash", type := .int, accessFlags := 2, slot := 2, constantValue := 0 }]
  methods := #[]
  instanceTypes := #[(.object "java/lang/String"), .int, .int]
  staticTypes := #[]
  resolved := Array.replicate 204 none
  statics := none }

def pool6 : Array CpInfo := pool [(1, .class_ 2), (0, u "com/example/patterns_to_keys/patternstokeys/Comparison"), (2, u "EQUALS"), (0, u "Lcom/example/patterns_to_keys/patternstokeys/Comparison;"), (2, u "BEGINS_WITH"), (0, .fieldref 1 11), (0, .nameAndType 12 6), (0, u "BETWEEN"), (2, u "LT"), (2, u "LE"), (2, u "GT"), (2, u "GE"), (2, u "$VALUES"), (0, u "[Lcom/example/patterns_to_keys/patternstokeys/Comparison;"), (6, .class_ 37), (1, u "java/lang/Enum"), (8, u "member"), (0, u "Ljava/lang/String;"), (15, u "()I"), (59, u "operands")] 39

def k6c0 : Code := { maxStack := 2, maxLocals := 1, code := prog_13_method_5_code, exceptionTable := #[], attributes := #[] }
def k6m0 : Method := { name := "operands", desc := "()I", sig := { parameters := [], returnType := some .int }, accessFlags := 1, code := some k6c0 }
/-- com/example/patterns_to_keys/patternstokeys/Comparison -/
def k6 : Class := { plain "com/example/patterns_to_keys/patternstokeys/Comparison" (some 5) with
  accessFlags := 16433
  interfaces := #[]
  cf := some (fileOf pool6 1 #[] #[{ accessFlags := 1, nameIndex := 123, descriptorIndex := 63, attributes := #[] }] 16433 35 #[] #[{ accessFlags := 16409, nameIndex := 5, descriptorIndex := 6, attributes := #[] }, { accessFlags := 16409, nameIndex := 9, descriptorIndex := 6, attributes := #[] }, { accessFlags := 16409, nameIndex := 12, descriptorIndex := 6, attributes := #[] }, { accessFlags := 16409, nameIndex := 15, descriptorIndex := 6, attributes := #[] }, { accessFlags := 16409, nameIndex := 18, descriptorIndex := 6, attributes := #[] }, { accessFlags := 16409, nameIndex := 21, descriptorIndex := 6, attributes := #[] }, { accessFlags := 16409, nameIndex := 24, descriptorIndex := 6, attributes := #[] }, { accessFlags := 18, nameIndex := 46, descriptorIndex := 47, attributes := #[] }, { accessFlags := 4122, nameIndex := 27, descriptorIndex := 28, attributes := #[] }])
  fields := #[{ name := "EQUALS", type := (.object "com/example/patterns_to_keys/patternstokeys/Comparison"), accessFlags := 16409, slot := 0, constantValue := 0 }, { name := "BEGINS_WITH", type := (.object "com/example/patterns_to_keys/patternstokeys/Comparison"), accessFlags := 16409, slot := 1, constantValue := 0 }, { name := "BETWEEN", type := (.object "com/example/patterns_to_keys/patternstokeys/Comparison"), accessFlags := 16409, slot := 2, constantValue := 0 }, { name := "LT", type := (.object "com/example/patterns_to_keys/patternstokeys/Comparison"), accessFlags := 16409, slot := 3, constantValue := 0 }, { name := "LE", type := (.object "com/example/patterns_to_keys/patternstokeys/Comparison"), accessFlags := 16409, slot := 4, constantValue := 0 }, { name := "GT", type := (.object "com/example/patterns_to_keys/patternstokeys/Comparison"), accessFlags := 16409, slot := 5, constantValue := 0 }, { name := "GE", type := (.object "com/example/patterns_to_keys/patternstokeys/Comparison"), accessFlags := 16409, slot := 6, constantValue := 0 }, { name := "member", type := (.object "java/lang/String"), accessFlags := 18, slot := 3, constantValue := 0 }, { name := "$VALUES", type := (.array (.object "com/example/patterns_to_keys/patternstokeys/Comparison")), accessFlags := 4122, slot := 7, constantValue := 0 }]
  methods := #[k6m0]
  instanceTypes := #[(.object "java/lang/String"), .int, .int, (.object "java/lang/String")]
  staticTypes := #[(.object "com/example/patterns_to_keys/patternstokeys/Comparison"), (.object "com/example/patterns_to_keys/patternstokeys/Comparison"), (.object "com/example/patterns_to_keys/patternstokeys/Comparison"), (.object "com/example/patterns_to_keys/patternstokeys/Comparison"), (.object "com/example/patterns_to_keys/patternstokeys/Comparison"), (.object "com/example/patterns_to_keys/patternstokeys/Comparison"), (.object "com/example/patterns_to_keys/patternstokeys/Comparison"), (.array (.object "com/example/patterns_to_keys/patternstokeys/Comparison"))]
  resolved := Array.replicate 163 none
  statics := some 0 }

def pool7 : Array CpInfo := pool [(1, u "java/lang/Cloneable"), (0, .class_ 1), (0, u "java/lang/Object"), (0, .class_ 3)] 3

/-- java/lang/Cloneable -/
def k7 : Class := { plain "java/lang/Cloneable" (some 0) with
  accessFlags := 1537
  interfaces := #[]
  cf := some (fileOf pool7 2 #[] #[] 1537 4 #[] #[])
  fields := #[]
  methods := #[]
  instanceTypes := #[]
  staticTypes := #[]
  resolved := Array.replicate 8 none
  statics := none }

/-- the primitive byte -/
def k8 : Class := { plain "byte" none with kind := .primitive 'B', accessFlags := 0x411 }
/-- [B -/
def k9 : Class := { plain "[B" (some 0) with kind := .array 8 .byte, interfaces := #[7, 4], accessFlags := 1041 }

/-- the primitive int -/
def k10 : Class := { plain "int" none with kind := .primitive 'I', accessFlags := 0x411 }
/-- [I -/
def k11 : Class := { plain "[I" (some 0) with kind := .array 10 .int, interfaces := #[7, 4], accessFlags := 1041 }

def heap : Heap := #[{ cls := 6, slots := #[.ref 1, .ref 7, .ref 2, .ref 3, .ref 6, .ref 4, .ref 5, .null], vm := .statics 6 },
  { cls := 6, slots := #[.null, .int 0, .int 0, .null], vm := .none },
  { cls := 6, slots := #[.null, .int 2, .int 0, .null], vm := .none },
  { cls := 6, slots := #[.null, .int 3, .int 0, .null], vm := .none },
  { cls := 6, slots := #[.null, .int 5, .int 0, .null], vm := .none },
  { cls := 6, slots := #[.null, .int 6, .int 0, .null], vm := .none },
  { cls := 6, slots := #[.null, .int 4, .int 0, .null], vm := .none },
  { cls := 6, slots := #[.null, .int 1, .int 0, .null], vm := .none }]
def classes : Array Class := #[k0, k1, k2, k3, k4, k5, k6, k7, k8, k9, k10, k11]
def interned : List (Array UInt16 × Addr) := []
def slotsUsed : Nat := 36
def theMethod : MethodId := ⟨1, 1⟩
def args0 : Array Value := #[.int 5]
def aboutOver (below : List Frame) : State where
  vm := { classes := classes, interned := interned.toArray }
  heap := heap
  slotsUsed := slotsUsed
  threads := #[{ frames := .invoking theMethod args0 :: below }]
def below0 : List Frame := [.native { method := ⟨0, 0⟩, args := #[] }]
def about1 : State := aboutOver below0
def p0 : Program := .bare "" "" ""
def e0 : Env := launch0.env 0 0 0
theorem w_frames : about1.frames = Frame.invoking theMethod args0 :: below0 := rfl
set_option maxRecDepth 65536 in
theorem w_args : argsFit about1.vm theMethod args0 = true := by decide +kernel
set_option maxRecDepth 65536 in
theorem w_heap : heapFits about1 = true := by decide +kernel
set_option maxRecDepth 65536 in
theorem w_runnable : about1.curStatus? = some .runnable := by decide +kernel
set_option maxRecDepth 65536 in
theorem w_alone : about1.alone = true := by decide +kernel
set_option maxRecDepth 65536 in
theorem w_named : about1.methodNamed? x = some theMethod := by decide +kernel
set_option maxRecDepth 65536 in
theorem w_hears : about1.hears theMethod below0 = true := by decide +kernel
set_option maxRecDepth 65536 in
theorem w_ripe : about1.ripe theMethod args0 below0 = true := by decide +kernel
theorem w_running : about1.status = .running := rfl
set_option maxRecDepth 65536 in
theorem w_room : about1.hasRoom e0.platform room_1 = true :=
  launch0.hasRoom_least _ room_1 (by decide +kernel) (by decide +kernel) (by decide +kernel) (by decide +kernel) (by decide +kernel) (by decide +kernel)
theorem allAtoms_all (ts : List Jvm.Cond) (a : Array Jvm.Value) (st : Jvm.State) : (allAtoms ts).before a st = ts.all (fun c => c.before a st) := by
  induction ts with
  | nil => rfl
  | cons c t ih =>
    show (Jvm.Cond.and c (allAtoms t)).before a st = _
    rw [Jvm.Cond.before_and, ih, List.all_cons]
def words1 : List Jvm.Cond := Jvm.Cond.code x code maxLocals ret :: tables_1
/-- a 'code' word, met by the world's own term for the bytes: nothing is compared byte by byte -/
theorem code_word {y : MethodName} {bytes : ByteArray} {mx : Nat} {rt : Option FieldType} {a : Array Value} {s : State} {m : MethodId} {meth : Method} {c : Code} (h1 : s.methodNamed? y = some m) (h2 : s.vm.method? m = some meth) (h3 : meth.code = some c) (h4 : c.code = bytes)
    (h5 : (c.maxLocals == mx && c.exceptionTable.isEmpty && decide (c.maxStack ≤ mostOperands) && decide (meth.sig.returnType = rt) && !meth.locks && decide (parseMethodDescriptor y.desc = some meth.sig)) = true) : (Jvm.Cond.code y bytes mx rt).before a s = true := by
  simp only [Bool.and_eq_true, beq_iff_eq, Bool.not_eq_true', decide_eq_true_eq] at h5
  obtain ⟨⟨⟨⟨⟨g1, g2⟩, g3⟩, g4⟩, g5⟩, g6⟩ := h5
  simp [Cond.before, Cond.holds, Cond.value, h1, h2, h3, h4, g1, g2, g3, g4, g5, g6]
def isCode : Jvm.Cond → Bool
  | .code _ _ _ _ => true
  | _ => false
theorem all_split {L : List Jvm.Cond} {P : Jvm.Cond → Bool} (h1 : L.all (fun c => isCode c || P c) = true) (h2 : ∀ c ∈ L.filter isCode, P c = true) : L.all P = true := by
  refine List.all_eq_true.mpr fun c hc => ?_
  have h := List.all_eq_true.mp h1 c hc
  rcases Bool.eq_false_or_eq_true (isCode c) with hi | hi
  · exact h2 c (List.mem_filter.mpr ⟨hc, hi⟩)
  · simpa [hi] using h
set_option maxRecDepth 65536 in
theorem w_c0 : (Jvm.Cond.code x code maxLocals ret).before args0 about1 = true := code_word (m := ⟨1, 1⟩) (meth := k1m1) (c := k1c1) (by decide +kernel) rfl rfl rfl (by decide +kernel)
set_option maxRecDepth 65536 in
theorem w_c1 : (Jvm.Cond.code ({ cls := "com/example/patterns_to_keys/patternstokeys/Comparison", name := "operands", desc := "()I" } : Jvm.MethodName) prog_13_method_5_code (1 : Nat) (Option.some Jvm.ClassFile.FieldType.int)).before args0 about1 = true := code_word (m := ⟨6, 0⟩) (meth := k6m0) (c := k6c0) (by decide +kernel) rfl rfl rfl (by decide +kernel)
def codes1 : List Jvm.Cond := [Jvm.Cond.code x code maxLocals ret, Jvm.Cond.code ({ cls := "com/example/patterns_to_keys/patternstokeys/Comparison", name := "operands", desc := "()I" } : Jvm.MethodName) prog_13_method_5_code (1 : Nat) (Option.some Jvm.ClassFile.FieldType.int)]
set_option maxRecDepth 65536 in
theorem codes_eq : words1.filter isCode = codes1 := rfl
theorem w_codes : ∀ c ∈ words1.filter isCode, c.before args0 about1 = true := by
  rw [codes_eq]
  intro c hc
  simp only [codes1, List.mem_cons, List.not_mem_nil, or_false] at hc
  rcases hc with rfl | rfl
  · exact w_c0
  · exact w_c1
set_option maxRecDepth 65536 in
theorem w_t1 : words1.all (fun c => isCode c || c.before args0 about1) = true := by decide +kernel
theorem w_tables : (allAtoms (Jvm.Cond.code x code maxLocals ret :: tables_1)).before args0 about1 = true := by
  rw [allAtoms_all]
  show words1.all (fun c => c.before args0 about1) = true
  refine all_split ?_ w_codes
  rw [w_t1]
set_option maxRecDepth 65536 in
theorem w_case : (Jvm.Cond.and given_1 narrow_1).before args0 about1 = true := by decide +kernel
theorem w_applies : (headSpec (Jvm.Cond.code x code maxLocals ret :: tables_1) room_1).applies x e0.platform about1 = true :=
  (Spec.applies_iff w_frames).mpr ⟨w_running, w_runnable, w_alone, w_named, w_hears, w_ripe, w_room, w_tables⟩
theorem atStart : AtStart classFile x code maxLocals ret World_1 tables_1 room_1 Calls_1 rest_1 Pre_1 launch0 p0 e0 about1 theMethod args0 below0 :=
  ⟨lists_1, trivial, launch0.admits_env _ _ _, launch0.least_env, fairChoices_fair.cas, fairChoices_fair.clock, w_frames, w_args, w_heap, w_applies, trivial, trivial, w_case⟩
end start1
theorem witness_1 : WitnessClaimed_1 := ⟨start1.p0, start1.e0, start1.about1, start1.theMethod, start1.args0, start1.below0, start1.atStart⟩
end Jvm.Pilot.@@N@@
