import JvmDerived
import JvmDerived.Pilot.@@N@@Statement
import JvmDerived.Pilot.@@N@@Code
set_option linter.unusedVariables false
set_option linter.unusedSimpArgs false
namespace Jvm.Pilot.@@N@@
open Jvm Jvm.ClassFile Sem Op Lib Jvm.Free Jvm.Stand Jvm.LawKit Jvm.RoadKit Bundle Jvm.Pilot.@@N@@.Jvm.D

section OwnEnds
variable {p : Program} {l : Launch} {e : Env} {R : Room} {s : State} {m : MethodId} {args : Array Value} {below : List Frame} {meth : Method} {c : Code} {T : State} {locs : List Loc} {cells slots : Nat}
/-- from here the body comes to its end, returns, and leaves what Q says -/
def Ends (p : Program) (e : Env) (below : List Frame) (s T : State) (g : JFrame) (kc ks : Nat) (Q : Option Value → Heap → List Loc → Prop) : Prop :=
  ∃ s₂ o, Steps p.tables e below (T.setTop g) s₂ ∧ s₂.status = .running ∧ Ended s₂ below o ∧ ∃ v L, o = .returned v ∧ Q v s₂.heap L ∧ FrameEnd s o s₂ L kc ks
theorem Ends.go {T' : State} {g g' : JFrame} {kc ks : Nat} {Q : Option Value → Heap → List Loc → Prop} (h : ∀ target, Steps p.tables e below (T'.setTop g') target → Steps p.tables e below (T.setTop g) target) (k : Ends p e below s T' g' kc ks Q) : Ends p e below s T g kc ks Q := by
  obtain ⟨s₂, o, h1, h2⟩ := k
  exact ⟨s₂, o, h _ h1, h2⟩
theorem Ends.ret (X : Stand p l e R s m args below meth c T locs cells slots) (hx : p.tables.exec = Jvm.exec) (hlocks : meth.locks = false) {pc : Nat} {Ls : Array Slot} {w : Value} {t : FieldType} {i : Instr} {rest : List Value} (hret : meth.sig.returnType = some t) (hn : narrow t w = w)
    (hi : (i = .ireturn ∧ (t = .int ∨ t = .boolean ∨ t = .byte ∨ t = .char ∨ t = .short) ∧ ∃ z, w = .int z) ∨ (i = .lreturn ∧ t = .long ∧ ∃ z, w = .long z) ∨ (i = .dreturn ∧ t = .double ∧ ∃ z, w = .double z) ∨ (i = .freturn ∧ t = .float ∧ ∃ z, w = .float z) ∨ (i = .areturn ∧ t.isReference = true ∧ w.isRef = true))
    (hd : decode c.code pc = .ok (i, 1)) {kc ks : Nat} {Q : Option Value → Heap → List Loc → Prop} (hc : cells ≤ kc) (hs : slots ≤ ks) (hq : Q (some w) T.heap locs) : Ends p e below s T (mkF m pc Ls (w :: rest)) kc ks Q := by
  obtain ⟨fs, hr, hrun, hended, hW, hsame⟩ := X.leave (v := some w) (fun h => by rw [hret] at h; cases h) hlocks
  exact ⟨_, _, retOut X hx hret hn hi hd hr, hrun, hended, _, _, rfl, hq, ⟨_, rfl⟩, hW, hsame.mono hc hs⟩
theorem Ends.retZ (X : Stand p l e R s m args below meth c T locs cells slots) (hx : p.tables.exec = Jvm.exec) (hlocks : meth.locks = false) {pc : Nat} {Ls : Array Slot} {z : Int32} {t : FieldType} {rest : List Value} (hret : meth.sig.returnType = some t) (ht : t = .boolean ∨ t = .byte ∨ t = .char ∨ t = .short)
    (hd : decode c.code pc = .ok (.ireturn, 1)) {kc ks : Nat} {Q : Option Value → Heap → List Loc → Prop} (hc : cells ≤ kc) (hs : slots ≤ ks) (hq : Q (some (.int (nar t z))) T.heap locs) : Ends p e below s T (mkF m pc Ls (.int z :: rest)) kc ks Q := by
  obtain ⟨fs, hr, hrun, hended, hW, hsame⟩ := X.leave (v := some (.int (nar t z))) (fun h => by rw [hret] at h; cases h) hlocks
  exact ⟨_, _, retN X hx hret ht hd hr, hrun, hended, _, _, rfl, hq, ⟨_, rfl⟩, hW, hsame.mono hc hs⟩
theorem Ends.retV (X : Stand p l e R s m args below meth c T locs cells slots) (hx : p.tables.exec = Jvm.exec) (hlocks : meth.locks = false) {pc : Nat} {Ls : Array Slot} (hret : meth.sig.returnType = none)
    (hd : decode c.code pc = .ok (.return_, 1)) {kc ks : Nat} {Q : Option Value → Heap → List Loc → Prop} (hc : cells ≤ kc) (hs : slots ≤ ks) (hq : Q none T.heap locs) : Ends p e below s T (mkF m pc Ls []) kc ks Q := by
  obtain ⟨fs, hr, hrun, hended, hW, hsame⟩ := X.leave (v := none) (fun _ => rfl) hlocks
  exact ⟨_, _, X.returnOut hx hret hd hr, hrun, hended, _, _, rfl, hq, ⟨_, rfl⟩, hW, hsame.mono hc hs⟩
end OwnEnds
abbrev Meets1 (l : Launch) (y : MethodName) (bytes : ByteArray) (ml : Nat) (rt : Option FieldType) (ws : List Jvm.Cond) (rm : Room) (av : Array Value) (Z : State) (h0 : Heap) (Q : Option Value → Heap → List Loc → Prop) : Prop :=
  MetFree l y (head1 (Jvm.Cond.code y bytes ml rt :: ws) rm) (fun a U => a = av ∧ Z.Warmed39 U.vm ∧ U.heap = h0) (fun _ _ _ _ _ => True) (fun _ U o U' => ∃ v L, o = .returned v ∧ Q v U'.heap L ∧ FrameEnd U o U' L rm.cells rm.slots)
theorem own_backOf {p : Program} {l : Launch} {e : Env} {R : Room} {s : State} {args : Array Value} {below : List Frame} {Z : State} {a0 : Array Value} {h : Heap} {y : MethodName} {bytes : ByteArray} {maxL : Nat} {ret : Option FieldType} {rm : Room} {len W : Nat} {as' : Array Value} {Q : Option Value → Heap → List Loc → Prop}
    (hM : Meets1 l y bytes maxL ret [] rm as' Z h Q) (hZ : Z.Warmed39 s.vm) (wc : (Jvm.Cond.code y bytes maxL ret).before a0 Z = true) (wz : (Jvm.Cond.initialized y.cls).before a0 Z = true) (hf : rm.frames + 1 ≤ R.frames) (hl : W + (maxL + 11) + rm.locals ≤ R.locals) :
    Back l R p e below s args y len W (fun A a => a = as' ∧ A.U.heap = h ∧ A.cells + rm.cells ≤ R.cells ∧ A.slots + rm.slots ≤ R.slots)
      (fun A _ v B => ∃ L, Q v B.U.heap L ∧ B.locs = A.locs ++ L ∧ B.cells = A.cells + rm.cells ∧ B.slots = A.slots + rm.slots) := backOf (Q := Q) hM hZ wc wz hf hl
theorem own_old_le {Z : State} {n0 : Nat} {h : Heap} (O : Old Z n0 h) : n0 ≤ h.size := O.1 ▸ O.2.1
theorem own_eqI {args : Array Value} {s : State} {t : Term} {k : Int32} (h : (Jvm.Cond.eq t (.int k)).value args s none s [] = some true) : t.eval args s none [] s = some (.int k) := by
  cases ht : t.eval args s none [] s with
  | none => simp [Cond.value, ht] at h
  | some x => cases x <;> simp_all [Cond.value, Term.eval]
theorem own_mod (p0 i : Int32) (h : ((p0 &&& (2147483647 : Int32)) % (3 : Int32)) = i) : i = 0 ∨ i = 1 ∨ i = 2 := by
  have h1 := c_and p0 2147483647 (by decide)
  have h2 := (c_irem (p0 &&& 2147483647) 3 3 (by decide)).1 h1.1
  rw [h] at h2
  have h3 : i.toInt = 0 ∨ i.toInt = 1 ∨ i.toInt = 2 := by omega
  rcases h3 with q | q | q
  · exact Or.inl (Int32.toInt_inj.mp q)
  · exact Or.inr (Or.inl (Int32.toInt_inj.mp q))
  · exact Or.inr (Or.inr (Int32.toInt_inj.mp q))
def Facts (Z : State) (w_NONE : Addr) (w_IF_ABSENT : Addr) (w_IF_PRESENT : Addr) : Prop :=
  Sta Z Z.heap "com/example/patterns_to_keys/patternstokeys/AccessPattern$Precondition" "NONE" "Lcom/example/patterns_to_keys/patternstokeys/AccessPattern$Precondition;" (.ref w_NONE) ∧
  Exa Z Z.heap w_NONE "com/example/patterns_to_keys/patternstokeys/AccessPattern$Precondition" ∧
  Sta Z Z.heap "com/example/patterns_to_keys/patternstokeys/AccessPattern$Precondition" "IF_ABSENT" "Lcom/example/patterns_to_keys/patternstokeys/AccessPattern$Precondition;" (.ref w_IF_ABSENT) ∧
  Exa Z Z.heap w_IF_ABSENT "com/example/patterns_to_keys/patternstokeys/AccessPattern$Precondition" ∧
  Fld Z Z.heap w_NONE "java/lang/Enum" "ordinal" "I" (.int (0 : Int32)) ∧
  Fld Z Z.heap w_IF_ABSENT "java/lang/Enum" "ordinal" "I" (.int (1 : Int32)) ∧
  Sta Z Z.heap "com/example/patterns_to_keys/patternstokeys/AccessPattern$Precondition" "IF_PRESENT" "Lcom/example/patterns_to_keys/patternstokeys/AccessPattern$Precondition;" (.ref w_IF_PRESENT) ∧
  Exa Z Z.heap w_IF_PRESENT "com/example/patterns_to_keys/patternstokeys/AccessPattern$Precondition" ∧
  Fld Z Z.heap w_IF_PRESENT "java/lang/Enum" "ordinal" "I" (.int (2 : Int32))
theorem d2_0 : decode jdk_30_method_1_code 0 = .ok (.aload_n 0, 1) := by decide +kernel
theorem d2_1 : decode jdk_30_method_1_code 1 = .ok (.invokespecial 1, 3) := by decide +kernel
theorem d2_4 : decode jdk_30_method_1_code 4 = .ok (.return_, 1) := by decide +kernel
theorem pn2 : plainName "java/lang/Record" = true := by first | (simp [plainName, overriddenIn]; done) | decide +kernel
theorem ef2 (m : MethodId) (o0 : Addr) : entryFrame m #[(.ref o0)] 1 = mkF m 0 #[.val (.ref o0)] [] := by first | (simp [entryFrame, mkF, argsToLocals, Value.category]; done) | rfl
set_option maxRecDepth 65536 in
set_option maxHeartbeats 40000000 in
theorem rmR (l : Launch) (Z : State) (a0 : Array Value) (hw : ∀ d ∈ tables_1, d.before a0 Z = true) (ws : List Jvm.Cond) (n0 : Nat) (h0 : Heap) (O0 : Old Z n0 h0) (o0 : Addr)  :
    Meets1 l (⟨"java/lang/Record", "<init>", "()V"⟩ : MethodName) jdk_30_method_1_code 1 none ws ({ frames := 1, cells := 0, slots := 0, locals := 12 } : Room) #[(.ref o0)] Z h0 (fun v h L => v = none ∧ Fr n0 L ∧ h = h0) := by
  refine MetFree.of_bodySF (plainFor_of_name pn2) hisR ?_
  intro p e s m args below meth c s₁ Bd hml0 hP hK
  obtain ⟨rfl, hZ, hh⟩ := hP
  have hx := Bd.exec
  have hby := Bd.bytes
  have hml : c.maxLocals = 1 := hml0
  have hown : s.vm.findClass "java/lang/Record" = some m.cls := findClass_of_methodNamed Bd.named
  have hnm := (name_of_methodNamed Bd.named Bd.method).1
  have X0 : Stand p l e ({ frames := 1, cells := 0, slots := 0, locals := 12 } : Room) s m #[(.ref o0)] below meth c s₁ [] 0 0 := Stand.of_body Bd
  have e0 : s₁.heap = h0 := by rw [← hh, Bd.state]; rfl
  have N0 := Fr.nil n0
  have Z0 := own_old_le O0
  show Ends p e below s s₁ (entryFrame m #[(.ref o0)] 1) ({ frames := 1, cells := 0, slots := 0, locals := 12 } : Room).cells ({ frames := 1, cells := 0, slots := 0, locals := 12 } : Room).slots (fun v h L => v = none ∧ Fr n0 L ∧ h = h0)
  refine Ends.go (fun _ k => castTop (ef2 m o0) k) ?_
  have K0 := Keep.refl h0 []
  show Ends p e below s s₁ (mkF m 0 #[.val (.ref o0)] []) _ _ _
  refine Ends.go (fun _ k => XS.aloadN X0.here hx rfl (hb hby d2_0) rfl rfl k) ?_
  show Ends p e below s s₁ (mkF m 1 #[.val (.ref o0)] [(.ref o0)]) _ _ _
  obtain ⟨T1, X1, e1, st1⟩ := initO X0 hx hZ hown (hw _ (List.mem_of_getElem? (i := 15) rfl)) (hw _ (List.mem_of_getElem? (i := 16) rfl)) (hw _ (List.mem_of_getElem? (i := 17) rfl)) e0 (g := (mkF m 1 #[.val (.ref o0)] [(.ref o0)])) rfl (by rw [hml]; rfl) rfl (hb hby d2_1) (by decide) (W := 0) (by show 2 * 0 + _ ≤ _; exact Nat.le_of_eq rfl) (by decide)
  refine Ends.go st1 ?_
  show Ends p e below s T1 (mkF m 4 #[.val (.ref o0)] []) _ _ _
  refine Ends.retV X1 hx Bd.notSynchronized Bd.returns (hb hby d2_4) (by decide) (by decide) ?_
  exact ⟨rfl, N0, e1⟩
theorem d1_0 : decode prog_2_method_1_code 0 = .ok (.aload_n 0, 1) := by decide +kernel
theorem d1_1 : decode prog_2_method_1_code 1 = .ok (.invokespecial 1, 3) := by decide +kernel
theorem d1_4 : decode prog_2_method_1_code 4 = .ok (.aload_n 0, 1) := by decide +kernel
theorem d1_5 : decode prog_2_method_1_code 5 = .ok (.iload_n 1, 1) := by decide +kernel
theorem d1_6 : decode prog_2_method_1_code 6 = .ok (.putfield 7, 3) := by decide +kernel
theorem d1_9 : decode prog_2_method_1_code 9 = .ok (.aload_n 0, 1) := by decide +kernel
theorem d1_10 : decode prog_2_method_1_code 10 = .ok (.aload_n 2, 1) := by decide +kernel
theorem d1_11 : decode prog_2_method_1_code 11 = .ok (.putfield 13, 3) := by decide +kernel
theorem d1_14 : decode prog_2_method_1_code 14 = .ok (.aload_n 0, 1) := by decide +kernel
theorem d1_15 : decode prog_2_method_1_code 15 = .ok (.aload_n 3, 1) := by decide +kernel
theorem d1_16 : decode prog_2_method_1_code 16 = .ok (.putfield 17, 3) := by decide +kernel
theorem d1_19 : decode prog_2_method_1_code 19 = .ok (.aload_n 0, 1) := by decide +kernel
theorem d1_20 : decode prog_2_method_1_code 20 = .ok (.aload 4, 2) := by decide +kernel
theorem d1_22 : decode prog_2_method_1_code 22 = .ok (.putfield 21, 3) := by decide +kernel
theorem d1_25 : decode prog_2_method_1_code 25 = .ok (.return_, 1) := by decide +kernel
theorem pn1 : plainName "com/example/patterns_to_keys/patternstokeys/AccessPattern$Action" = true := by first | (simp [plainName, overriddenIn]; done) | decide +kernel
theorem pd1_0 : parseMethodDescriptor "()V" = some ⟨[], none⟩ := by decide +kernel
theorem ef1 (m : MethodId) (o0 : Addr) (p1 : Int32) (o4 : Addr) : entryFrame m #[(.ref o0), (.int p1), .null, .null, (.ref o4)] 5 = mkF m 0 #[.val (.ref o0), .val (.int p1), .val .null, .val .null, .val (.ref o4)] [] := by first | (simp [entryFrame, mkF, argsToLocals, Value.category]; done) | rfl
set_option maxRecDepth 65536 in
set_option maxHeartbeats 40000000 in
theorem rmI (l : Launch) (Z : State) (a0 : Array Value) (hw : ∀ d ∈ tables_1, d.before a0 Z = true) (ws : List Jvm.Cond) (n0 : Nat) (h0 : Heap) (O0 : Old Z n0 h0) (o0 : Addr) (p1 : Int32) (o4 : Addr) (g_o0 : n0 ≤ o0) (Ex0 : Exa Z h0 o0 "com/example/patterns_to_keys/patternstokeys/AccessPattern$Action") (F0_delete : Fld Z h0 o0 "com/example/patterns_to_keys/patternstokeys/AccessPattern$Action" "delete" "Z" (.int (0 : Int32))) (F0_entity : Fld Z h0 o0 "com/example/patterns_to_keys/patternstokeys/AccessPattern$Action" "entity" "Lcom/example/patterns_to_keys/patternstokeys/Entity;" .null) (F0_values : Fld Z h0 o0 "com/example/patterns_to_keys/patternstokeys/AccessPattern$Action" "values" "Ljava/util/Map;" .null) (F0_precondition : Fld Z h0 o0 "com/example/patterns_to_keys/patternstokeys/AccessPattern$Action" "precondition" "Lcom/example/patterns_to_keys/patternstokeys/AccessPattern$Precondition;" .null) (d : Int32) (hd : nar .boolean p1 = d) :
    Meets1 l (⟨"com/example/patterns_to_keys/patternstokeys/AccessPattern$Action", "<init>", "(ZLcom/example/patterns_to_keys/patternstokeys/Entity;Ljava/util/Map;Lcom/example/patterns_to_keys/patternstokeys/AccessPattern$Precondition;)V"⟩ : MethodName) prog_2_method_1_code 5 none ws ({ frames := 2, cells := 0, slots := 0, locals := 24 } : Room) #[(.ref o0), (.int p1), .null, .null, (.ref o4)] Z h0 (fun v h L => v = none ∧ Fr n0 L ∧ Keep h0 h [o0] ∧ Exa Z h o0 "com/example/patterns_to_keys/patternstokeys/AccessPattern$Action" ∧ Fld Z h o0 "com/example/patterns_to_keys/patternstokeys/AccessPattern$Action" "delete" "Z" (.int d) ∧ Fld Z h o0 "com/example/patterns_to_keys/patternstokeys/AccessPattern$Action" "precondition" "Lcom/example/patterns_to_keys/patternstokeys/AccessPattern$Precondition;" (.ref o4)) := by
  refine MetFree.of_bodySF (plainFor_of_name pn1) hisR ?_
  intro p e s m args below meth c s₁ Bd hml0 hP hK
  obtain ⟨rfl, hZ, hh⟩ := hP
  have hx := Bd.exec
  have hby := Bd.bytes
  have hml : c.maxLocals = 5 := hml0
  have hown : s.vm.findClass "com/example/patterns_to_keys/patternstokeys/AccessPattern$Action" = some m.cls := findClass_of_methodNamed Bd.named
  have hnm := (name_of_methodNamed Bd.named Bd.method).1
  have X0 : Stand p l e ({ frames := 2, cells := 0, slots := 0, locals := 24 } : Room) s m #[(.ref o0), (.int p1), .null, .null, (.ref o4)] below meth c s₁ [] 0 0 := Stand.of_body Bd
  have e0 : s₁.heap = h0 := by rw [← hh, Bd.state]; rfl
  have N0 := Fr.nil n0
  have Z0 := own_old_le O0
  show Ends p e below s s₁ (entryFrame m #[(.ref o0), (.int p1), .null, .null, (.ref o4)] 5) ({ frames := 2, cells := 0, slots := 0, locals := 24 } : Room).cells ({ frames := 2, cells := 0, slots := 0, locals := 24 } : Room).slots (fun v h L => v = none ∧ Fr n0 L ∧ Keep h0 h [o0] ∧ Exa Z h o0 "com/example/patterns_to_keys/patternstokeys/AccessPattern$Action" ∧ Fld Z h o0 "com/example/patterns_to_keys/patternstokeys/AccessPattern$Action" "delete" "Z" (.int d) ∧ Fld Z h o0 "com/example/patterns_to_keys/patternstokeys/AccessPattern$Action" "precondition" "Lcom/example/patterns_to_keys/patternstokeys/AccessPattern$Precondition;" (.ref o4))
  refine Ends.go (fun _ k => castTop (ef1 m o0 p1 o4) k) ?_
  have K0 := Keep.refl h0 [o0]
  show Ends p e below s s₁ (mkF m 0 #[.val (.ref o0), .val (.int p1), .val .null, .val .null, .val (.ref o4)] []) _ _ _
  refine Ends.go (fun _ k => XS.aloadN X0.here hx rfl (hb hby d1_0) rfl rfl k) ?_
  show Ends p e below s s₁ (mkF m 1 #[.val (.ref o0), .val (.int p1), .val .null, .val .null, .val (.ref o4)] [(.ref o0)]) _ _ _
  obtain ⟨_, _, ⟨T1, L1, k1, n1⟩, -, X1, ⟨Lc1, hQ1, l1, y1, z1⟩, st1⟩ := X0.specialBack hx (y := (⟨"java/lang/Record", "<init>", "()V"⟩ : MethodName)) rfl hown (mvT hZ (hw _ (List.mem_of_getElem? (i := 10) rfl))) (mvT hZ (hw _ (List.mem_of_getElem? (i := 11) rfl))) (mvT hZ (hw _ (List.mem_of_getElem? (i := 14) rfl))) (by decide) (own_backOf (W := 0) (rmR l Z a0 hw [] n0 h0 O0 o0 ) hZ (hw _ (List.mem_of_getElem? (i := 14) rfl)) (hw _ (List.mem_of_getElem? (i := 13) rfl)) (by decide) (by decide)) (g := (mkF m 1 #[.val (.ref o0), .val (.int p1), .val .null, .val .null, .val (.ref o4)] [(.ref o0)])) rfl (by rw [hml]; rfl) (Steps.refl _) (a := o0) (argsL := []) (rest := []) (lenOf pd1_0 rfl) rfl (by show 2 * 0 + _ ≤ _; exact Nat.le_of_eq rfl) (hb hby d1_1) (fun _ _ => ⟨rfl, e0, (by decide : 0 + 0 ≤ _), (by decide : 0 + 0 ≤ _)⟩)
  dsimp only [Pt.U, Pt.locs, Pt.cells, Pt.slots] at X1 l1 y1 z1 st1 hQ1
  subst l1 y1 z1
  obtain ⟨rfl, N1q, e1q⟩ := hQ1
  have N1 := Fr.app N0 N1q
  refine Ends.go (fun _ k => st1.trans k) ?_
  show Ends p e below s T1 (mkF m 4 #[.val (.ref o0), .val (.int p1), .val .null, .val .null, .val (.ref o4)] []) _ _ _
  refine Ends.go (fun _ k => XS.aloadN X1.here hx rfl (hb hby d1_4) rfl rfl k) ?_
  show Ends p e below s T1 (mkF m 5 #[.val (.ref o0), .val (.int p1), .val .null, .val .null, .val (.ref o4)] [(.ref o0)]) _ _ _
  refine Ends.go (fun _ k => XS.iloadN X1.here hx rfl (hb hby d1_5) rfl k) ?_
  show Ends p e below s T1 (mkF m 6 #[.val (.ref o0), .val (.int p1), .val .null, .val .null, .val (.ref o4)] [(.int p1), (.ref o0)]) _ _ _
  obtain ⟨T2, h2, X2, e2, W2, st2⟩ := putFN X1 hx hZ hown (hw _ (List.mem_of_getElem? (i := 18) rfl)) Via.refl e1q F0_delete Ex0 (Or.inr ⟨(hw _ (List.mem_of_getElem? (i := 19) rfl)), rfl, hnm⟩) (hw _ (List.mem_of_getElem? (i := 5) rfl)) (ty := .boolean) (v' := (.int d)) (by decide) (by rw [← hd]; rfl) (by rw [← hd]; exact fits_nar_bool _) (g := (mkF m 6 #[.val (.ref o0), .val (.int p1), .val .null, .val .null, .val (.ref o4)] [(.int p1), (.ref o0)])) rfl rfl (hb hby d1_6)
  refine Ends.go st2 ?_
  have Fw2 := F0_delete.same W2
  have K2 := K0.wr W2 (Or.inl (List.mem_of_getElem? (i := 0) rfl))
  have O2 := O0.wr W2 g_o0
  have N2 := Fr.snoc X2 N1 g_o0
  show Ends p e below s T2 (mkF m 9 #[.val (.ref o0), .val (.int p1), .val .null, .val .null, .val (.ref o4)] []) _ _ _
  refine Ends.go (fun _ k => XS.aloadN X2.here hx rfl (hb hby d1_9) rfl rfl k) ?_
  show Ends p e below s T2 (mkF m 10 #[.val (.ref o0), .val (.int p1), .val .null, .val .null, .val (.ref o4)] [(.ref o0)]) _ _ _
  refine Ends.go (fun _ k => XS.aloadN X2.here hx rfl (hb hby d1_10) rfl rfl k) ?_
  show Ends p e below s T2 (mkF m 11 #[.val (.ref o0), .val (.int p1), .val .null, .val .null, .val (.ref o4)] [.null, (.ref o0)]) _ _ _
  obtain ⟨T3, h3, X3, e3, W3, st3⟩ := putF X2 hx hZ hown (host := "") (Or.inl (hw _ (List.mem_of_getElem? (i := 20) rfl))) Via.refl e2 (F0_entity.other W2 (Or.inr (slot_ne (Or.inr (hw _ (List.mem_of_getElem? (i := 21) rfl))) (Or.inr (hw _ (List.mem_of_getElem? (i := 19) rfl))) (by decide) (t := (.object "com/example/patterns_to_keys/patternstokeys/Entity")) (t' := .boolean) (by decide) (by decide)))) (Ex0.wr W2) (Or.inr ⟨(hw _ (List.mem_of_getElem? (i := 21) rfl)), rfl, hnm⟩) (hw _ (List.mem_of_getElem? (i := 5) rfl)) (ty := (.object "com/example/patterns_to_keys/patternstokeys/Entity")) (by decide) rfl rfl (g := (mkF m 11 #[.val (.ref o0), .val (.int p1), .val .null, .val .null, .val (.ref o4)] [.null, (.ref o0)])) rfl rfl (hb hby d1_11)
  refine Ends.go st3 ?_
  have Fw3 := (F0_entity.other W2 (Or.inr (slot_ne (Or.inr (hw _ (List.mem_of_getElem? (i := 21) rfl))) (Or.inr (hw _ (List.mem_of_getElem? (i := 19) rfl))) (by decide) (t := (.object "com/example/patterns_to_keys/patternstokeys/Entity")) (t' := .boolean) (by decide) (by decide)))).same W3
  have K3 := K2.wr W3 (Or.inl (List.mem_of_getElem? (i := 0) rfl))
  have O3 := O2.wr W3 g_o0
  have N3 := Fr.snoc X3 N2 g_o0
  show Ends p e below s T3 (mkF m 14 #[.val (.ref o0), .val (.int p1), .val .null, .val .null, .val (.ref o4)] []) _ _ _
  refine Ends.go (fun _ k => XS.aloadN X3.here hx rfl (hb hby d1_14) rfl rfl k) ?_
  show Ends p e below s T3 (mkF m 15 #[.val (.ref o0), .val (.int p1), .val .null, .val .null, .val (.ref o4)] [(.ref o0)]) _ _ _
  refine Ends.go (fun _ k => XS.aloadN X3.here hx rfl (hb hby d1_15) rfl rfl k) ?_
  show Ends p e below s T3 (mkF m 16 #[.val (.ref o0), .val (.int p1), .val .null, .val .null, .val (.ref o4)] [.null, (.ref o0)]) _ _ _
  obtain ⟨T4, h4, X4, e4, W4, st4⟩ := putF X3 hx hZ hown (host := "") (Or.inl (hw _ (List.mem_of_getElem? (i := 22) rfl))) Via.refl e3 ((F0_values.other W2 (Or.inr (slot_ne (Or.inr (hw _ (List.mem_of_getElem? (i := 23) rfl))) (Or.inr (hw _ (List.mem_of_getElem? (i := 19) rfl))) (by decide) (t := (.object "java/util/Map")) (t' := .boolean) (by decide) (by decide)))).other W3 (Or.inr (slot_ne (Or.inr (hw _ (List.mem_of_getElem? (i := 23) rfl))) (Or.inr (hw _ (List.mem_of_getElem? (i := 21) rfl))) (by decide) (t := (.object "java/util/Map")) (t' := (.object "com/example/patterns_to_keys/patternstokeys/Entity")) (by decide) (by decide)))) ((Ex0.wr W2).wr W3) (Or.inr ⟨(hw _ (List.mem_of_getElem? (i := 23) rfl)), rfl, hnm⟩) (hw _ (List.mem_of_getElem? (i := 5) rfl)) (ty := (.object "java/util/Map")) (by decide) rfl rfl (g := (mkF m 16 #[.val (.ref o0), .val (.int p1), .val .null, .val .null, .val (.ref o4)] [.null, (.ref o0)])) rfl rfl (hb hby d1_16)
  refine Ends.go st4 ?_
  have Fw4 := ((F0_values.other W2 (Or.inr (slot_ne (Or.inr (hw _ (List.mem_of_getElem? (i := 23) rfl))) (Or.inr (hw _ (List.mem_of_getElem? (i := 19) rfl))) (by decide) (t := (.object "java/util/Map")) (t' := .boolean) (by decide) (by decide)))).other W3 (Or.inr (slot_ne (Or.inr (hw _ (List.mem_of_getElem? (i := 23) rfl))) (Or.inr (hw _ (List.mem_of_getElem? (i := 21) rfl))) (by decide) (t := (.object "java/util/Map")) (t' := (.object "com/example/patterns_to_keys/patternstokeys/Entity")) (by decide) (by decide)))).same W4
  have K4 := K3.wr W4 (Or.inl (List.mem_of_getElem? (i := 0) rfl))
  have O4 := O3.wr W4 g_o0
  have N4 := Fr.snoc X4 N3 g_o0
  show Ends p e below s T4 (mkF m 19 #[.val (.ref o0), .val (.int p1), .val .null, .val .null, .val (.ref o4)] []) _ _ _
  refine Ends.go (fun _ k => XS.aloadN X4.here hx rfl (hb hby d1_19) rfl rfl k) ?_
  show Ends p e below s T4 (mkF m 20 #[.val (.ref o0), .val (.int p1), .val .null, .val .null, .val (.ref o4)] [(.ref o0)]) _ _ _
  refine Ends.go (fun _ k => XS.aload X4.here hx rfl (hb hby d1_20) rfl rfl k) ?_
  show Ends p e below s T4 (mkF m 22 #[.val (.ref o0), .val (.int p1), .val .null, .val .null, .val (.ref o4)] [(.ref o4), (.ref o0)]) _ _ _
  obtain ⟨T5, h5, X5, e5, W5, st5⟩ := putF X4 hx hZ hown (host := "") (Or.inl (hw _ (List.mem_of_getElem? (i := 24) rfl))) Via.refl e4 (((F0_precondition.other W2 (Or.inr (slot_ne (Or.inr (hw _ (List.mem_of_getElem? (i := 25) rfl))) (Or.inr (hw _ (List.mem_of_getElem? (i := 19) rfl))) (by decide) (t := (.object "com/example/patterns_to_keys/patternstokeys/AccessPattern$Precondition")) (t' := .boolean) (by decide) (by decide)))).other W3 (Or.inr (slot_ne (Or.inr (hw _ (List.mem_of_getElem? (i := 25) rfl))) (Or.inr (hw _ (List.mem_of_getElem? (i := 21) rfl))) (by decide) (t := (.object "com/example/patterns_to_keys/patternstokeys/AccessPattern$Precondition")) (t' := (.object "com/example/patterns_to_keys/patternstokeys/Entity")) (by decide) (by decide)))).other W4 (Or.inr (slot_ne (Or.inr (hw _ (List.mem_of_getElem? (i := 25) rfl))) (Or.inr (hw _ (List.mem_of_getElem? (i := 23) rfl))) (by decide) (t := (.object "com/example/patterns_to_keys/patternstokeys/AccessPattern$Precondition")) (t' := (.object "java/util/Map")) (by decide) (by decide)))) (((Ex0.wr W2).wr W3).wr W4) (Or.inr ⟨(hw _ (List.mem_of_getElem? (i := 25) rfl)), rfl, hnm⟩) (hw _ (List.mem_of_getElem? (i := 5) rfl)) (ty := (.object "com/example/patterns_to_keys/patternstokeys/AccessPattern$Precondition")) (by decide) rfl rfl (g := (mkF m 22 #[.val (.ref o0), .val (.int p1), .val .null, .val .null, .val (.ref o4)] [(.ref o4), (.ref o0)])) rfl rfl (hb hby d1_22)
  refine Ends.go st5 ?_
  have Fw5 := (((F0_precondition.other W2 (Or.inr (slot_ne (Or.inr (hw _ (List.mem_of_getElem? (i := 25) rfl))) (Or.inr (hw _ (List.mem_of_getElem? (i := 19) rfl))) (by decide) (t := (.object "com/example/patterns_to_keys/patternstokeys/AccessPattern$Precondition")) (t' := .boolean) (by decide) (by decide)))).other W3 (Or.inr (slot_ne (Or.inr (hw _ (List.mem_of_getElem? (i := 25) rfl))) (Or.inr (hw _ (List.mem_of_getElem? (i := 21) rfl))) (by decide) (t := (.object "com/example/patterns_to_keys/patternstokeys/AccessPattern$Precondition")) (t' := (.object "com/example/patterns_to_keys/patternstokeys/Entity")) (by decide) (by decide)))).other W4 (Or.inr (slot_ne (Or.inr (hw _ (List.mem_of_getElem? (i := 25) rfl))) (Or.inr (hw _ (List.mem_of_getElem? (i := 23) rfl))) (by decide) (t := (.object "com/example/patterns_to_keys/patternstokeys/AccessPattern$Precondition")) (t' := (.object "java/util/Map")) (by decide) (by decide)))).same W5
  have K5 := K4.wr W5 (Or.inl (List.mem_of_getElem? (i := 0) rfl))
  have O5 := O4.wr W5 g_o0
  have N5 := Fr.snoc X5 N4 g_o0
  show Ends p e below s T5 (mkF m 25 #[.val (.ref o0), .val (.int p1), .val .null, .val .null, .val (.ref o4)] []) _ _ _
  refine Ends.retV X5 hx Bd.notSynchronized Bd.returns (hb hby d1_25) (by decide) (by decide) ?_
  rw [e5]
  exact ⟨rfl, N5, K5, ((((Ex0.wr W2).wr W3).wr W4).wr W5), (((Fw2.other W3 (Or.inr (slot_ne (Or.inr (hw _ (List.mem_of_getElem? (i := 19) rfl))) (Or.inr (hw _ (List.mem_of_getElem? (i := 21) rfl))) (by decide) (t := .boolean) (t' := (.object "com/example/patterns_to_keys/patternstokeys/Entity")) (by decide) (by decide)))).other W4 (Or.inr (slot_ne (Or.inr (hw _ (List.mem_of_getElem? (i := 19) rfl))) (Or.inr (hw _ (List.mem_of_getElem? (i := 23) rfl))) (by decide) (t := .boolean) (t' := (.object "java/util/Map")) (by decide) (by decide)))).other W5 (Or.inr (slot_ne (Or.inr (hw _ (List.mem_of_getElem? (i := 19) rfl))) (Or.inr (hw _ (List.mem_of_getElem? (i := 25) rfl))) (by decide) (t := .boolean) (t' := (.object "com/example/patterns_to_keys/patternstokeys/AccessPattern$Precondition")) (by decide) (by decide)))), Fw5⟩
theorem d4_0 : decode prog_2_method_2_code 0 = .ok (.aload_n 0, 1) := by decide +kernel
theorem d4_1 : decode prog_2_method_2_code 1 = .ok (.getfield 21, 3) := by decide +kernel
theorem d4_4 : decode prog_2_method_2_code 4 = .ok (.getstatic 25, 3) := by decide +kernel
theorem d4_7 : decode prog_2_method_2_code 7 = .ok (.if_acmp .eq 20, 3) := by decide +kernel
theorem d4_10 : decode prog_2_method_2_code 10 = .ok (.aload_n 0, 1) := by decide +kernel
theorem d4_11 : decode prog_2_method_2_code 11 = .ok (.getfield 7, 3) := by decide +kernel
theorem d4_14 : decode prog_2_method_2_code 14 = .ok (.ifCond .eq 17, 3) := by decide +kernel
theorem d4_17 : decode prog_2_method_2_code 17 = .ok (.aload_n 0, 1) := by decide +kernel
theorem d4_18 : decode prog_2_method_2_code 18 = .ok (.getfield 21, 3) := by decide +kernel
theorem d4_21 : decode prog_2_method_2_code 21 = .ok (.getstatic 30, 3) := by decide +kernel
theorem d4_24 : decode prog_2_method_2_code 24 = .ok (.if_acmp .ne 7, 3) := by decide +kernel
theorem d4_27 : decode prog_2_method_2_code 27 = .ok (.iconst 1, 1) := by decide +kernel
theorem d4_28 : decode prog_2_method_2_code 28 = .ok (.goto 4, 3) := by decide +kernel
theorem d4_31 : decode prog_2_method_2_code 31 = .ok (.iconst 0, 1) := by decide +kernel
theorem d4_32 : decode prog_2_method_2_code 32 = .ok (.ireturn, 1) := by decide +kernel
theorem pn4 : plainName "com/example/patterns_to_keys/patternstokeys/AccessPattern$Action" = true := by first | (simp [plainName, overriddenIn]; done) | decide +kernel
theorem ef4 (m : MethodId) (o0 : Addr) : entryFrame m #[(.ref o0)] 1 = mkF m 0 #[.val (.ref o0)] [] := by first | (simp [entryFrame, mkF, argsToLocals, Value.category]; done) | rfl
set_option maxRecDepth 65536 in
set_option maxHeartbeats 40000000 in
theorem rmF (l : Launch) (Z : State) (a0 : Array Value) (hw : ∀ d ∈ tables_1, d.before a0 Z = true) (ws : List Jvm.Cond) (n0 : Nat) (h0 : Heap) (O0 : Old Z n0 h0) (o0 : Addr) (w_NONE : Addr) (w_IF_ABSENT : Addr) (w_IF_PRESENT : Addr) (FF : Facts Z w_NONE w_IF_ABSENT w_IF_PRESENT) (d : Int32) (pr : Addr) (F0_delete : Fld Z h0 o0 "com/example/patterns_to_keys/patternstokeys/AccessPattern$Action" "delete" "Z" (.int d)) (F0_precondition : Fld Z h0 o0 "com/example/patterns_to_keys/patternstokeys/AccessPattern$Action" "precondition" "Lcom/example/patterns_to_keys/patternstokeys/AccessPattern$Precondition;" (.ref pr)) (r : Int32) (hr : r = if pr = w_IF_ABSENT then 1 else if d = 0 then 0 else if pr = w_IF_PRESENT then 1 else 0) :
    Meets1 l (⟨"com/example/patterns_to_keys/patternstokeys/AccessPattern$Action", "refusesRepeat", "()Z"⟩ : MethodName) prog_2_method_2_code 1 (some .boolean) ws ({ frames := 0, cells := 0, slots := 0, locals := 0 } : Room) #[(.ref o0)] Z h0 (fun v h L => v = some (.int r) ∧ Fr n0 L ∧ h = h0) := by
  refine MetFree.of_bodySF (plainFor_of_name pn4) hisR ?_
  intro p e s m args below meth c s₁ Bd hml0 hP hK
  obtain ⟨rfl, hZ, hh⟩ := hP
  have hx := Bd.exec
  have hby := Bd.bytes
  have hml : c.maxLocals = 1 := hml0
  have hown : s.vm.findClass "com/example/patterns_to_keys/patternstokeys/AccessPattern$Action" = some m.cls := findClass_of_methodNamed Bd.named
  have hnm := (name_of_methodNamed Bd.named Bd.method).1
  have X0 : Stand p l e ({ frames := 0, cells := 0, slots := 0, locals := 0 } : Room) s m #[(.ref o0)] below meth c s₁ [] 0 0 := Stand.of_body Bd
  have e0 : s₁.heap = h0 := by rw [← hh, Bd.state]; rfl
  have N0 := Fr.nil n0
  have Z0 := own_old_le O0
  show Ends p e below s s₁ (entryFrame m #[(.ref o0)] 1) ({ frames := 0, cells := 0, slots := 0, locals := 0 } : Room).cells ({ frames := 0, cells := 0, slots := 0, locals := 0 } : Room).slots (fun v h L => v = some (.int r) ∧ Fr n0 L ∧ h = h0)
  refine Ends.go (fun _ k => castTop (ef4 m o0) k) ?_
  have K0 := Keep.refl h0 []
  have FF0 := FF
  obtain ⟨S_NONE, E_NONE, S_IF_ABSENT, E_IF_ABSENT, F_ordinal_NONE, F_ordinal_IF_ABSENT, S_IF_PRESENT, E_IF_PRESENT, F_ordinal_IF_PRESENT⟩ := FF
  show Ends p e below s s₁ (mkF m 0 #[.val (.ref o0)] []) _ _ _
  refine Ends.go (fun _ k => XS.aloadN X0.here hx rfl (hb hby d4_0) rfl rfl k) ?_
  show Ends p e below s s₁ (mkF m 1 #[.val (.ref o0)] [(.ref o0)]) _ _ _
  obtain ⟨T1, X1, e1, st1⟩ := getF X0 hx hZ hown (host := "") (Or.inl (hw _ (List.mem_of_getElem? (i := 24) rfl))) Via.refl e0 F0_precondition (g := (mkF m 1 #[.val (.ref o0)] [(.ref o0)])) rfl rfl (hb hby d4_1)
  refine Ends.go st1 ?_
  show Ends p e below s T1 (mkF m 4 #[.val (.ref o0)] [(.ref pr)]) _ _ _
  obtain ⟨T2, X2, e2, st2⟩ := getS2 X1 hx hZ hown (host := "") (Or.inl (hw _ (List.mem_of_getElem? (i := 31) rfl))) Via.refl e1 (S_IF_ABSENT.ext O0.2) (g := (mkF m 4 #[.val (.ref o0)] [(.ref pr)])) rfl (hb hby d4_4)
  refine Ends.go st2 ?_
  show Ends p e below s T2 (mkF m 7 #[.val (.ref o0)] [(.ref w_IF_ABSENT), (.ref pr)]) _ _ _
  by_cases ha7_3 : pr = w_IF_ABSENT
  · refine Ends.go (fun _ k => Jvm.RoadKit.acmp (g := (mkF m 7 #[.val (.ref o0)] [(.ref w_IF_ABSENT), (.ref pr)])) X2 hx rfl rfl rfl (pc0 := 7) (pc' := 27) (same := true) rfl (hb hby d4_7) rfl (decide_eq_true (congrArg Value.ref ha7_3)) (by decide) (by decide) k) ?_
    show Ends p e below s T2 (mkF m 27 #[.val (.ref o0)] []) _ _ _
    refine Ends.go (fun _ k => XS.iconst X2.here hx rfl (hb hby d4_27) k) ?_
    show Ends p e below s T2 (mkF m 28 #[.val (.ref o0)] [(.int (1 : Int32))]) _ _ _
    refine Ends.go (fun _ k => XS.goto X2.here hx rfl (pc0 := 28) (pc' := 32) rfl (hb hby d4_28) (by decide) (by decide) k) ?_
    show Ends p e below s T2 (mkF m 32 #[.val (.ref o0)] [(.int (1 : Int32))]) _ _ _
    refine Ends.retZ X2 hx Bd.notSynchronized (t := .boolean) Bd.returns (by simp) (hb hby d4_32) (by decide) (by decide) ?_
    refine ⟨?_, N0, e2⟩
    show (some (.int (1 : Int32)) : Option Value) = _
    rw [hr]; simp [ha7_3]
  · refine Ends.go (fun _ k => Jvm.RoadKit.acmp (g := (mkF m 7 #[.val (.ref o0)] [(.ref w_IF_ABSENT), (.ref pr)])) X2 hx rfl rfl rfl (pc0 := 7) (pc' := 10) (same := false) rfl (hb hby d4_7) rfl (decide_eq_false fun q => ha7_3 (Value.ref.inj q)) (by decide) (by decide) k) ?_
    show Ends p e below s T2 (mkF m 10 #[.val (.ref o0)] []) _ _ _
    refine Ends.go (fun _ k => XS.aloadN X2.here hx rfl (hb hby d4_10) rfl rfl k) ?_
    show Ends p e below s T2 (mkF m 11 #[.val (.ref o0)] [(.ref o0)]) _ _ _
    obtain ⟨T4, X4, e4, st4⟩ := getF X2 hx hZ hown (host := "") (Or.inl (hw _ (List.mem_of_getElem? (i := 18) rfl))) Via.refl e2 F0_delete (g := (mkF m 11 #[.val (.ref o0)] [(.ref o0)])) rfl rfl (hb hby d4_11)
    refine Ends.go st4 ?_
    show Ends p e below s T4 (mkF m 14 #[.val (.ref o0)] [(.int d)]) _ _ _
    by_cases hc14_5 : d = (0 : Int32)
    · refine Ends.go (fun _ k => XS.ifYes X4.here hx rfl (pc0 := 14) (pc' := 31) rfl (hb hby d4_14) rfl ((if0 _ _).trans (teq hc14_5).1) (by decide) (by decide) k) ?_
      show Ends p e below s T4 (mkF m 31 #[.val (.ref o0)] []) _ _ _
      refine Ends.go (fun _ k => XS.iconst X4.here hx rfl (hb hby d4_31) k) ?_
      show Ends p e below s T4 (mkF m 32 #[.val (.ref o0)] [(.int (0 : Int32))]) _ _ _
      refine Ends.retZ X4 hx Bd.notSynchronized (t := .boolean) Bd.returns (by simp) (hb hby d4_32) (by decide) (by decide) ?_
      refine ⟨?_, N0, e4⟩
      show (some (.int (0 : Int32)) : Option Value) = _
      rw [hr]; simp [ha7_3, hc14_5]
    · refine Ends.go (fun _ k => XS.ifNo X4.here hx rfl (hb hby d4_14) rfl ((if0 _ _).trans (feq hc14_5).1) k) ?_
      show Ends p e below s T4 (mkF m 17 #[.val (.ref o0)] []) _ _ _
      refine Ends.go (fun _ k => XS.aloadN X4.here hx rfl (hb hby d4_17) rfl rfl k) ?_
      show Ends p e below s T4 (mkF m 18 #[.val (.ref o0)] [(.ref o0)]) _ _ _
      obtain ⟨T6, X6, e6, st6⟩ := getF X4 hx hZ hown (host := "") (Or.inl (hw _ (List.mem_of_getElem? (i := 24) rfl))) Via.refl e4 F0_precondition (g := (mkF m 18 #[.val (.ref o0)] [(.ref o0)])) rfl rfl (hb hby d4_18)
      refine Ends.go st6 ?_
      show Ends p e below s T6 (mkF m 21 #[.val (.ref o0)] [(.ref pr)]) _ _ _
      obtain ⟨T7, X7, e7, st7⟩ := getS2 X6 hx hZ hown (host := "") (Or.inl (hw _ (List.mem_of_getElem? (i := 36) rfl))) Via.refl e6 (S_IF_PRESENT.ext O0.2) (g := (mkF m 21 #[.val (.ref o0)] [(.ref pr)])) rfl (hb hby d4_21)
      refine Ends.go st7 ?_
      show Ends p e below s T7 (mkF m 24 #[.val (.ref o0)] [(.ref w_IF_PRESENT), (.ref pr)]) _ _ _
      by_cases ha24_8 : pr = w_IF_PRESENT
      · refine Ends.go (fun _ k => Jvm.RoadKit.acmp (g := (mkF m 24 #[.val (.ref o0)] [(.ref w_IF_PRESENT), (.ref pr)])) X7 hx rfl rfl rfl (pc0 := 24) (pc' := 27) (same := true) rfl (hb hby d4_24) rfl (decide_eq_true (congrArg Value.ref ha24_8)) (by decide) (by decide) k) ?_
        show Ends p e below s T7 (mkF m 27 #[.val (.ref o0)] []) _ _ _
        refine Ends.go (fun _ k => XS.iconst X7.here hx rfl (hb hby d4_27) k) ?_
        show Ends p e below s T7 (mkF m 28 #[.val (.ref o0)] [(.int (1 : Int32))]) _ _ _
        refine Ends.go (fun _ k => XS.goto X7.here hx rfl (pc0 := 28) (pc' := 32) rfl (hb hby d4_28) (by decide) (by decide) k) ?_
        show Ends p e below s T7 (mkF m 32 #[.val (.ref o0)] [(.int (1 : Int32))]) _ _ _
        refine Ends.retZ X7 hx Bd.notSynchronized (t := .boolean) Bd.returns (by simp) (hb hby d4_32) (by decide) (by decide) ?_
        refine ⟨?_, N0, e7⟩
        show (some (.int (1 : Int32)) : Option Value) = _
        rw [hr]; simp [ha7_3, hc14_5, ha24_8]
      · refine Ends.go (fun _ k => Jvm.RoadKit.acmp (g := (mkF m 24 #[.val (.ref o0)] [(.ref w_IF_PRESENT), (.ref pr)])) X7 hx rfl rfl rfl (pc0 := 24) (pc' := 31) (same := false) rfl (hb hby d4_24) rfl (decide_eq_false fun q => ha24_8 (Value.ref.inj q)) (by decide) (by decide) k) ?_
        show Ends p e below s T7 (mkF m 31 #[.val (.ref o0)] []) _ _ _
        refine Ends.go (fun _ k => XS.iconst X7.here hx rfl (hb hby d4_31) k) ?_
        show Ends p e below s T7 (mkF m 32 #[.val (.ref o0)] [(.int (0 : Int32))]) _ _ _
        refine Ends.retZ X7 hx Bd.notSynchronized (t := .boolean) Bd.returns (by simp) (hb hby d4_32) (by decide) (by decide) ?_
        refine ⟨?_, N0, e7⟩
        show (some (.int (0 : Int32)) : Option Value) = _
        rw [hr]; simp [ha7_3, hc14_5, ha24_8]
theorem pn0 : plainName "com/example/patterns_to_keys/patternstokeys/ActionRefusesRepeatPinLaw" = true := by first | (simp [plainName, overriddenIn]; done) | decide +kernel
theorem pd0_0 : parseMethodDescriptor "(ZLcom/example/patterns_to_keys/patternstokeys/Entity;Ljava/util/Map;Lcom/example/patterns_to_keys/patternstokeys/AccessPattern$Precondition;)V" = some ⟨[.boolean, (.object "com/example/patterns_to_keys/patternstokeys/Entity"), (.object "java/util/Map"), (.object "com/example/patterns_to_keys/patternstokeys/AccessPattern$Precondition")], none⟩ := by decide +kernel
theorem pd0_1 : parseMethodDescriptor "()Z" = some ⟨[], some .boolean⟩ := by decide +kernel
theorem ef0 (m : MethodId) (p0 : Int32) (p1 : Int32) : entryFrame m #[(.int p0), (.int p1)] maxLocals = mkF m 0 #[.val (.int p0), .val (.int p1), .unset, .unset, .unset, .unset, .unset] [] := by first | (simp [entryFrame, mkF, argsToLocals, Value.category, maxLocals]; done) | rfl
set_option maxRecDepth 65536 in
set_option maxHeartbeats 40000000 in
theorem rm0 (l : Launch) (Z : State) (a0 : Array Value) (hw : ∀ d ∈ tables_1, d.before a0 Z = true) (ws : List Jvm.Cond) (n0 : Nat) (h0 : Heap) (O0 : Old Z n0 h0) (p0 : Int32) (p1 : Int32) (w_NONE : Addr) (w_IF_ABSENT : Addr) (w_IF_PRESENT : Addr) (FF : Facts Z w_NONE w_IF_ABSENT w_IF_PRESENT) :
    Meets1 l x code maxLocals ret ws room_1 #[(.int p0), (.int p1)] Z h0 (fun v h L => v = some (.int (1 : Int32)) ∧ Fr n0 L) := by
  refine MetFree.of_bodySF (plainFor_of_name pn0) hisR ?_
  intro p e s m args below meth c s₁ Bd hml0 hP hK
  obtain ⟨rfl, hZ, hh⟩ := hP
  have hx := Bd.exec
  have hby := Bd.bytes
  have hml : c.maxLocals = 7 := hml0
  have hown : s.vm.findClass "com/example/patterns_to_keys/patternstokeys/ActionRefusesRepeatPinLaw" = some m.cls := findClass_of_methodNamed Bd.named
  have hnm := (name_of_methodNamed Bd.named Bd.method).1
  have X0 : Stand p l e room_1 s m #[(.int p0), (.int p1)] below meth c s₁ [] 0 0 := Stand.of_body Bd
  have e0 : s₁.heap = h0 := by rw [← hh, Bd.state]; rfl
  have N0 := Fr.nil n0
  have Z0 := own_old_le O0
  show Ends p e below s s₁ (entryFrame m #[(.int p0), (.int p1)] maxLocals) room_1.cells room_1.slots (fun v h L => v = some (.int (1 : Int32)) ∧ Fr n0 L)
  refine Ends.go (fun _ k => castTop (ef0 m p0 p1) k) ?_
  have K0 := Keep.refl h0 []
  have FF0 := FF
  obtain ⟨S_NONE, E_NONE, S_IF_ABSENT, E_IF_ABSENT, F_ordinal_NONE, F_ordinal_IF_ABSENT, S_IF_PRESENT, E_IF_PRESENT, F_ordinal_IF_PRESENT⟩ := FF
  show Ends p e below s s₁ (mkF m 0 #[.val (.int p0), .val (.int p1), .unset, .unset, .unset, .unset, .unset] []) _ _ _
  refine Ends.go (fun _ k => XS.iloadN X0.here hx rfl (hb hby at_0) rfl k) ?_
  show Ends p e below s s₁ (mkF m 1 #[.val (.int p0), .val (.int p1), .unset, .unset, .unset, .unset, .unset] [(.int p0)]) _ _ _
  refine Ends.go (fun _ k => XS.iconst X0.here hx rfl (hb hby at_1) k) ?_
  show Ends p e below s s₁ (mkF m 2 #[.val (.int p0), .val (.int p1), .unset, .unset, .unset, .unset, .unset] [(.int (1 : Int32)), (.int p0)]) _ _ _
  refine Ends.go (fun _ k => XS.iand X0.here hx rfl (hb hby at_2) rfl k) ?_
  show Ends p e below s s₁ (mkF m 3 #[.val (.int p0), .val (.int p1), .unset, .unset, .unset, .unset, .unset] [(.int (p0 &&& (1 : Int32)))]) _ _ _
  by_cases hc3_1 : (p0 &&& (1 : Int32)) = (0 : Int32)
  · refine Ends.go (fun _ k => XS.ifYes X0.here hx rfl (pc0 := 3) (pc' := 10) rfl (hb hby at_3) rfl ((if0 _ _).trans (teq hc3_1).1) (by decide) (by decide) k) ?_
    show Ends p e below s s₁ (mkF m 10 #[.val (.int p0), .val (.int p1), .unset, .unset, .unset, .unset, .unset] []) _ _ _
    refine Ends.go (fun _ k => XS.iconst X0.here hx rfl (hb hby at_10) k) ?_
    show Ends p e below s s₁ (mkF m 11 #[.val (.int p0), .val (.int p1), .unset, .unset, .unset, .unset, .unset] [(.int (0 : Int32))]) _ _ _
    refine Ends.go (fun _ k => XS.istoreN X0.here hx rfl (hb hby at_11) rfl (l' := #[.val (.int p0), .val (.int p1), .val (.int (0 : Int32)), .unset, .unset, .unset, .unset]) rfl k) ?_
    show Ends p e below s s₁ (mkF m 12 #[.val (.int p0), .val (.int p1), .val (.int (0 : Int32)), .unset, .unset, .unset, .unset] []) _ _ _
    refine Ends.go (fun _ k => XS.iloadN X0.here hx rfl (hb hby at_12) rfl k) ?_
    show Ends p e below s s₁ (mkF m 13 #[.val (.int p0), .val (.int p1), .val (.int (0 : Int32)), .unset, .unset, .unset, .unset] [(.int p1)]) _ _ _
    refine Ends.go (X0.ldcInt hx hown (mvT hZ (hw _ (List.mem_of_getElem? (i := 0) rfl))) (g := (mkF m 13 #[.val (.int p0), .val (.int p1), .val (.int (0 : Int32)), .unset, .unset, .unset, .unset] [(.int p1)])) rfl (hb hby at_13)) ?_
    show Ends p e below s s₁ (mkF m 15 #[.val (.int p0), .val (.int p1), .val (.int (0 : Int32)), .unset, .unset, .unset, .unset] [(.int (2147483647 : Int32)), (.int p1)]) _ _ _
    refine Ends.go (fun _ k => XS.iand X0.here hx rfl (hb hby at_15) rfl k) ?_
    show Ends p e below s s₁ (mkF m 16 #[.val (.int p0), .val (.int p1), .val (.int (0 : Int32)), .unset, .unset, .unset, .unset] [(.int (p1 &&& (2147483647 : Int32)))]) _ _ _
    refine Ends.go (fun _ k => XS.iconst X0.here hx rfl (hb hby at_16) k) ?_
    show Ends p e below s s₁ (mkF m 17 #[.val (.int p0), .val (.int p1), .val (.int (0 : Int32)), .unset, .unset, .unset, .unset] [(.int (3 : Int32)), (.int (p1 &&& (2147483647 : Int32)))]) _ _ _
    refine Ends.go (fun _ k => iremM X0 hx rfl (hb hby at_17) rfl (by decide) k) ?_
    show Ends p e below s s₁ (mkF m 18 #[.val (.int p0), .val (.int p1), .val (.int (0 : Int32)), .unset, .unset, .unset, .unset] [(.int ((p1 &&& (2147483647 : Int32)) % (3 : Int32)))]) _ _ _
    generalize hi2 : ((p1 &&& (2147483647 : Int32)) % (3 : Int32)) = i2
    rcases own_mod p1 i2 hi2 with rfl | rfl | rfl
    · show Ends p e below s s₁ (mkF m 18 #[.val (.int p0), .val (.int p1), .val (.int (0 : Int32)), .unset, .unset, .unset, .unset] [(.int (0 : Int32))]) _ _ _
      refine Ends.go (fun _ k => XS.istoreN X0.here hx rfl (hb hby at_18) rfl (l' := #[.val (.int p0), .val (.int p1), .val (.int (0 : Int32)), .val (.int (0 : Int32)), .unset, .unset, .unset]) rfl k) ?_
      show Ends p e below s s₁ (mkF m 19 #[.val (.int p0), .val (.int p1), .val (.int (0 : Int32)), .val (.int (0 : Int32)), .unset, .unset, .unset] []) _ _ _
      refine Ends.go (fun _ k => XS.iloadN X0.here hx rfl (hb hby at_19) rfl k) ?_
      show Ends p e below s s₁ (mkF m 20 #[.val (.int p0), .val (.int p1), .val (.int (0 : Int32)), .val (.int (0 : Int32)), .unset, .unset, .unset] [(.int (0 : Int32))]) _ _ _
      refine Ends.go (fun _ k => XS.ifNo X0.here hx rfl (hb hby at_20) rfl ((if0 _ _).trans (teq (by decide : (0 : Int32) = (0 : Int32))).2) k) ?_
      show Ends p e below s s₁ (mkF m 23 #[.val (.int p0), .val (.int p1), .val (.int (0 : Int32)), .val (.int (0 : Int32)), .unset, .unset, .unset] []) _ _ _
      obtain ⟨T3, X3, e3, st3⟩ := getS2 X0 hx hZ hown (host := "") (Or.inl (hw _ (List.mem_of_getElem? (i := 1) rfl))) Via.refl e0 (S_NONE.ext O0.2) (g := (mkF m 23 #[.val (.int p0), .val (.int p1), .val (.int (0 : Int32)), .val (.int (0 : Int32)), .unset, .unset, .unset] [])) rfl (hb hby at_23)
      refine Ends.go st3 ?_
      show Ends p e below s T3 (mkF m 26 #[.val (.int p0), .val (.int p1), .val (.int (0 : Int32)), .val (.int (0 : Int32)), .unset, .unset, .unset] [(.ref w_NONE)]) _ _ _
      refine Ends.go (fun _ k => XS.astore X3.here hx rfl (hb hby at_26) rfl rfl (l' := #[.val (.int p0), .val (.int p1), .val (.int (0 : Int32)), .val (.int (0 : Int32)), .val (.ref w_NONE), .unset, .unset]) rfl k) ?_
      show Ends p e below s T3 (mkF m 28 #[.val (.int p0), .val (.int p1), .val (.int (0 : Int32)), .val (.int (0 : Int32)), .val (.ref w_NONE), .unset, .unset] []) _ _ _
      refine Ends.go (fun _ k => XS.goto X3.here hx rfl (pc0 := 28) (pc' := 49) rfl (hb hby at_28) (by decide) (by decide) k) ?_
      show Ends p e below s T3 (mkF m 49 #[.val (.int p0), .val (.int p1), .val (.int (0 : Int32)), .val (.int (0 : Int32)), .val (.ref w_NONE), .unset, .unset] []) _ _ _
      obtain ⟨T4, h4, X4, e4, E4, A4, D4, -, st4⟩ := newO X3 hx hZ hown (hw _ (List.mem_of_getElem? (i := 4) rfl)) (hw _ (List.mem_of_getElem? (i := 5) rfl)) (hw _ (List.mem_of_getElem? (i := 6) rfl)) e3 (g := (mkF m 49 #[.val (.int p0), .val (.int p1), .val (.int (0 : Int32)), .val (.int (0 : Int32)), .val (.ref w_NONE), .unset, .unset] [])) rfl (hb hby at_49) (by decide) (by decide)
      obtain ⟨b4, g4⟩ : ∃ z, z = h0.size := ⟨_, rfl⟩
      rw [← g4] at A4 D4 st4
      refine Ends.go st4 ?_
      have g_b4 : n0 ≤ b4 := Nat.le_trans (own_old_le O0) (Nat.le_of_eq g4.symm)
      have sz_b4 : h0.size ≤ b4 := Nat.le_trans K0.1 (Nat.le_of_eq g4.symm)
      have K4 := K0.ext E4
      have O4 := O0.ext E4
      have F_delete_b4 : Fld Z h4 b4 "com/example/patterns_to_keys/patternstokeys/AccessPattern$Action" "delete" "Z" (.int (0 : Int32)) := D4 (Or.inr (hw _ (List.mem_of_getElem? (i := 19) rfl))) (ty := .boolean) (by decide)
      have F_entity_b4 : Fld Z h4 b4 "com/example/patterns_to_keys/patternstokeys/AccessPattern$Action" "entity" "Lcom/example/patterns_to_keys/patternstokeys/Entity;" .null := D4 (Or.inr (hw _ (List.mem_of_getElem? (i := 21) rfl))) (ty := (.object "com/example/patterns_to_keys/patternstokeys/Entity")) (by decide)
      have F_values_b4 : Fld Z h4 b4 "com/example/patterns_to_keys/patternstokeys/AccessPattern$Action" "values" "Ljava/util/Map;" .null := D4 (Or.inr (hw _ (List.mem_of_getElem? (i := 23) rfl))) (ty := (.object "java/util/Map")) (by decide)
      have F_precondition_b4 : Fld Z h4 b4 "com/example/patterns_to_keys/patternstokeys/AccessPattern$Action" "precondition" "Lcom/example/patterns_to_keys/patternstokeys/AccessPattern$Precondition;" .null := D4 (Or.inr (hw _ (List.mem_of_getElem? (i := 25) rfl))) (ty := (.object "com/example/patterns_to_keys/patternstokeys/AccessPattern$Precondition")) (by decide)
      show Ends p e below s T4 (mkF m 52 #[.val (.int p0), .val (.int p1), .val (.int (0 : Int32)), .val (.int (0 : Int32)), .val (.ref w_NONE), .unset, .unset] [(.ref b4)]) _ _ _
      refine Ends.go (fun _ k => XS.dup X4.here hx rfl (hb hby at_52) rfl rfl k) ?_
      show Ends p e below s T4 (mkF m 53 #[.val (.int p0), .val (.int p1), .val (.int (0 : Int32)), .val (.int (0 : Int32)), .val (.ref w_NONE), .unset, .unset] [(.ref b4), (.ref b4)]) _ _ _
      refine Ends.go (fun _ k => XS.iloadN X4.here hx rfl (hb hby at_53) rfl k) ?_
      show Ends p e below s T4 (mkF m 54 #[.val (.int p0), .val (.int p1), .val (.int (0 : Int32)), .val (.int (0 : Int32)), .val (.ref w_NONE), .unset, .unset] [(.int (0 : Int32)), (.ref b4), (.ref b4)]) _ _ _
      refine Ends.go (fun _ k => XS.aconstNull X4.here hx rfl (hb hby at_54) k) ?_
      show Ends p e below s T4 (mkF m 55 #[.val (.int p0), .val (.int p1), .val (.int (0 : Int32)), .val (.int (0 : Int32)), .val (.ref w_NONE), .unset, .unset] [.null, (.int (0 : Int32)), (.ref b4), (.ref b4)]) _ _ _
      refine Ends.go (fun _ k => XS.aconstNull X4.here hx rfl (hb hby at_55) k) ?_
      show Ends p e below s T4 (mkF m 56 #[.val (.int p0), .val (.int p1), .val (.int (0 : Int32)), .val (.int (0 : Int32)), .val (.ref w_NONE), .unset, .unset] [.null, .null, (.int (0 : Int32)), (.ref b4), (.ref b4)]) _ _ _
      refine Ends.go (fun _ k => XS.aload X4.here hx rfl (hb hby at_56) rfl rfl k) ?_
      show Ends p e below s T4 (mkF m 58 #[.val (.int p0), .val (.int p1), .val (.int (0 : Int32)), .val (.int (0 : Int32)), .val (.ref w_NONE), .unset, .unset] [(.ref w_NONE), .null, .null, (.int (0 : Int32)), (.ref b4), (.ref b4)]) _ _ _
      obtain ⟨_, _, ⟨T5, L5, k5, n5⟩, -, X5, ⟨Lc5, hQ5, l5, y5, z5⟩, st5⟩ := X4.specialBack hx (y := (⟨"com/example/patterns_to_keys/patternstokeys/AccessPattern$Action", "<init>", "(ZLcom/example/patterns_to_keys/patternstokeys/Entity;Ljava/util/Map;Lcom/example/patterns_to_keys/patternstokeys/AccessPattern$Precondition;)V"⟩ : MethodName)) rfl hown (mvT hZ (hw _ (List.mem_of_getElem? (i := 7) rfl))) (mvT hZ (hw _ (List.mem_of_getElem? (i := 8) rfl))) (mvT hZ (hw _ (List.mem_of_getElem? (i := 9) rfl))) (by decide) (own_backOf (W := 1) (rmI l Z a0 hw [] n0 h4 O4 b4 (0 : Int32) w_NONE g_b4 A4 F_delete_b4 F_entity_b4 F_values_b4 F_precondition_b4 (0 : Int32) rfl) hZ (hw _ (List.mem_of_getElem? (i := 9) rfl)) (hw _ (List.mem_of_getElem? (i := 6) rfl)) (by decide) (by decide)) (g := (mkF m 58 #[.val (.int p0), .val (.int p1), .val (.int (0 : Int32)), .val (.int (0 : Int32)), .val (.ref w_NONE), .unset, .unset] [(.ref w_NONE), .null, .null, (.int (0 : Int32)), (.ref b4), (.ref b4)])) rfl (by rw [hml]; rfl) (Steps.refl _) (a := b4) (argsL := [(.int (0 : Int32)), .null, .null, (.ref w_NONE)]) (rest := [(.ref b4)]) (lenOf pd0_0 rfl) rfl (by show 2 * 0 + _ ≤ _; exact Nat.le_of_eq rfl) (hb hby at_58) (fun _ _ => ⟨rfl, e4, (by decide : 1 + 0 ≤ _), (by decide : 4 + 0 ≤ _)⟩)
      dsimp only [Pt.U, Pt.locs, Pt.cells, Pt.slots] at X5 l5 y5 z5 st5 hQ5
      subst l5 y5 z5
      obtain ⟨rfl, N5q, K5c, Eq5, Fd5, Fp5⟩ := hQ5
      have N5 := Fr.app N0 N5q
      refine Ends.go (fun _ k => st5.trans k) ?_
      obtain ⟨h5, e5⟩ : ∃ z, T5.heap = z := ⟨_, rfl⟩
      rw [e5] at K5c Eq5 Fd5 Fp5
      have K5 := K4.trans K5c (allS (Or.inr sz_b4) all0)
      have O5 := O4.keep K5c (allS g_b4 all0)
      show Ends p e below s T5 (mkF m 61 #[.val (.int p0), .val (.int p1), .val (.int (0 : Int32)), .val (.int (0 : Int32)), .val (.ref w_NONE), .unset, .unset] [(.ref b4)]) _ _ _
      refine Ends.go (fun _ k => XS.astore X5.here hx rfl (hb hby at_61) rfl rfl (l' := #[.val (.int p0), .val (.int p1), .val (.int (0 : Int32)), .val (.int (0 : Int32)), .val (.ref w_NONE), .val (.ref b4), .unset]) rfl k) ?_
      show Ends p e below s T5 (mkF m 63 #[.val (.int p0), .val (.int p1), .val (.int (0 : Int32)), .val (.int (0 : Int32)), .val (.ref w_NONE), .val (.ref b4), .unset] []) _ _ _
      refine Ends.go (fun _ k => XS.iloadN X5.here hx rfl (hb hby at_63) rfl k) ?_
      show Ends p e below s T5 (mkF m 64 #[.val (.int p0), .val (.int p1), .val (.int (0 : Int32)), .val (.int (0 : Int32)), .val (.ref w_NONE), .val (.ref b4), .unset] [(.int (0 : Int32))]) _ _ _
      refine Ends.go (fun _ k => XS.ifNo X5.here hx rfl (hb hby at_64) rfl ((if0 _ _).trans (teq (by decide : (0 : Int32) = (0 : Int32))).2) k) ?_
      show Ends p e below s T5 (mkF m 67 #[.val (.int p0), .val (.int p1), .val (.int (0 : Int32)), .val (.int (0 : Int32)), .val (.ref w_NONE), .val (.ref b4), .unset] []) _ _ _
      refine Ends.go (fun _ k => XS.iconst X5.here hx rfl (hb hby at_67) k) ?_
      show Ends p e below s T5 (mkF m 68 #[.val (.int p0), .val (.int p1), .val (.int (0 : Int32)), .val (.int (0 : Int32)), .val (.ref w_NONE), .val (.ref b4), .unset] [(.int (0 : Int32))]) _ _ _
      refine Ends.go (fun _ k => XS.istore X5.here hx rfl (hb hby at_68) rfl (l' := #[.val (.int p0), .val (.int p1), .val (.int (0 : Int32)), .val (.int (0 : Int32)), .val (.ref w_NONE), .val (.ref b4), .val (.int (0 : Int32))]) rfl k) ?_
      show Ends p e below s T5 (mkF m 70 #[.val (.int p0), .val (.int p1), .val (.int (0 : Int32)), .val (.int (0 : Int32)), .val (.ref w_NONE), .val (.ref b4), .val (.int (0 : Int32))] []) _ _ _
      refine Ends.go (fun _ k => XS.goto X5.here hx rfl (pc0 := 70) (pc' := 87) rfl (hb hby at_70) (by decide) (by decide) k) ?_
      show Ends p e below s T5 (mkF m 87 #[.val (.int p0), .val (.int p1), .val (.int (0 : Int32)), .val (.int (0 : Int32)), .val (.ref w_NONE), .val (.ref b4), .val (.int (0 : Int32))] []) _ _ _
      refine Ends.go (fun _ k => XS.aload X5.here hx rfl (hb hby at_87) rfl rfl k) ?_
      show Ends p e below s T5 (mkF m 89 #[.val (.int p0), .val (.int p1), .val (.int (0 : Int32)), .val (.int (0 : Int32)), .val (.ref w_NONE), .val (.ref b4), .val (.int (0 : Int32))] [(.ref b4)]) _ _ _
      obtain ⟨cq6, kq6, q6a, q6b, q6c⟩ := isOf hZ e5 Eq5
      obtain ⟨_, _, ⟨T6, L6, k6, n6⟩, -, X6, ⟨Lc6, hQ6, l6, y6, z6⟩, st6⟩ := X5.virtualBack hx (y := (⟨"com/example/patterns_to_keys/patternstokeys/AccessPattern$Action", "refusesRepeat", "()Z"⟩ : MethodName)) (z := (⟨"com/example/patterns_to_keys/patternstokeys/AccessPattern$Action", "refusesRepeat", "()Z"⟩ : MethodName)) hown (mvT hZ (hw _ (List.mem_of_getElem? (i := 26) rfl))) (mvT hZ (hw _ (List.mem_of_getElem? (i := 27) rfl))) (notFace_of_selects (args := #[]) (mvT hZ (hw _ (List.mem_of_getElem? (i := 29) rfl)))) (mvT hZ (hw _ (List.mem_of_getElem? (i := 29) rfl))) (mvT hZ (hw _ (List.mem_of_getElem? (i := 28) rfl))) (by decide) (own_backOf (W := 0) (rmF l Z a0 hw [] n0 h5 O5 b4 w_NONE w_IF_ABSENT w_IF_PRESENT FF0 (0 : Int32) w_NONE Fd5 Fp5 (0 : Int32) (by rw [if_neg (Fld.ne F_ordinal_NONE F_ordinal_IF_ABSENT (by decide)), if_pos rfl])) hZ (hw _ (List.mem_of_getElem? (i := 30) rfl)) (hw _ (List.mem_of_getElem? (i := 6) rfl)) (by decide) (by decide)) q6a q6c (g := (mkF m 89 #[.val (.int p0), .val (.int p1), .val (.int (0 : Int32)), .val (.int (0 : Int32)), .val (.ref w_NONE), .val (.ref b4), .val (.int (0 : Int32))] [(.ref b4)])) rfl (by rw [hml]; rfl) (Steps.refl _) (argsL := []) (rest := []) (lenOf pd0_1 rfl) rfl (by show 2 * 0 + _ ≤ _; exact Nat.le_of_eq rfl) (hb hby at_89) (fun _ _ => ⟨rfl, e5, (by decide : 1 + 0 ≤ _), (by decide : 4 + 0 ≤ _)⟩)
      dsimp only [Pt.U, Pt.locs, Pt.cells, Pt.slots] at X6 l6 y6 z6 st6 hQ6
      subst l6 y6 z6
      obtain ⟨rfl, N6q, e6q⟩ := hQ6
      have N6 := Fr.app N5 N6q
      refine Ends.go (fun _ k => st6.trans k) ?_
      show Ends p e below s T6 (mkF m 92 #[.val (.int p0), .val (.int p1), .val (.int (0 : Int32)), .val (.int (0 : Int32)), .val (.ref w_NONE), .val (.ref b4), .val (.int (0 : Int32))] [(.int (0 : Int32))]) _ _ _
      refine Ends.go (fun _ k => XS.iload X6.here hx rfl (hb hby at_92) rfl k) ?_
      show Ends p e below s T6 (mkF m 94 #[.val (.int p0), .val (.int p1), .val (.int (0 : Int32)), .val (.int (0 : Int32)), .val (.ref w_NONE), .val (.ref b4), .val (.int (0 : Int32))] [(.int (0 : Int32)), (.int (0 : Int32))]) _ _ _
      refine Ends.go (fun _ k => XS.icmpNo X6.here hx rfl (hb hby at_94) rfl (teq (by decide : (0 : Int32) = (0 : Int32))).2 k) ?_
      show Ends p e below s T6 (mkF m 97 #[.val (.int p0), .val (.int p1), .val (.int (0 : Int32)), .val (.int (0 : Int32)), .val (.ref w_NONE), .val (.ref b4), .val (.int (0 : Int32))] []) _ _ _
      refine Ends.go (fun _ k => XS.iconst X6.here hx rfl (hb hby at_97) k) ?_
      show Ends p e below s T6 (mkF m 98 #[.val (.int p0), .val (.int p1), .val (.int (0 : Int32)), .val (.int (0 : Int32)), .val (.ref w_NONE), .val (.ref b4), .val (.int (0 : Int32))] [(.int (1 : Int32))]) _ _ _
      refine Ends.go (fun _ k => XS.goto X6.here hx rfl (pc0 := 98) (pc' := 102) rfl (hb hby at_98) (by decide) (by decide) k) ?_
      show Ends p e below s T6 (mkF m 102 #[.val (.int p0), .val (.int p1), .val (.int (0 : Int32)), .val (.int (0 : Int32)), .val (.ref w_NONE), .val (.ref b4), .val (.int (0 : Int32))] [(.int (1 : Int32))]) _ _ _
      refine Ends.retZ X6 hx Bd.notSynchronized (t := .boolean) Bd.returns (by simp) (hb hby at_102) (by decide) (by decide) ?_
      exact ⟨rfl, N6⟩
    · show Ends p e below s s₁ (mkF m 18 #[.val (.int p0), .val (.int p1), .val (.int (0 : Int32)), .unset, .unset, .unset, .unset] [(.int (1 : Int32))]) _ _ _
      refine Ends.go (fun _ k => XS.istoreN X0.here hx rfl (hb hby at_18) rfl (l' := #[.val (.int p0), .val (.int p1), .val (.int (0 : Int32)), .val (.int (1 : Int32)), .unset, .unset, .unset]) rfl k) ?_
      show Ends p e below s s₁ (mkF m 19 #[.val (.int p0), .val (.int p1), .val (.int (0 : Int32)), .val (.int (1 : Int32)), .unset, .unset, .unset] []) _ _ _
      refine Ends.go (fun _ k => XS.iloadN X0.here hx rfl (hb hby at_19) rfl k) ?_
      show Ends p e below s s₁ (mkF m 20 #[.val (.int p0), .val (.int p1), .val (.int (0 : Int32)), .val (.int (1 : Int32)), .unset, .unset, .unset] [(.int (1 : Int32))]) _ _ _
      refine Ends.go (fun _ k => XS.ifYes X0.here hx rfl (pc0 := 20) (pc' := 31) rfl (hb hby at_20) rfl ((if0 _ _).trans (feq (by decide : ¬ ((1 : Int32) = (0 : Int32)))).2) (by decide) (by decide) k) ?_
      show Ends p e below s s₁ (mkF m 31 #[.val (.int p0), .val (.int p1), .val (.int (0 : Int32)), .val (.int (1 : Int32)), .unset, .unset, .unset] []) _ _ _
      refine Ends.go (fun _ k => XS.iloadN X0.here hx rfl (hb hby at_31) rfl k) ?_
      show Ends p e below s s₁ (mkF m 32 #[.val (.int p0), .val (.int p1), .val (.int (0 : Int32)), .val (.int (1 : Int32)), .unset, .unset, .unset] [(.int (1 : Int32))]) _ _ _
      refine Ends.go (fun _ k => XS.iconst X0.here hx rfl (hb hby at_32) k) ?_
      show Ends p e below s s₁ (mkF m 33 #[.val (.int p0), .val (.int p1), .val (.int (0 : Int32)), .val (.int (1 : Int32)), .unset, .unset, .unset] [(.int (1 : Int32)), (.int (1 : Int32))]) _ _ _
      refine Ends.go (fun _ k => XS.icmpNo X0.here hx rfl (hb hby at_33) rfl (teq (by decide : (1 : Int32) = (1 : Int32))).2 k) ?_
      show Ends p e below s s₁ (mkF m 36 #[.val (.int p0), .val (.int p1), .val (.int (0 : Int32)), .val (.int (1 : Int32)), .unset, .unset, .unset] []) _ _ _
      obtain ⟨T7, X7, e7, st7⟩ := getS2 X0 hx hZ hown (host := "") (Or.inl (hw _ (List.mem_of_getElem? (i := 33) rfl))) Via.refl e0 (S_IF_ABSENT.ext O0.2) (g := (mkF m 36 #[.val (.int p0), .val (.int p1), .val (.int (0 : Int32)), .val (.int (1 : Int32)), .unset, .unset, .unset] [])) rfl (hb hby at_36)
      refine Ends.go st7 ?_
      show Ends p e below s T7 (mkF m 39 #[.val (.int p0), .val (.int p1), .val (.int (0 : Int32)), .val (.int (1 : Int32)), .unset, .unset, .unset] [(.ref w_IF_ABSENT)]) _ _ _
      refine Ends.go (fun _ k => XS.astore X7.here hx rfl (hb hby at_39) rfl rfl (l' := #[.val (.int p0), .val (.int p1), .val (.int (0 : Int32)), .val (.int (1 : Int32)), .val (.ref w_IF_ABSENT), .unset, .unset]) rfl k) ?_
      show Ends p e below s T7 (mkF m 41 #[.val (.int p0), .val (.int p1), .val (.int (0 : Int32)), .val (.int (1 : Int32)), .val (.ref w_IF_ABSENT), .unset, .unset] []) _ _ _
      refine Ends.go (fun _ k => XS.goto X7.here hx rfl (pc0 := 41) (pc' := 49) rfl (hb hby at_41) (by decide) (by decide) k) ?_
      show Ends p e below s T7 (mkF m 49 #[.val (.int p0), .val (.int p1), .val (.int (0 : Int32)), .val (.int (1 : Int32)), .val (.ref w_IF_ABSENT), .unset, .unset] []) _ _ _
      obtain ⟨T8, h8, X8, e8, E8, A8, D8, -, st8⟩ := newO X7 hx hZ hown (hw _ (List.mem_of_getElem? (i := 4) rfl)) (hw _ (List.mem_of_getElem? (i := 5) rfl)) (hw _ (List.mem_of_getElem? (i := 6) rfl)) e7 (g := (mkF m 49 #[.val (.int p0), .val (.int p1), .val (.int (0 : Int32)), .val (.int (1 : Int32)), .val (.ref w_IF_ABSENT), .unset, .unset] [])) rfl (hb hby at_49) (by decide) (by decide)
      obtain ⟨b8, g8⟩ : ∃ z, z = h0.size := ⟨_, rfl⟩
      rw [← g8] at A8 D8 st8
      refine Ends.go st8 ?_
      have g_b8 : n0 ≤ b8 := Nat.le_trans (own_old_le O0) (Nat.le_of_eq g8.symm)
      have sz_b8 : h0.size ≤ b8 := Nat.le_trans K0.1 (Nat.le_of_eq g8.symm)
      have K8 := K0.ext E8
      have O8 := O0.ext E8
      have F_delete_b8 : Fld Z h8 b8 "com/example/patterns_to_keys/patternstokeys/AccessPattern$Action" "delete" "Z" (.int (0 : Int32)) := D8 (Or.inr (hw _ (List.mem_of_getElem? (i := 19) rfl))) (ty := .boolean) (by decide)
      have F_entity_b8 : Fld Z h8 b8 "com/example/patterns_to_keys/patternstokeys/AccessPattern$Action" "entity" "Lcom/example/patterns_to_keys/patternstokeys/Entity;" .null := D8 (Or.inr (hw _ (List.mem_of_getElem? (i := 21) rfl))) (ty := (.object "com/example/patterns_to_keys/patternstokeys/Entity")) (by decide)
      have F_values_b8 : Fld Z h8 b8 "com/example/patterns_to_keys/patternstokeys/AccessPattern$Action" "values" "Ljava/util/Map;" .null := D8 (Or.inr (hw _ (List.mem_of_getElem? (i := 23) rfl))) (ty := (.object "java/util/Map")) (by decide)
      have F_precondition_b8 : Fld Z h8 b8 "com/example/patterns_to_keys/patternstokeys/AccessPattern$Action" "precondition" "Lcom/example/patterns_to_keys/patternstokeys/AccessPattern$Precondition;" .null := D8 (Or.inr (hw _ (List.mem_of_getElem? (i := 25) rfl))) (ty := (.object "com/example/patterns_to_keys/patternstokeys/AccessPattern$Precondition")) (by decide)
      show Ends p e below s T8 (mkF m 52 #[.val (.int p0), .val (.int p1), .val (.int (0 : Int32)), .val (.int (1 : Int32)), .val (.ref w_IF_ABSENT), .unset, .unset] [(.ref b8)]) _ _ _
      refine Ends.go (fun _ k => XS.dup X8.here hx rfl (hb hby at_52) rfl rfl k) ?_
      show Ends p e below s T8 (mkF m 53 #[.val (.int p0), .val (.int p1), .val (.int (0 : Int32)), .val (.int (1 : Int32)), .val (.ref w_IF_ABSENT), .unset, .unset] [(.ref b8), (.ref b8)]) _ _ _
      refine Ends.go (fun _ k => XS.iloadN X8.here hx rfl (hb hby at_53) rfl k) ?_
      show Ends p e below s T8 (mkF m 54 #[.val (.int p0), .val (.int p1), .val (.int (0 : Int32)), .val (.int (1 : Int32)), .val (.ref w_IF_ABSENT), .unset, .unset] [(.int (0 : Int32)), (.ref b8), (.ref b8)]) _ _ _
      refine Ends.go (fun _ k => XS.aconstNull X8.here hx rfl (hb hby at_54) k) ?_
      show Ends p e below s T8 (mkF m 55 #[.val (.int p0), .val (.int p1), .val (.int (0 : Int32)), .val (.int (1 : Int32)), .val (.ref w_IF_ABSENT), .unset, .unset] [.null, (.int (0 : Int32)), (.ref b8), (.ref b8)]) _ _ _
      refine Ends.go (fun _ k => XS.aconstNull X8.here hx rfl (hb hby at_55) k) ?_
      show Ends p e below s T8 (mkF m 56 #[.val (.int p0), .val (.int p1), .val (.int (0 : Int32)), .val (.int (1 : Int32)), .val (.ref w_IF_ABSENT), .unset, .unset] [.null, .null, (.int (0 : Int32)), (.ref b8), (.ref b8)]) _ _ _
      refine Ends.go (fun _ k => XS.aload X8.here hx rfl (hb hby at_56) rfl rfl k) ?_
      show Ends p e below s T8 (mkF m 58 #[.val (.int p0), .val (.int p1), .val (.int (0 : Int32)), .val (.int (1 : Int32)), .val (.ref w_IF_ABSENT), .unset, .unset] [(.ref w_IF_ABSENT), .null, .null, (.int (0 : Int32)), (.ref b8), (.ref b8)]) _ _ _
      obtain ⟨_, _, ⟨T9, L9, k9, n9⟩, -, X9, ⟨Lc9, hQ9, l9, y9, z9⟩, st9⟩ := X8.specialBack hx (y := (⟨"com/example/patterns_to_keys/patternstokeys/AccessPattern$Action", "<init>", "(ZLcom/example/patterns_to_keys/patternstokeys/Entity;Ljava/util/Map;Lcom/example/patterns_to_keys/patternstokeys/AccessPattern$Precondition;)V"⟩ : MethodName)) rfl hown (mvT hZ (hw _ (List.mem_of_getElem? (i := 7) rfl))) (mvT hZ (hw _ (List.mem_of_getElem? (i := 8) rfl))) (mvT hZ (hw _ (List.mem_of_getElem? (i := 9) rfl))) (by decide) (own_backOf (W := 1) (rmI l Z a0 hw [] n0 h8 O8 b8 (0 : Int32) w_IF_ABSENT g_b8 A8 F_delete_b8 F_entity_b8 F_values_b8 F_precondition_b8 (0 : Int32) rfl) hZ (hw _ (List.mem_of_getElem? (i := 9) rfl)) (hw _ (List.mem_of_getElem? (i := 6) rfl)) (by decide) (by decide)) (g := (mkF m 58 #[.val (.int p0), .val (.int p1), .val (.int (0 : Int32)), .val (.int (1 : Int32)), .val (.ref w_IF_ABSENT), .unset, .unset] [(.ref w_IF_ABSENT), .null, .null, (.int (0 : Int32)), (.ref b8), (.ref b8)])) rfl (by rw [hml]; rfl) (Steps.refl _) (a := b8) (argsL := [(.int (0 : Int32)), .null, .null, (.ref w_IF_ABSENT)]) (rest := [(.ref b8)]) (lenOf pd0_0 rfl) rfl (by show 2 * 0 + _ ≤ _; exact Nat.le_of_eq rfl) (hb hby at_58) (fun _ _ => ⟨rfl, e8, (by decide : 1 + 0 ≤ _), (by decide : 4 + 0 ≤ _)⟩)
      dsimp only [Pt.U, Pt.locs, Pt.cells, Pt.slots] at X9 l9 y9 z9 st9 hQ9
      subst l9 y9 z9
      obtain ⟨rfl, N9q, K9c, Eq9, Fd9, Fp9⟩ := hQ9
      have N9 := Fr.app N0 N9q
      refine Ends.go (fun _ k => st9.trans k) ?_
      obtain ⟨h9, e9⟩ : ∃ z, T9.heap = z := ⟨_, rfl⟩
      rw [e9] at K9c Eq9 Fd9 Fp9
      have K9 := K8.trans K9c (allS (Or.inr sz_b8) all0)
      have O9 := O8.keep K9c (allS g_b8 all0)
      show Ends p e below s T9 (mkF m 61 #[.val (.int p0), .val (.int p1), .val (.int (0 : Int32)), .val (.int (1 : Int32)), .val (.ref w_IF_ABSENT), .unset, .unset] [(.ref b8)]) _ _ _
      refine Ends.go (fun _ k => XS.astore X9.here hx rfl (hb hby at_61) rfl rfl (l' := #[.val (.int p0), .val (.int p1), .val (.int (0 : Int32)), .val (.int (1 : Int32)), .val (.ref w_IF_ABSENT), .val (.ref b8), .unset]) rfl k) ?_
      show Ends p e below s T9 (mkF m 63 #[.val (.int p0), .val (.int p1), .val (.int (0 : Int32)), .val (.int (1 : Int32)), .val (.ref w_IF_ABSENT), .val (.ref b8), .unset] []) _ _ _
      refine Ends.go (fun _ k => XS.iloadN X9.here hx rfl (hb hby at_63) rfl k) ?_
      show Ends p e below s T9 (mkF m 64 #[.val (.int p0), .val (.int p1), .val (.int (0 : Int32)), .val (.int (1 : Int32)), .val (.ref w_IF_ABSENT), .val (.ref b8), .unset] [(.int (1 : Int32))]) _ _ _
      refine Ends.go (fun _ k => XS.ifYes X9.here hx rfl (pc0 := 64) (pc' := 73) rfl (hb hby at_64) rfl ((if0 _ _).trans (feq (by decide : ¬ ((1 : Int32) = (0 : Int32)))).2) (by decide) (by decide) k) ?_
      show Ends p e below s T9 (mkF m 73 #[.val (.int p0), .val (.int p1), .val (.int (0 : Int32)), .val (.int (1 : Int32)), .val (.ref w_IF_ABSENT), .val (.ref b8), .unset] []) _ _ _
      refine Ends.go (fun _ k => XS.iloadN X9.here hx rfl (hb hby at_73) rfl k) ?_
      show Ends p e below s T9 (mkF m 74 #[.val (.int p0), .val (.int p1), .val (.int (0 : Int32)), .val (.int (1 : Int32)), .val (.ref w_IF_ABSENT), .val (.ref b8), .unset] [(.int (1 : Int32))]) _ _ _
      refine Ends.go (fun _ k => XS.iconst X9.here hx rfl (hb hby at_74) k) ?_
      show Ends p e below s T9 (mkF m 75 #[.val (.int p0), .val (.int p1), .val (.int (0 : Int32)), .val (.int (1 : Int32)), .val (.ref w_IF_ABSENT), .val (.ref b8), .unset] [(.int (1 : Int32)), (.int (1 : Int32))]) _ _ _
      refine Ends.go (fun _ k => XS.icmpNo X9.here hx rfl (hb hby at_75) rfl (teq (by decide : (1 : Int32) = (1 : Int32))).2 k) ?_
      show Ends p e below s T9 (mkF m 78 #[.val (.int p0), .val (.int p1), .val (.int (0 : Int32)), .val (.int (1 : Int32)), .val (.ref w_IF_ABSENT), .val (.ref b8), .unset] []) _ _ _
      refine Ends.go (fun _ k => XS.iconst X9.here hx rfl (hb hby at_78) k) ?_
      show Ends p e below s T9 (mkF m 79 #[.val (.int p0), .val (.int p1), .val (.int (0 : Int32)), .val (.int (1 : Int32)), .val (.ref w_IF_ABSENT), .val (.ref b8), .unset] [(.int (1 : Int32))]) _ _ _
      refine Ends.go (fun _ k => XS.istore X9.here hx rfl (hb hby at_79) rfl (l' := #[.val (.int p0), .val (.int p1), .val (.int (0 : Int32)), .val (.int (1 : Int32)), .val (.ref w_IF_ABSENT), .val (.ref b8), .val (.int (1 : Int32))]) rfl k) ?_
      show Ends p e below s T9 (mkF m 81 #[.val (.int p0), .val (.int p1), .val (.int (0 : Int32)), .val (.int (1 : Int32)), .val (.ref w_IF_ABSENT), .val (.ref b8), .val (.int (1 : Int32))] []) _ _ _
      refine Ends.go (fun _ k => XS.goto X9.here hx rfl (pc0 := 81) (pc' := 87) rfl (hb hby at_81) (by decide) (by decide) k) ?_
      show Ends p e below s T9 (mkF m 87 #[.val (.int p0), .val (.int p1), .val (.int (0 : Int32)), .val (.int (1 : Int32)), .val (.ref w_IF_ABSENT), .val (.ref b8), .val (.int (1 : Int32))] []) _ _ _
      refine Ends.go (fun _ k => XS.aload X9.here hx rfl (hb hby at_87) rfl rfl k) ?_
      show Ends p e below s T9 (mkF m 89 #[.val (.int p0), .val (.int p1), .val (.int (0 : Int32)), .val (.int (1 : Int32)), .val (.ref w_IF_ABSENT), .val (.ref b8), .val (.int (1 : Int32))] [(.ref b8)]) _ _ _
      obtain ⟨cq10, kq10, q10a, q10b, q10c⟩ := isOf hZ e9 Eq9
      obtain ⟨_, _, ⟨T10, L10, k10, n10⟩, -, X10, ⟨Lc10, hQ10, l10, y10, z10⟩, st10⟩ := X9.virtualBack hx (y := (⟨"com/example/patterns_to_keys/patternstokeys/AccessPattern$Action", "refusesRepeat", "()Z"⟩ : MethodName)) (z := (⟨"com/example/patterns_to_keys/patternstokeys/AccessPattern$Action", "refusesRepeat", "()Z"⟩ : MethodName)) hown (mvT hZ (hw _ (List.mem_of_getElem? (i := 26) rfl))) (mvT hZ (hw _ (List.mem_of_getElem? (i := 27) rfl))) (notFace_of_selects (args := #[]) (mvT hZ (hw _ (List.mem_of_getElem? (i := 29) rfl)))) (mvT hZ (hw _ (List.mem_of_getElem? (i := 29) rfl))) (mvT hZ (hw _ (List.mem_of_getElem? (i := 28) rfl))) (by decide) (own_backOf (W := 0) (rmF l Z a0 hw [] n0 h9 O9 b8 w_NONE w_IF_ABSENT w_IF_PRESENT FF0 (0 : Int32) w_IF_ABSENT Fd9 Fp9 (1 : Int32) (by rw [if_pos rfl])) hZ (hw _ (List.mem_of_getElem? (i := 30) rfl)) (hw _ (List.mem_of_getElem? (i := 6) rfl)) (by decide) (by decide)) q10a q10c (g := (mkF m 89 #[.val (.int p0), .val (.int p1), .val (.int (0 : Int32)), .val (.int (1 : Int32)), .val (.ref w_IF_ABSENT), .val (.ref b8), .val (.int (1 : Int32))] [(.ref b8)])) rfl (by rw [hml]; rfl) (Steps.refl _) (argsL := []) (rest := []) (lenOf pd0_1 rfl) rfl (by show 2 * 0 + _ ≤ _; exact Nat.le_of_eq rfl) (hb hby at_89) (fun _ _ => ⟨rfl, e9, (by decide : 1 + 0 ≤ _), (by decide : 4 + 0 ≤ _)⟩)
      dsimp only [Pt.U, Pt.locs, Pt.cells, Pt.slots] at X10 l10 y10 z10 st10 hQ10
      subst l10 y10 z10
      obtain ⟨rfl, N10q, e10q⟩ := hQ10
      have N10 := Fr.app N9 N10q
      refine Ends.go (fun _ k => st10.trans k) ?_
      show Ends p e below s T10 (mkF m 92 #[.val (.int p0), .val (.int p1), .val (.int (0 : Int32)), .val (.int (1 : Int32)), .val (.ref w_IF_ABSENT), .val (.ref b8), .val (.int (1 : Int32))] [(.int (1 : Int32))]) _ _ _
      refine Ends.go (fun _ k => XS.iload X10.here hx rfl (hb hby at_92) rfl k) ?_
      show Ends p e below s T10 (mkF m 94 #[.val (.int p0), .val (.int p1), .val (.int (0 : Int32)), .val (.int (1 : Int32)), .val (.ref w_IF_ABSENT), .val (.ref b8), .val (.int (1 : Int32))] [(.int (1 : Int32)), (.int (1 : Int32))]) _ _ _
      refine Ends.go (fun _ k => XS.icmpNo X10.here hx rfl (hb hby at_94) rfl (teq (by decide : (1 : Int32) = (1 : Int32))).2 k) ?_
      show Ends p e below s T10 (mkF m 97 #[.val (.int p0), .val (.int p1), .val (.int (0 : Int32)), .val (.int (1 : Int32)), .val (.ref w_IF_ABSENT), .val (.ref b8), .val (.int (1 : Int32))] []) _ _ _
      refine Ends.go (fun _ k => XS.iconst X10.here hx rfl (hb hby at_97) k) ?_
      show Ends p e below s T10 (mkF m 98 #[.val (.int p0), .val (.int p1), .val (.int (0 : Int32)), .val (.int (1 : Int32)), .val (.ref w_IF_ABSENT), .val (.ref b8), .val (.int (1 : Int32))] [(.int (1 : Int32))]) _ _ _
      refine Ends.go (fun _ k => XS.goto X10.here hx rfl (pc0 := 98) (pc' := 102) rfl (hb hby at_98) (by decide) (by decide) k) ?_
      show Ends p e below s T10 (mkF m 102 #[.val (.int p0), .val (.int p1), .val (.int (0 : Int32)), .val (.int (1 : Int32)), .val (.ref w_IF_ABSENT), .val (.ref b8), .val (.int (1 : Int32))] [(.int (1 : Int32))]) _ _ _
      refine Ends.retZ X10 hx Bd.notSynchronized (t := .boolean) Bd.returns (by simp) (hb hby at_102) (by decide) (by decide) ?_
      exact ⟨rfl, N10⟩
    · show Ends p e below s s₁ (mkF m 18 #[.val (.int p0), .val (.int p1), .val (.int (0 : Int32)), .unset, .unset, .unset, .unset] [(.int (2 : Int32))]) _ _ _
      refine Ends.go (fun _ k => XS.istoreN X0.here hx rfl (hb hby at_18) rfl (l' := #[.val (.int p0), .val (.int p1), .val (.int (0 : Int32)), .val (.int (2 : Int32)), .unset, .unset, .unset]) rfl k) ?_
      show Ends p e below s s₁ (mkF m 19 #[.val (.int p0), .val (.int p1), .val (.int (0 : Int32)), .val (.int (2 : Int32)), .unset, .unset, .unset] []) _ _ _
      refine Ends.go (fun _ k => XS.iloadN X0.here hx rfl (hb hby at_19) rfl k) ?_
      show Ends p e below s s₁ (mkF m 20 #[.val (.int p0), .val (.int p1), .val (.int (0 : Int32)), .val (.int (2 : Int32)), .unset, .unset, .unset] [(.int (2 : Int32))]) _ _ _
      refine Ends.go (fun _ k => XS.ifYes X0.here hx rfl (pc0 := 20) (pc' := 31) rfl (hb hby at_20) rfl ((if0 _ _).trans (feq (by decide : ¬ ((2 : Int32) = (0 : Int32)))).2) (by decide) (by decide) k) ?_
      show Ends p e below s s₁ (mkF m 31 #[.val (.int p0), .val (.int p1), .val (.int (0 : Int32)), .val (.int (2 : Int32)), .unset, .unset, .unset] []) _ _ _
      refine Ends.go (fun _ k => XS.iloadN X0.here hx rfl (hb hby at_31) rfl k) ?_
      show Ends p e below s s₁ (mkF m 32 #[.val (.int p0), .val (.int p1), .val (.int (0 : Int32)), .val (.int (2 : Int32)), .unset, .unset, .unset] [(.int (2 : Int32))]) _ _ _
      refine Ends.go (fun _ k => XS.iconst X0.here hx rfl (hb hby at_32) k) ?_
      show Ends p e below s s₁ (mkF m 33 #[.val (.int p0), .val (.int p1), .val (.int (0 : Int32)), .val (.int (2 : Int32)), .unset, .unset, .unset] [(.int (1 : Int32)), (.int (2 : Int32))]) _ _ _
      refine Ends.go (fun _ k => XS.icmpYes X0.here hx rfl (pc0 := 33) (pc' := 44) rfl (hb hby at_33) rfl (feq (by decide : ¬ ((2 : Int32) = (1 : Int32)))).2 (by decide) (by decide) k) ?_
      show Ends p e below s s₁ (mkF m 44 #[.val (.int p0), .val (.int p1), .val (.int (0 : Int32)), .val (.int (2 : Int32)), .unset, .unset, .unset] []) _ _ _
      obtain ⟨T11, X11, e11, st11⟩ := getS2 X0 hx hZ hown (host := "") (Or.inl (hw _ (List.mem_of_getElem? (i := 34) rfl))) Via.refl e0 (S_IF_PRESENT.ext O0.2) (g := (mkF m 44 #[.val (.int p0), .val (.int p1), .val (.int (0 : Int32)), .val (.int (2 : Int32)), .unset, .unset, .unset] [])) rfl (hb hby at_44)
      refine Ends.go st11 ?_
      show Ends p e below s T11 (mkF m 47 #[.val (.int p0), .val (.int p1), .val (.int (0 : Int32)), .val (.int (2 : Int32)), .unset, .unset, .unset] [(.ref w_IF_PRESENT)]) _ _ _
      refine Ends.go (fun _ k => XS.astore X11.here hx rfl (hb hby at_47) rfl rfl (l' := #[.val (.int p0), .val (.int p1), .val (.int (0 : Int32)), .val (.int (2 : Int32)), .val (.ref w_IF_PRESENT), .unset, .unset]) rfl k) ?_
      show Ends p e below s T11 (mkF m 49 #[.val (.int p0), .val (.int p1), .val (.int (0 : Int32)), .val (.int (2 : Int32)), .val (.ref w_IF_PRESENT), .unset, .unset] []) _ _ _
      obtain ⟨T12, h12, X12, e12, E12, A12, D12, -, st12⟩ := newO X11 hx hZ hown (hw _ (List.mem_of_getElem? (i := 4) rfl)) (hw _ (List.mem_of_getElem? (i := 5) rfl)) (hw _ (List.mem_of_getElem? (i := 6) rfl)) e11 (g := (mkF m 49 #[.val (.int p0), .val (.int p1), .val (.int (0 : Int32)), .val (.int (2 : Int32)), .val (.ref w_IF_PRESENT), .unset, .unset] [])) rfl (hb hby at_49) (by decide) (by decide)
      obtain ⟨b12, g12⟩ : ∃ z, z = h0.size := ⟨_, rfl⟩
      rw [← g12] at A12 D12 st12
      refine Ends.go st12 ?_
      have g_b12 : n0 ≤ b12 := Nat.le_trans (own_old_le O0) (Nat.le_of_eq g12.symm)
      have sz_b12 : h0.size ≤ b12 := Nat.le_trans K0.1 (Nat.le_of_eq g12.symm)
      have K12 := K0.ext E12
      have O12 := O0.ext E12
      have F_delete_b12 : Fld Z h12 b12 "com/example/patterns_to_keys/patternstokeys/AccessPattern$Action" "delete" "Z" (.int (0 : Int32)) := D12 (Or.inr (hw _ (List.mem_of_getElem? (i := 19) rfl))) (ty := .boolean) (by decide)
      have F_entity_b12 : Fld Z h12 b12 "com/example/patterns_to_keys/patternstokeys/AccessPattern$Action" "entity" "Lcom/example/patterns_to_keys/patternstokeys/Entity;" .null := D12 (Or.inr (hw _ (List.mem_of_getElem? (i := 21) rfl))) (ty := (.object "com/example/patterns_to_keys/patternstokeys/Entity")) (by decide)
      have F_values_b12 : Fld Z h12 b12 "com/example/patterns_to_keys/patternstokeys/AccessPattern$Action" "values" "Ljava/util/Map;" .null := D12 (Or.inr (hw _ (List.mem_of_getElem? (i := 23) rfl))) (ty := (.object "java/util/Map")) (by decide)
      have F_precondition_b12 : Fld Z h12 b12 "com/example/patterns_to_keys/patternstokeys/AccessPattern$Action" "precondition" "Lcom/example/patterns_to_keys/patternstokeys/AccessPattern$Precondition;" .null := D12 (Or.inr (hw _ (List.mem_of_getElem? (i := 25) rfl))) (ty := (.object "com/example/patterns_to_keys/patternstokeys/AccessPattern$Precondition")) (by decide)
      show Ends p e below s T12 (mkF m 52 #[.val (.int p0), .val (.int p1), .val (.int (0 : Int32)), .val (.int (2 : Int32)), .val (.ref w_IF_PRESENT), .unset, .unset] [(.ref b12)]) _ _ _
      refine Ends.go (fun _ k => XS.dup X12.here hx rfl (hb hby at_52) rfl rfl k) ?_
      show Ends p e below s T12 (mkF m 53 #[.val (.int p0), .val (.int p1), .val (.int (0 : Int32)), .val (.int (2 : Int32)), .val (.ref w_IF_PRESENT), .unset, .unset] [(.ref b12), (.ref b12)]) _ _ _
      refine Ends.go (fun _ k => XS.iloadN X12.here hx rfl (hb hby at_53) rfl k) ?_
      show Ends p e below s T12 (mkF m 54 #[.val (.int p0), .val (.int p1), .val (.int (0 : Int32)), .val (.int (2 : Int32)), .val (.ref w_IF_PRESENT), .unset, .unset] [(.int (0 : Int32)), (.ref b12), (.ref b12)]) _ _ _
      refine Ends.go (fun _ k => XS.aconstNull X12.here hx rfl (hb hby at_54) k) ?_
      show Ends p e below s T12 (mkF m 55 #[.val (.int p0), .val (.int p1), .val (.int (0 : Int32)), .val (.int (2 : Int32)), .val (.ref w_IF_PRESENT), .unset, .unset] [.null, (.int (0 : Int32)), (.ref b12), (.ref b12)]) _ _ _
      refine Ends.go (fun _ k => XS.aconstNull X12.here hx rfl (hb hby at_55) k) ?_
      show Ends p e below s T12 (mkF m 56 #[.val (.int p0), .val (.int p1), .val (.int (0 : Int32)), .val (.int (2 : Int32)), .val (.ref w_IF_PRESENT), .unset, .unset] [.null, .null, (.int (0 : Int32)), (.ref b12), (.ref b12)]) _ _ _
      refine Ends.go (fun _ k => XS.aload X12.here hx rfl (hb hby at_56) rfl rfl k) ?_
      show Ends p e below s T12 (mkF m 58 #[.val (.int p0), .val (.int p1), .val (.int (0 : Int32)), .val (.int (2 : Int32)), .val (.ref w_IF_PRESENT), .unset, .unset] [(.ref w_IF_PRESENT), .null, .null, (.int (0 : Int32)), (.ref b12), (.ref b12)]) _ _ _
      obtain ⟨_, _, ⟨T13, L13, k13, n13⟩, -, X13, ⟨Lc13, hQ13, l13, y13, z13⟩, st13⟩ := X12.specialBack hx (y := (⟨"com/example/patterns_to_keys/patternstokeys/AccessPattern$Action", "<init>", "(ZLcom/example/patterns_to_keys/patternstokeys/Entity;Ljava/util/Map;Lcom/example/patterns_to_keys/patternstokeys/AccessPattern$Precondition;)V"⟩ : MethodName)) rfl hown (mvT hZ (hw _ (List.mem_of_getElem? (i := 7) rfl))) (mvT hZ (hw _ (List.mem_of_getElem? (i := 8) rfl))) (mvT hZ (hw _ (List.mem_of_getElem? (i := 9) rfl))) (by decide) (own_backOf (W := 1) (rmI l Z a0 hw [] n0 h12 O12 b12 (0 : Int32) w_IF_PRESENT g_b12 A12 F_delete_b12 F_entity_b12 F_values_b12 F_precondition_b12 (0 : Int32) rfl) hZ (hw _ (List.mem_of_getElem? (i := 9) rfl)) (hw _ (List.mem_of_getElem? (i := 6) rfl)) (by decide) (by decide)) (g := (mkF m 58 #[.val (.int p0), .val (.int p1), .val (.int (0 : Int32)), .val (.int (2 : Int32)), .val (.ref w_IF_PRESENT), .unset, .unset] [(.ref w_IF_PRESENT), .null, .null, (.int (0 : Int32)), (.ref b12), (.ref b12)])) rfl (by rw [hml]; rfl) (Steps.refl _) (a := b12) (argsL := [(.int (0 : Int32)), .null, .null, (.ref w_IF_PRESENT)]) (rest := [(.ref b12)]) (lenOf pd0_0 rfl) rfl (by show 2 * 0 + _ ≤ _; exact Nat.le_of_eq rfl) (hb hby at_58) (fun _ _ => ⟨rfl, e12, (by decide : 1 + 0 ≤ _), (by decide : 4 + 0 ≤ _)⟩)
      dsimp only [Pt.U, Pt.locs, Pt.cells, Pt.slots] at X13 l13 y13 z13 st13 hQ13
      subst l13 y13 z13
      obtain ⟨rfl, N13q, K13c, Eq13, Fd13, Fp13⟩ := hQ13
      have N13 := Fr.app N0 N13q
      refine Ends.go (fun _ k => st13.trans k) ?_
      obtain ⟨h13, e13⟩ : ∃ z, T13.heap = z := ⟨_, rfl⟩
      rw [e13] at K13c Eq13 Fd13 Fp13
      have K13 := K12.trans K13c (allS (Or.inr sz_b12) all0)
      have O13 := O12.keep K13c (allS g_b12 all0)
      show Ends p e below s T13 (mkF m 61 #[.val (.int p0), .val (.int p1), .val (.int (0 : Int32)), .val (.int (2 : Int32)), .val (.ref w_IF_PRESENT), .unset, .unset] [(.ref b12)]) _ _ _
      refine Ends.go (fun _ k => XS.astore X13.here hx rfl (hb hby at_61) rfl rfl (l' := #[.val (.int p0), .val (.int p1), .val (.int (0 : Int32)), .val (.int (2 : Int32)), .val (.ref w_IF_PRESENT), .val (.ref b12), .unset]) rfl k) ?_
      show Ends p e below s T13 (mkF m 63 #[.val (.int p0), .val (.int p1), .val (.int (0 : Int32)), .val (.int (2 : Int32)), .val (.ref w_IF_PRESENT), .val (.ref b12), .unset] []) _ _ _
      refine Ends.go (fun _ k => XS.iloadN X13.here hx rfl (hb hby at_63) rfl k) ?_
      show Ends p e below s T13 (mkF m 64 #[.val (.int p0), .val (.int p1), .val (.int (0 : Int32)), .val (.int (2 : Int32)), .val (.ref w_IF_PRESENT), .val (.ref b12), .unset] [(.int (2 : Int32))]) _ _ _
      refine Ends.go (fun _ k => XS.ifYes X13.here hx rfl (pc0 := 64) (pc' := 73) rfl (hb hby at_64) rfl ((if0 _ _).trans (feq (by decide : ¬ ((2 : Int32) = (0 : Int32)))).2) (by decide) (by decide) k) ?_
      show Ends p e below s T13 (mkF m 73 #[.val (.int p0), .val (.int p1), .val (.int (0 : Int32)), .val (.int (2 : Int32)), .val (.ref w_IF_PRESENT), .val (.ref b12), .unset] []) _ _ _
      refine Ends.go (fun _ k => XS.iloadN X13.here hx rfl (hb hby at_73) rfl k) ?_
      show Ends p e below s T13 (mkF m 74 #[.val (.int p0), .val (.int p1), .val (.int (0 : Int32)), .val (.int (2 : Int32)), .val (.ref w_IF_PRESENT), .val (.ref b12), .unset] [(.int (2 : Int32))]) _ _ _
      refine Ends.go (fun _ k => XS.iconst X13.here hx rfl (hb hby at_74) k) ?_
      show Ends p e below s T13 (mkF m 75 #[.val (.int p0), .val (.int p1), .val (.int (0 : Int32)), .val (.int (2 : Int32)), .val (.ref w_IF_PRESENT), .val (.ref b12), .unset] [(.int (1 : Int32)), (.int (2 : Int32))]) _ _ _
      refine Ends.go (fun _ k => XS.icmpYes X13.here hx rfl (pc0 := 75) (pc' := 84) rfl (hb hby at_75) rfl (feq (by decide : ¬ ((2 : Int32) = (1 : Int32)))).2 (by decide) (by decide) k) ?_
      show Ends p e below s T13 (mkF m 84 #[.val (.int p0), .val (.int p1), .val (.int (0 : Int32)), .val (.int (2 : Int32)), .val (.ref w_IF_PRESENT), .val (.ref b12), .unset] []) _ _ _
      refine Ends.go (fun _ k => XS.iloadN X13.here hx rfl (hb hby at_84) rfl k) ?_
      show Ends p e below s T13 (mkF m 85 #[.val (.int p0), .val (.int p1), .val (.int (0 : Int32)), .val (.int (2 : Int32)), .val (.ref w_IF_PRESENT), .val (.ref b12), .unset] [(.int (0 : Int32))]) _ _ _
      refine Ends.go (fun _ k => XS.istore X13.here hx rfl (hb hby at_85) rfl (l' := #[.val (.int p0), .val (.int p1), .val (.int (0 : Int32)), .val (.int (2 : Int32)), .val (.ref w_IF_PRESENT), .val (.ref b12), .val (.int (0 : Int32))]) rfl k) ?_
      show Ends p e below s T13 (mkF m 87 #[.val (.int p0), .val (.int p1), .val (.int (0 : Int32)), .val (.int (2 : Int32)), .val (.ref w_IF_PRESENT), .val (.ref b12), .val (.int (0 : Int32))] []) _ _ _
      refine Ends.go (fun _ k => XS.aload X13.here hx rfl (hb hby at_87) rfl rfl k) ?_
      show Ends p e below s T13 (mkF m 89 #[.val (.int p0), .val (.int p1), .val (.int (0 : Int32)), .val (.int (2 : Int32)), .val (.ref w_IF_PRESENT), .val (.ref b12), .val (.int (0 : Int32))] [(.ref b12)]) _ _ _
      obtain ⟨cq14, kq14, q14a, q14b, q14c⟩ := isOf hZ e13 Eq13
      obtain ⟨_, _, ⟨T14, L14, k14, n14⟩, -, X14, ⟨Lc14, hQ14, l14, y14, z14⟩, st14⟩ := X13.virtualBack hx (y := (⟨"com/example/patterns_to_keys/patternstokeys/AccessPattern$Action", "refusesRepeat", "()Z"⟩ : MethodName)) (z := (⟨"com/example/patterns_to_keys/patternstokeys/AccessPattern$Action", "refusesRepeat", "()Z"⟩ : MethodName)) hown (mvT hZ (hw _ (List.mem_of_getElem? (i := 26) rfl))) (mvT hZ (hw _ (List.mem_of_getElem? (i := 27) rfl))) (notFace_of_selects (args := #[]) (mvT hZ (hw _ (List.mem_of_getElem? (i := 29) rfl)))) (mvT hZ (hw _ (List.mem_of_getElem? (i := 29) rfl))) (mvT hZ (hw _ (List.mem_of_getElem? (i := 28) rfl))) (by decide) (own_backOf (W := 0) (rmF l Z a0 hw [] n0 h13 O13 b12 w_NONE w_IF_ABSENT w_IF_PRESENT FF0 (0 : Int32) w_IF_PRESENT Fd13 Fp13 (0 : Int32) (by rw [if_neg (Fld.ne F_ordinal_IF_PRESENT F_ordinal_IF_ABSENT (by decide)), if_pos rfl])) hZ (hw _ (List.mem_of_getElem? (i := 30) rfl)) (hw _ (List.mem_of_getElem? (i := 6) rfl)) (by decide) (by decide)) q14a q14c (g := (mkF m 89 #[.val (.int p0), .val (.int p1), .val (.int (0 : Int32)), .val (.int (2 : Int32)), .val (.ref w_IF_PRESENT), .val (.ref b12), .val (.int (0 : Int32))] [(.ref b12)])) rfl (by rw [hml]; rfl) (Steps.refl _) (argsL := []) (rest := []) (lenOf pd0_1 rfl) rfl (by show 2 * 0 + _ ≤ _; exact Nat.le_of_eq rfl) (hb hby at_89) (fun _ _ => ⟨rfl, e13, (by decide : 1 + 0 ≤ _), (by decide : 4 + 0 ≤ _)⟩)
      dsimp only [Pt.U, Pt.locs, Pt.cells, Pt.slots] at X14 l14 y14 z14 st14 hQ14
      subst l14 y14 z14
      obtain ⟨rfl, N14q, e14q⟩ := hQ14
      have N14 := Fr.app N13 N14q
      refine Ends.go (fun _ k => st14.trans k) ?_
      show Ends p e below s T14 (mkF m 92 #[.val (.int p0), .val (.int p1), .val (.int (0 : Int32)), .val (.int (2 : Int32)), .val (.ref w_IF_PRESENT), .val (.ref b12), .val (.int (0 : Int32))] [(.int (0 : Int32))]) _ _ _
      refine Ends.go (fun _ k => XS.iload X14.here hx rfl (hb hby at_92) rfl k) ?_
      show Ends p e below s T14 (mkF m 94 #[.val (.int p0), .val (.int p1), .val (.int (0 : Int32)), .val (.int (2 : Int32)), .val (.ref w_IF_PRESENT), .val (.ref b12), .val (.int (0 : Int32))] [(.int (0 : Int32)), (.int (0 : Int32))]) _ _ _
      refine Ends.go (fun _ k => XS.icmpNo X14.here hx rfl (hb hby at_94) rfl (teq (by decide : (0 : Int32) = (0 : Int32))).2 k) ?_
      show Ends p e below s T14 (mkF m 97 #[.val (.int p0), .val (.int p1), .val (.int (0 : Int32)), .val (.int (2 : Int32)), .val (.ref w_IF_PRESENT), .val (.ref b12), .val (.int (0 : Int32))] []) _ _ _
      refine Ends.go (fun _ k => XS.iconst X14.here hx rfl (hb hby at_97) k) ?_
      show Ends p e below s T14 (mkF m 98 #[.val (.int p0), .val (.int p1), .val (.int (0 : Int32)), .val (.int (2 : Int32)), .val (.ref w_IF_PRESENT), .val (.ref b12), .val (.int (0 : Int32))] [(.int (1 : Int32))]) _ _ _
      refine Ends.go (fun _ k => XS.goto X14.here hx rfl (pc0 := 98) (pc' := 102) rfl (hb hby at_98) (by decide) (by decide) k) ?_
      show Ends p e below s T14 (mkF m 102 #[.val (.int p0), .val (.int p1), .val (.int (0 : Int32)), .val (.int (2 : Int32)), .val (.ref w_IF_PRESENT), .val (.ref b12), .val (.int (0 : Int32))] [(.int (1 : Int32))]) _ _ _
      refine Ends.retZ X14 hx Bd.notSynchronized (t := .boolean) Bd.returns (by simp) (hb hby at_102) (by decide) (by decide) ?_
      exact ⟨rfl, N14⟩
  · refine Ends.go (fun _ k => XS.ifNo X0.here hx rfl (hb hby at_3) rfl ((if0 _ _).trans (feq hc3_1).1) k) ?_
    show Ends p e below s s₁ (mkF m 6 #[.val (.int p0), .val (.int p1), .unset, .unset, .unset, .unset, .unset] []) _ _ _
    refine Ends.go (fun _ k => XS.iconst X0.here hx rfl (hb hby at_6) k) ?_
    show Ends p e below s s₁ (mkF m 7 #[.val (.int p0), .val (.int p1), .unset, .unset, .unset, .unset, .unset] [(.int (1 : Int32))]) _ _ _
    refine Ends.go (fun _ k => XS.goto X0.here hx rfl (pc0 := 7) (pc' := 11) rfl (hb hby at_7) (by decide) (by decide) k) ?_
    show Ends p e below s s₁ (mkF m 11 #[.val (.int p0), .val (.int p1), .unset, .unset, .unset, .unset, .unset] [(.int (1 : Int32))]) _ _ _
    refine Ends.go (fun _ k => XS.istoreN X0.here hx rfl (hb hby at_11) rfl (l' := #[.val (.int p0), .val (.int p1), .val (.int (1 : Int32)), .unset, .unset, .unset, .unset]) rfl k) ?_
    show Ends p e below s s₁ (mkF m 12 #[.val (.int p0), .val (.int p1), .val (.int (1 : Int32)), .unset, .unset, .unset, .unset] []) _ _ _
    refine Ends.go (fun _ k => XS.iloadN X0.here hx rfl (hb hby at_12) rfl k) ?_
    show Ends p e below s s₁ (mkF m 13 #[.val (.int p0), .val (.int p1), .val (.int (1 : Int32)), .unset, .unset, .unset, .unset] [(.int p1)]) _ _ _
    refine Ends.go (X0.ldcInt hx hown (mvT hZ (hw _ (List.mem_of_getElem? (i := 0) rfl))) (g := (mkF m 13 #[.val (.int p0), .val (.int p1), .val (.int (1 : Int32)), .unset, .unset, .unset, .unset] [(.int p1)])) rfl (hb hby at_13)) ?_
    show Ends p e below s s₁ (mkF m 15 #[.val (.int p0), .val (.int p1), .val (.int (1 : Int32)), .unset, .unset, .unset, .unset] [(.int (2147483647 : Int32)), (.int p1)]) _ _ _
    refine Ends.go (fun _ k => XS.iand X0.here hx rfl (hb hby at_15) rfl k) ?_
    show Ends p e below s s₁ (mkF m 16 #[.val (.int p0), .val (.int p1), .val (.int (1 : Int32)), .unset, .unset, .unset, .unset] [(.int (p1 &&& (2147483647 : Int32)))]) _ _ _
    refine Ends.go (fun _ k => XS.iconst X0.here hx rfl (hb hby at_16) k) ?_
    show Ends p e below s s₁ (mkF m 17 #[.val (.int p0), .val (.int p1), .val (.int (1 : Int32)), .unset, .unset, .unset, .unset] [(.int (3 : Int32)), (.int (p1 &&& (2147483647 : Int32)))]) _ _ _
    refine Ends.go (fun _ k => iremM X0 hx rfl (hb hby at_17) rfl (by decide) k) ?_
    show Ends p e below s s₁ (mkF m 18 #[.val (.int p0), .val (.int p1), .val (.int (1 : Int32)), .unset, .unset, .unset, .unset] [(.int ((p1 &&& (2147483647 : Int32)) % (3 : Int32)))]) _ _ _
    generalize hi15 : ((p1 &&& (2147483647 : Int32)) % (3 : Int32)) = i15
    rcases own_mod p1 i15 hi15 with rfl | rfl | rfl
    · show Ends p e below s s₁ (mkF m 18 #[.val (.int p0), .val (.int p1), .val (.int (1 : Int32)), .unset, .unset, .unset, .unset] [(.int (0 : Int32))]) _ _ _
      refine Ends.go (fun _ k => XS.istoreN X0.here hx rfl (hb hby at_18) rfl (l' := #[.val (.int p0), .val (.int p1), .val (.int (1 : Int32)), .val (.int (0 : Int32)), .unset, .unset, .unset]) rfl k) ?_
      show Ends p e below s s₁ (mkF m 19 #[.val (.int p0), .val (.int p1), .val (.int (1 : Int32)), .val (.int (0 : Int32)), .unset, .unset, .unset] []) _ _ _
      refine Ends.go (fun _ k => XS.iloadN X0.here hx rfl (hb hby at_19) rfl k) ?_
      show Ends p e below s s₁ (mkF m 20 #[.val (.int p0), .val (.int p1), .val (.int (1 : Int32)), .val (.int (0 : Int32)), .unset, .unset, .unset] [(.int (0 : Int32))]) _ _ _
      refine Ends.go (fun _ k => XS.ifNo X0.here hx rfl (hb hby at_20) rfl ((if0 _ _).trans (teq (by decide : (0 : Int32) = (0 : Int32))).2) k) ?_
      show Ends p e below s s₁ (mkF m 23 #[.val (.int p0), .val (.int p1), .val (.int (1 : Int32)), .val (.int (0 : Int32)), .unset, .unset, .unset] []) _ _ _
      obtain ⟨T16, X16, e16, st16⟩ := getS2 X0 hx hZ hown (host := "") (Or.inl (hw _ (List.mem_of_getElem? (i := 1) rfl))) Via.refl e0 (S_NONE.ext O0.2) (g := (mkF m 23 #[.val (.int p0), .val (.int p1), .val (.int (1 : Int32)), .val (.int (0 : Int32)), .unset, .unset, .unset] [])) rfl (hb hby at_23)
      refine Ends.go st16 ?_
      show Ends p e below s T16 (mkF m 26 #[.val (.int p0), .val (.int p1), .val (.int (1 : Int32)), .val (.int (0 : Int32)), .unset, .unset, .unset] [(.ref w_NONE)]) _ _ _
      refine Ends.go (fun _ k => XS.astore X16.here hx rfl (hb hby at_26) rfl rfl (l' := #[.val (.int p0), .val (.int p1), .val (.int (1 : Int32)), .val (.int (0 : Int32)), .val (.ref w_NONE), .unset, .unset]) rfl k) ?_
      show Ends p e below s T16 (mkF m 28 #[.val (.int p0), .val (.int p1), .val (.int (1 : Int32)), .val (.int (0 : Int32)), .val (.ref w_NONE), .unset, .unset] []) _ _ _
      refine Ends.go (fun _ k => XS.goto X16.here hx rfl (pc0 := 28) (pc' := 49) rfl (hb hby at_28) (by decide) (by decide) k) ?_
      show Ends p e below s T16 (mkF m 49 #[.val (.int p0), .val (.int p1), .val (.int (1 : Int32)), .val (.int (0 : Int32)), .val (.ref w_NONE), .unset, .unset] []) _ _ _
      obtain ⟨T17, h17, X17, e17, E17, A17, D17, -, st17⟩ := newO X16 hx hZ hown (hw _ (List.mem_of_getElem? (i := 4) rfl)) (hw _ (List.mem_of_getElem? (i := 5) rfl)) (hw _ (List.mem_of_getElem? (i := 6) rfl)) e16 (g := (mkF m 49 #[.val (.int p0), .val (.int p1), .val (.int (1 : Int32)), .val (.int (0 : Int32)), .val (.ref w_NONE), .unset, .unset] [])) rfl (hb hby at_49) (by decide) (by decide)
      obtain ⟨b17, g17⟩ : ∃ z, z = h0.size := ⟨_, rfl⟩
      rw [← g17] at A17 D17 st17
      refine Ends.go st17 ?_
      have g_b17 : n0 ≤ b17 := Nat.le_trans (own_old_le O0) (Nat.le_of_eq g17.symm)
      have sz_b17 : h0.size ≤ b17 := Nat.le_trans K0.1 (Nat.le_of_eq g17.symm)
      have K17 := K0.ext E17
      have O17 := O0.ext E17
      have F_delete_b17 : Fld Z h17 b17 "com/example/patterns_to_keys/patternstokeys/AccessPattern$Action" "delete" "Z" (.int (0 : Int32)) := D17 (Or.inr (hw _ (List.mem_of_getElem? (i := 19) rfl))) (ty := .boolean) (by decide)
      have F_entity_b17 : Fld Z h17 b17 "com/example/patterns_to_keys/patternstokeys/AccessPattern$Action" "entity" "Lcom/example/patterns_to_keys/patternstokeys/Entity;" .null := D17 (Or.inr (hw _ (List.mem_of_getElem? (i := 21) rfl))) (ty := (.object "com/example/patterns_to_keys/patternstokeys/Entity")) (by decide)
      have F_values_b17 : Fld Z h17 b17 "com/example/patterns_to_keys/patternstokeys/AccessPattern$Action" "values" "Ljava/util/Map;" .null := D17 (Or.inr (hw _ (List.mem_of_getElem? (i := 23) rfl))) (ty := (.object "java/util/Map")) (by decide)
      have F_precondition_b17 : Fld Z h17 b17 "com/example/patterns_to_keys/patternstokeys/AccessPattern$Action" "precondition" "Lcom/example/patterns_to_keys/patternstokeys/AccessPattern$Precondition;" .null := D17 (Or.inr (hw _ (List.mem_of_getElem? (i := 25) rfl))) (ty := (.object "com/example/patterns_to_keys/patternstokeys/AccessPattern$Precondition")) (by decide)
      show Ends p e below s T17 (mkF m 52 #[.val (.int p0), .val (.int p1), .val (.int (1 : Int32)), .val (.int (0 : Int32)), .val (.ref w_NONE), .unset, .unset] [(.ref b17)]) _ _ _
      refine Ends.go (fun _ k => XS.dup X17.here hx rfl (hb hby at_52) rfl rfl k) ?_
      show Ends p e below s T17 (mkF m 53 #[.val (.int p0), .val (.int p1), .val (.int (1 : Int32)), .val (.int (0 : Int32)), .val (.ref w_NONE), .unset, .unset] [(.ref b17), (.ref b17)]) _ _ _
      refine Ends.go (fun _ k => XS.iloadN X17.here hx rfl (hb hby at_53) rfl k) ?_
      show Ends p e below s T17 (mkF m 54 #[.val (.int p0), .val (.int p1), .val (.int (1 : Int32)), .val (.int (0 : Int32)), .val (.ref w_NONE), .unset, .unset] [(.int (1 : Int32)), (.ref b17), (.ref b17)]) _ _ _
      refine Ends.go (fun _ k => XS.aconstNull X17.here hx rfl (hb hby at_54) k) ?_
      show Ends p e below s T17 (mkF m 55 #[.val (.int p0), .val (.int p1), .val (.int (1 : Int32)), .val (.int (0 : Int32)), .val (.ref w_NONE), .unset, .unset] [.null, (.int (1 : Int32)), (.ref b17), (.ref b17)]) _ _ _
      refine Ends.go (fun _ k => XS.aconstNull X17.here hx rfl (hb hby at_55) k) ?_
      show Ends p e below s T17 (mkF m 56 #[.val (.int p0), .val (.int p1), .val (.int (1 : Int32)), .val (.int (0 : Int32)), .val (.ref w_NONE), .unset, .unset] [.null, .null, (.int (1 : Int32)), (.ref b17), (.ref b17)]) _ _ _
      refine Ends.go (fun _ k => XS.aload X17.here hx rfl (hb hby at_56) rfl rfl k) ?_
      show Ends p e below s T17 (mkF m 58 #[.val (.int p0), .val (.int p1), .val (.int (1 : Int32)), .val (.int (0 : Int32)), .val (.ref w_NONE), .unset, .unset] [(.ref w_NONE), .null, .null, (.int (1 : Int32)), (.ref b17), (.ref b17)]) _ _ _
      obtain ⟨_, _, ⟨T18, L18, k18, n18⟩, -, X18, ⟨Lc18, hQ18, l18, y18, z18⟩, st18⟩ := X17.specialBack hx (y := (⟨"com/example/patterns_to_keys/patternstokeys/AccessPattern$Action", "<init>", "(ZLcom/example/patterns_to_keys/patternstokeys/Entity;Ljava/util/Map;Lcom/example/patterns_to_keys/patternstokeys/AccessPattern$Precondition;)V"⟩ : MethodName)) rfl hown (mvT hZ (hw _ (List.mem_of_getElem? (i := 7) rfl))) (mvT hZ (hw _ (List.mem_of_getElem? (i := 8) rfl))) (mvT hZ (hw _ (List.mem_of_getElem? (i := 9) rfl))) (by decide) (own_backOf (W := 1) (rmI l Z a0 hw [] n0 h17 O17 b17 (1 : Int32) w_NONE g_b17 A17 F_delete_b17 F_entity_b17 F_values_b17 F_precondition_b17 (1 : Int32) rfl) hZ (hw _ (List.mem_of_getElem? (i := 9) rfl)) (hw _ (List.mem_of_getElem? (i := 6) rfl)) (by decide) (by decide)) (g := (mkF m 58 #[.val (.int p0), .val (.int p1), .val (.int (1 : Int32)), .val (.int (0 : Int32)), .val (.ref w_NONE), .unset, .unset] [(.ref w_NONE), .null, .null, (.int (1 : Int32)), (.ref b17), (.ref b17)])) rfl (by rw [hml]; rfl) (Steps.refl _) (a := b17) (argsL := [(.int (1 : Int32)), .null, .null, (.ref w_NONE)]) (rest := [(.ref b17)]) (lenOf pd0_0 rfl) rfl (by show 2 * 0 + _ ≤ _; exact Nat.le_of_eq rfl) (hb hby at_58) (fun _ _ => ⟨rfl, e17, (by decide : 1 + 0 ≤ _), (by decide : 4 + 0 ≤ _)⟩)
      dsimp only [Pt.U, Pt.locs, Pt.cells, Pt.slots] at X18 l18 y18 z18 st18 hQ18
      subst l18 y18 z18
      obtain ⟨rfl, N18q, K18c, Eq18, Fd18, Fp18⟩ := hQ18
      have N18 := Fr.app N0 N18q
      refine Ends.go (fun _ k => st18.trans k) ?_
      obtain ⟨h18, e18⟩ : ∃ z, T18.heap = z := ⟨_, rfl⟩
      rw [e18] at K18c Eq18 Fd18 Fp18
      have K18 := K17.trans K18c (allS (Or.inr sz_b17) all0)
      have O18 := O17.keep K18c (allS g_b17 all0)
      show Ends p e below s T18 (mkF m 61 #[.val (.int p0), .val (.int p1), .val (.int (1 : Int32)), .val (.int (0 : Int32)), .val (.ref w_NONE), .unset, .unset] [(.ref b17)]) _ _ _
      refine Ends.go (fun _ k => XS.astore X18.here hx rfl (hb hby at_61) rfl rfl (l' := #[.val (.int p0), .val (.int p1), .val (.int (1 : Int32)), .val (.int (0 : Int32)), .val (.ref w_NONE), .val (.ref b17), .unset]) rfl k) ?_
      show Ends p e below s T18 (mkF m 63 #[.val (.int p0), .val (.int p1), .val (.int (1 : Int32)), .val (.int (0 : Int32)), .val (.ref w_NONE), .val (.ref b17), .unset] []) _ _ _
      refine Ends.go (fun _ k => XS.iloadN X18.here hx rfl (hb hby at_63) rfl k) ?_
      show Ends p e below s T18 (mkF m 64 #[.val (.int p0), .val (.int p1), .val (.int (1 : Int32)), .val (.int (0 : Int32)), .val (.ref w_NONE), .val (.ref b17), .unset] [(.int (0 : Int32))]) _ _ _
      refine Ends.go (fun _ k => XS.ifNo X18.here hx rfl (hb hby at_64) rfl ((if0 _ _).trans (teq (by decide : (0 : Int32) = (0 : Int32))).2) k) ?_
      show Ends p e below s T18 (mkF m 67 #[.val (.int p0), .val (.int p1), .val (.int (1 : Int32)), .val (.int (0 : Int32)), .val (.ref w_NONE), .val (.ref b17), .unset] []) _ _ _
      refine Ends.go (fun _ k => XS.iconst X18.here hx rfl (hb hby at_67) k) ?_
      show Ends p e below s T18 (mkF m 68 #[.val (.int p0), .val (.int p1), .val (.int (1 : Int32)), .val (.int (0 : Int32)), .val (.ref w_NONE), .val (.ref b17), .unset] [(.int (0 : Int32))]) _ _ _
      refine Ends.go (fun _ k => XS.istore X18.here hx rfl (hb hby at_68) rfl (l' := #[.val (.int p0), .val (.int p1), .val (.int (1 : Int32)), .val (.int (0 : Int32)), .val (.ref w_NONE), .val (.ref b17), .val (.int (0 : Int32))]) rfl k) ?_
      show Ends p e below s T18 (mkF m 70 #[.val (.int p0), .val (.int p1), .val (.int (1 : Int32)), .val (.int (0 : Int32)), .val (.ref w_NONE), .val (.ref b17), .val (.int (0 : Int32))] []) _ _ _
      refine Ends.go (fun _ k => XS.goto X18.here hx rfl (pc0 := 70) (pc' := 87) rfl (hb hby at_70) (by decide) (by decide) k) ?_
      show Ends p e below s T18 (mkF m 87 #[.val (.int p0), .val (.int p1), .val (.int (1 : Int32)), .val (.int (0 : Int32)), .val (.ref w_NONE), .val (.ref b17), .val (.int (0 : Int32))] []) _ _ _
      refine Ends.go (fun _ k => XS.aload X18.here hx rfl (hb hby at_87) rfl rfl k) ?_
      show Ends p e below s T18 (mkF m 89 #[.val (.int p0), .val (.int p1), .val (.int (1 : Int32)), .val (.int (0 : Int32)), .val (.ref w_NONE), .val (.ref b17), .val (.int (0 : Int32))] [(.ref b17)]) _ _ _
      obtain ⟨cq19, kq19, q19a, q19b, q19c⟩ := isOf hZ e18 Eq18
      obtain ⟨_, _, ⟨T19, L19, k19, n19⟩, -, X19, ⟨Lc19, hQ19, l19, y19, z19⟩, st19⟩ := X18.virtualBack hx (y := (⟨"com/example/patterns_to_keys/patternstokeys/AccessPattern$Action", "refusesRepeat", "()Z"⟩ : MethodName)) (z := (⟨"com/example/patterns_to_keys/patternstokeys/AccessPattern$Action", "refusesRepeat", "()Z"⟩ : MethodName)) hown (mvT hZ (hw _ (List.mem_of_getElem? (i := 26) rfl))) (mvT hZ (hw _ (List.mem_of_getElem? (i := 27) rfl))) (notFace_of_selects (args := #[]) (mvT hZ (hw _ (List.mem_of_getElem? (i := 29) rfl)))) (mvT hZ (hw _ (List.mem_of_getElem? (i := 29) rfl))) (mvT hZ (hw _ (List.mem_of_getElem? (i := 28) rfl))) (by decide) (own_backOf (W := 0) (rmF l Z a0 hw [] n0 h18 O18 b17 w_NONE w_IF_ABSENT w_IF_PRESENT FF0 (1 : Int32) w_NONE Fd18 Fp18 (0 : Int32) (by rw [if_neg (Fld.ne F_ordinal_NONE F_ordinal_IF_ABSENT (by decide)), if_neg (by decide), if_neg (Fld.ne F_ordinal_NONE F_ordinal_IF_PRESENT (by decide))])) hZ (hw _ (List.mem_of_getElem? (i := 30) rfl)) (hw _ (List.mem_of_getElem? (i := 6) rfl)) (by decide) (by decide)) q19a q19c (g := (mkF m 89 #[.val (.int p0), .val (.int p1), .val (.int (1 : Int32)), .val (.int (0 : Int32)), .val (.ref w_NONE), .val (.ref b17), .val (.int (0 : Int32))] [(.ref b17)])) rfl (by rw [hml]; rfl) (Steps.refl _) (argsL := []) (rest := []) (lenOf pd0_1 rfl) rfl (by show 2 * 0 + _ ≤ _; exact Nat.le_of_eq rfl) (hb hby at_89) (fun _ _ => ⟨rfl, e18, (by decide : 1 + 0 ≤ _), (by decide : 4 + 0 ≤ _)⟩)
      dsimp only [Pt.U, Pt.locs, Pt.cells, Pt.slots] at X19 l19 y19 z19 st19 hQ19
      subst l19 y19 z19
      obtain ⟨rfl, N19q, e19q⟩ := hQ19
      have N19 := Fr.app N18 N19q
      refine Ends.go (fun _ k => st19.trans k) ?_
      show Ends p e below s T19 (mkF m 92 #[.val (.int p0), .val (.int p1), .val (.int (1 : Int32)), .val (.int (0 : Int32)), .val (.ref w_NONE), .val (.ref b17), .val (.int (0 : Int32))] [(.int (0 : Int32))]) _ _ _
      refine Ends.go (fun _ k => XS.iload X19.here hx rfl (hb hby at_92) rfl k) ?_
      show Ends p e below s T19 (mkF m 94 #[.val (.int p0), .val (.int p1), .val (.int (1 : Int32)), .val (.int (0 : Int32)), .val (.ref w_NONE), .val (.ref b17), .val (.int (0 : Int32))] [(.int (0 : Int32)), (.int (0 : Int32))]) _ _ _
      refine Ends.go (fun _ k => XS.icmpNo X19.here hx rfl (hb hby at_94) rfl (teq (by decide : (0 : Int32) = (0 : Int32))).2 k) ?_
      show Ends p e below s T19 (mkF m 97 #[.val (.int p0), .val (.int p1), .val (.int (1 : Int32)), .val (.int (0 : Int32)), .val (.ref w_NONE), .val (.ref b17), .val (.int (0 : Int32))] []) _ _ _
      refine Ends.go (fun _ k => XS.iconst X19.here hx rfl (hb hby at_97) k) ?_
      show Ends p e below s T19 (mkF m 98 #[.val (.int p0), .val (.int p1), .val (.int (1 : Int32)), .val (.int (0 : Int32)), .val (.ref w_NONE), .val (.ref b17), .val (.int (0 : Int32))] [(.int (1 : Int32))]) _ _ _
      refine Ends.go (fun _ k => XS.goto X19.here hx rfl (pc0 := 98) (pc' := 102) rfl (hb hby at_98) (by decide) (by decide) k) ?_
      show Ends p e below s T19 (mkF m 102 #[.val (.int p0), .val (.int p1), .val (.int (1 : Int32)), .val (.int (0 : Int32)), .val (.ref w_NONE), .val (.ref b17), .val (.int (0 : Int32))] [(.int (1 : Int32))]) _ _ _
      refine Ends.retZ X19 hx Bd.notSynchronized (t := .boolean) Bd.returns (by simp) (hb hby at_102) (by decide) (by decide) ?_
      exact ⟨rfl, N19⟩
    · show Ends p e below s s₁ (mkF m 18 #[.val (.int p0), .val (.int p1), .val (.int (1 : Int32)), .unset, .unset, .unset, .unset] [(.int (1 : Int32))]) _ _ _
      refine Ends.go (fun _ k => XS.istoreN X0.here hx rfl (hb hby at_18) rfl (l' := #[.val (.int p0), .val (.int p1), .val (.int (1 : Int32)), .val (.int (1 : Int32)), .unset, .unset, .unset]) rfl k) ?_
      show Ends p e below s s₁ (mkF m 19 #[.val (.int p0), .val (.int p1), .val (.int (1 : Int32)), .val (.int (1 : Int32)), .unset, .unset, .unset] []) _ _ _
      refine Ends.go (fun _ k => XS.iloadN X0.here hx rfl (hb hby at_19) rfl k) ?_
      show Ends p e below s s₁ (mkF m 20 #[.val (.int p0), .val (.int p1), .val (.int (1 : Int32)), .val (.int (1 : Int32)), .unset, .unset, .unset] [(.int (1 : Int32))]) _ _ _
      refine Ends.go (fun _ k => XS.ifYes X0.here hx rfl (pc0 := 20) (pc' := 31) rfl (hb hby at_20) rfl ((if0 _ _).trans (feq (by decide : ¬ ((1 : Int32) = (0 : Int32)))).2) (by decide) (by decide) k) ?_
      show Ends p e below s s₁ (mkF m 31 #[.val (.int p0), .val (.int p1), .val (.int (1 : Int32)), .val (.int (1 : Int32)), .unset, .unset, .unset] []) _ _ _
      refine Ends.go (fun _ k => XS.iloadN X0.here hx rfl (hb hby at_31) rfl k) ?_
      show Ends p e below s s₁ (mkF m 32 #[.val (.int p0), .val (.int p1), .val (.int (1 : Int32)), .val (.int (1 : Int32)), .unset, .unset, .unset] [(.int (1 : Int32))]) _ _ _
      refine Ends.go (fun _ k => XS.iconst X0.here hx rfl (hb hby at_32) k) ?_
      show Ends p e below s s₁ (mkF m 33 #[.val (.int p0), .val (.int p1), .val (.int (1 : Int32)), .val (.int (1 : Int32)), .unset, .unset, .unset] [(.int (1 : Int32)), (.int (1 : Int32))]) _ _ _
      refine Ends.go (fun _ k => XS.icmpNo X0.here hx rfl (hb hby at_33) rfl (teq (by decide : (1 : Int32) = (1 : Int32))).2 k) ?_
      show Ends p e below s s₁ (mkF m 36 #[.val (.int p0), .val (.int p1), .val (.int (1 : Int32)), .val (.int (1 : Int32)), .unset, .unset, .unset] []) _ _ _
      obtain ⟨T20, X20, e20, st20⟩ := getS2 X0 hx hZ hown (host := "") (Or.inl (hw _ (List.mem_of_getElem? (i := 33) rfl))) Via.refl e0 (S_IF_ABSENT.ext O0.2) (g := (mkF m 36 #[.val (.int p0), .val (.int p1), .val (.int (1 : Int32)), .val (.int (1 : Int32)), .unset, .unset, .unset] [])) rfl (hb hby at_36)
      refine Ends.go st20 ?_
      show Ends p e below s T20 (mkF m 39 #[.val (.int p0), .val (.int p1), .val (.int (1 : Int32)), .val (.int (1 : Int32)), .unset, .unset, .unset] [(.ref w_IF_ABSENT)]) _ _ _
      refine Ends.go (fun _ k => XS.astore X20.here hx rfl (hb hby at_39) rfl rfl (l' := #[.val (.int p0), .val (.int p1), .val (.int (1 : Int32)), .val (.int (1 : Int32)), .val (.ref w_IF_ABSENT), .unset, .unset]) rfl k) ?_
      show Ends p e below s T20 (mkF m 41 #[.val (.int p0), .val (.int p1), .val (.int (1 : Int32)), .val (.int (1 : Int32)), .val (.ref w_IF_ABSENT), .unset, .unset] []) _ _ _
      refine Ends.go (fun _ k => XS.goto X20.here hx rfl (pc0 := 41) (pc' := 49) rfl (hb hby at_41) (by decide) (by decide) k) ?_
      show Ends p e below s T20 (mkF m 49 #[.val (.int p0), .val (.int p1), .val (.int (1 : Int32)), .val (.int (1 : Int32)), .val (.ref w_IF_ABSENT), .unset, .unset] []) _ _ _
      obtain ⟨T21, h21, X21, e21, E21, A21, D21, -, st21⟩ := newO X20 hx hZ hown (hw _ (List.mem_of_getElem? (i := 4) rfl)) (hw _ (List.mem_of_getElem? (i := 5) rfl)) (hw _ (List.mem_of_getElem? (i := 6) rfl)) e20 (g := (mkF m 49 #[.val (.int p0), .val (.int p1), .val (.int (1 : Int32)), .val (.int (1 : Int32)), .val (.ref w_IF_ABSENT), .unset, .unset] [])) rfl (hb hby at_49) (by decide) (by decide)
      obtain ⟨b21, g21⟩ : ∃ z, z = h0.size := ⟨_, rfl⟩
      rw [← g21] at A21 D21 st21
      refine Ends.go st21 ?_
      have g_b21 : n0 ≤ b21 := Nat.le_trans (own_old_le O0) (Nat.le_of_eq g21.symm)
      have sz_b21 : h0.size ≤ b21 := Nat.le_trans K0.1 (Nat.le_of_eq g21.symm)
      have K21 := K0.ext E21
      have O21 := O0.ext E21
      have F_delete_b21 : Fld Z h21 b21 "com/example/patterns_to_keys/patternstokeys/AccessPattern$Action" "delete" "Z" (.int (0 : Int32)) := D21 (Or.inr (hw _ (List.mem_of_getElem? (i := 19) rfl))) (ty := .boolean) (by decide)
      have F_entity_b21 : Fld Z h21 b21 "com/example/patterns_to_keys/patternstokeys/AccessPattern$Action" "entity" "Lcom/example/patterns_to_keys/patternstokeys/Entity;" .null := D21 (Or.inr (hw _ (List.mem_of_getElem? (i := 21) rfl))) (ty := (.object "com/example/patterns_to_keys/patternstokeys/Entity")) (by decide)
      have F_values_b21 : Fld Z h21 b21 "com/example/patterns_to_keys/patternstokeys/AccessPattern$Action" "values" "Ljava/util/Map;" .null := D21 (Or.inr (hw _ (List.mem_of_getElem? (i := 23) rfl))) (ty := (.object "java/util/Map")) (by decide)
      have F_precondition_b21 : Fld Z h21 b21 "com/example/patterns_to_keys/patternstokeys/AccessPattern$Action" "precondition" "Lcom/example/patterns_to_keys/patternstokeys/AccessPattern$Precondition;" .null := D21 (Or.inr (hw _ (List.mem_of_getElem? (i := 25) rfl))) (ty := (.object "com/example/patterns_to_keys/patternstokeys/AccessPattern$Precondition")) (by decide)
      show Ends p e below s T21 (mkF m 52 #[.val (.int p0), .val (.int p1), .val (.int (1 : Int32)), .val (.int (1 : Int32)), .val (.ref w_IF_ABSENT), .unset, .unset] [(.ref b21)]) _ _ _
      refine Ends.go (fun _ k => XS.dup X21.here hx rfl (hb hby at_52) rfl rfl k) ?_
      show Ends p e below s T21 (mkF m 53 #[.val (.int p0), .val (.int p1), .val (.int (1 : Int32)), .val (.int (1 : Int32)), .val (.ref w_IF_ABSENT), .unset, .unset] [(.ref b21), (.ref b21)]) _ _ _
      refine Ends.go (fun _ k => XS.iloadN X21.here hx rfl (hb hby at_53) rfl k) ?_
      show Ends p e below s T21 (mkF m 54 #[.val (.int p0), .val (.int p1), .val (.int (1 : Int32)), .val (.int (1 : Int32)), .val (.ref w_IF_ABSENT), .unset, .unset] [(.int (1 : Int32)), (.ref b21), (.ref b21)]) _ _ _
      refine Ends.go (fun _ k => XS.aconstNull X21.here hx rfl (hb hby at_54) k) ?_
      show Ends p e below s T21 (mkF m 55 #[.val (.int p0), .val (.int p1), .val (.int (1 : Int32)), .val (.int (1 : Int32)), .val (.ref w_IF_ABSENT), .unset, .unset] [.null, (.int (1 : Int32)), (.ref b21), (.ref b21)]) _ _ _
      refine Ends.go (fun _ k => XS.aconstNull X21.here hx rfl (hb hby at_55) k) ?_
      show Ends p e below s T21 (mkF m 56 #[.val (.int p0), .val (.int p1), .val (.int (1 : Int32)), .val (.int (1 : Int32)), .val (.ref w_IF_ABSENT), .unset, .unset] [.null, .null, (.int (1 : Int32)), (.ref b21), (.ref b21)]) _ _ _
      refine Ends.go (fun _ k => XS.aload X21.here hx rfl (hb hby at_56) rfl rfl k) ?_
      show Ends p e below s T21 (mkF m 58 #[.val (.int p0), .val (.int p1), .val (.int (1 : Int32)), .val (.int (1 : Int32)), .val (.ref w_IF_ABSENT), .unset, .unset] [(.ref w_IF_ABSENT), .null, .null, (.int (1 : Int32)), (.ref b21), (.ref b21)]) _ _ _
      obtain ⟨_, _, ⟨T22, L22, k22, n22⟩, -, X22, ⟨Lc22, hQ22, l22, y22, z22⟩, st22⟩ := X21.specialBack hx (y := (⟨"com/example/patterns_to_keys/patternstokeys/AccessPattern$Action", "<init>", "(ZLcom/example/patterns_to_keys/patternstokeys/Entity;Ljava/util/Map;Lcom/example/patterns_to_keys/patternstokeys/AccessPattern$Precondition;)V"⟩ : MethodName)) rfl hown (mvT hZ (hw _ (List.mem_of_getElem? (i := 7) rfl))) (mvT hZ (hw _ (List.mem_of_getElem? (i := 8) rfl))) (mvT hZ (hw _ (List.mem_of_getElem? (i := 9) rfl))) (by decide) (own_backOf (W := 1) (rmI l Z a0 hw [] n0 h21 O21 b21 (1 : Int32) w_IF_ABSENT g_b21 A21 F_delete_b21 F_entity_b21 F_values_b21 F_precondition_b21 (1 : Int32) rfl) hZ (hw _ (List.mem_of_getElem? (i := 9) rfl)) (hw _ (List.mem_of_getElem? (i := 6) rfl)) (by decide) (by decide)) (g := (mkF m 58 #[.val (.int p0), .val (.int p1), .val (.int (1 : Int32)), .val (.int (1 : Int32)), .val (.ref w_IF_ABSENT), .unset, .unset] [(.ref w_IF_ABSENT), .null, .null, (.int (1 : Int32)), (.ref b21), (.ref b21)])) rfl (by rw [hml]; rfl) (Steps.refl _) (a := b21) (argsL := [(.int (1 : Int32)), .null, .null, (.ref w_IF_ABSENT)]) (rest := [(.ref b21)]) (lenOf pd0_0 rfl) rfl (by show 2 * 0 + _ ≤ _; exact Nat.le_of_eq rfl) (hb hby at_58) (fun _ _ => ⟨rfl, e21, (by decide : 1 + 0 ≤ _), (by decide : 4 + 0 ≤ _)⟩)
      dsimp only [Pt.U, Pt.locs, Pt.cells, Pt.slots] at X22 l22 y22 z22 st22 hQ22
      subst l22 y22 z22
      obtain ⟨rfl, N22q, K22c, Eq22, Fd22, Fp22⟩ := hQ22
      have N22 := Fr.app N0 N22q
      refine Ends.go (fun _ k => st22.trans k) ?_
      obtain ⟨h22, e22⟩ : ∃ z, T22.heap = z := ⟨_, rfl⟩
      rw [e22] at K22c Eq22 Fd22 Fp22
      have K22 := K21.trans K22c (allS (Or.inr sz_b21) all0)
      have O22 := O21.keep K22c (allS g_b21 all0)
      show Ends p e below s T22 (mkF m 61 #[.val (.int p0), .val (.int p1), .val (.int (1 : Int32)), .val (.int (1 : Int32)), .val (.ref w_IF_ABSENT), .unset, .unset] [(.ref b21)]) _ _ _
      refine Ends.go (fun _ k => XS.astore X22.here hx rfl (hb hby at_61) rfl rfl (l' := #[.val (.int p0), .val (.int p1), .val (.int (1 : Int32)), .val (.int (1 : Int32)), .val (.ref w_IF_ABSENT), .val (.ref b21), .unset]) rfl k) ?_
      show Ends p e below s T22 (mkF m 63 #[.val (.int p0), .val (.int p1), .val (.int (1 : Int32)), .val (.int (1 : Int32)), .val (.ref w_IF_ABSENT), .val (.ref b21), .unset] []) _ _ _
      refine Ends.go (fun _ k => XS.iloadN X22.here hx rfl (hb hby at_63) rfl k) ?_
      show Ends p e below s T22 (mkF m 64 #[.val (.int p0), .val (.int p1), .val (.int (1 : Int32)), .val (.int (1 : Int32)), .val (.ref w_IF_ABSENT), .val (.ref b21), .unset] [(.int (1 : Int32))]) _ _ _
      refine Ends.go (fun _ k => XS.ifYes X22.here hx rfl (pc0 := 64) (pc' := 73) rfl (hb hby at_64) rfl ((if0 _ _).trans (feq (by decide : ¬ ((1 : Int32) = (0 : Int32)))).2) (by decide) (by decide) k) ?_
      show Ends p e below s T22 (mkF m 73 #[.val (.int p0), .val (.int p1), .val (.int (1 : Int32)), .val (.int (1 : Int32)), .val (.ref w_IF_ABSENT), .val (.ref b21), .unset] []) _ _ _
      refine Ends.go (fun _ k => XS.iloadN X22.here hx rfl (hb hby at_73) rfl k) ?_
      show Ends p e below s T22 (mkF m 74 #[.val (.int p0), .val (.int p1), .val (.int (1 : Int32)), .val (.int (1 : Int32)), .val (.ref w_IF_ABSENT), .val (.ref b21), .unset] [(.int (1 : Int32))]) _ _ _
      refine Ends.go (fun _ k => XS.iconst X22.here hx rfl (hb hby at_74) k) ?_
      show Ends p e below s T22 (mkF m 75 #[.val (.int p0), .val (.int p1), .val (.int (1 : Int32)), .val (.int (1 : Int32)), .val (.ref w_IF_ABSENT), .val (.ref b21), .unset] [(.int (1 : Int32)), (.int (1 : Int32))]) _ _ _
      refine Ends.go (fun _ k => XS.icmpNo X22.here hx rfl (hb hby at_75) rfl (teq (by decide : (1 : Int32) = (1 : Int32))).2 k) ?_
      show Ends p e below s T22 (mkF m 78 #[.val (.int p0), .val (.int p1), .val (.int (1 : Int32)), .val (.int (1 : Int32)), .val (.ref w_IF_ABSENT), .val (.ref b21), .unset] []) _ _ _
      refine Ends.go (fun _ k => XS.iconst X22.here hx rfl (hb hby at_78) k) ?_
      show Ends p e below s T22 (mkF m 79 #[.val (.int p0), .val (.int p1), .val (.int (1 : Int32)), .val (.int (1 : Int32)), .val (.ref w_IF_ABSENT), .val (.ref b21), .unset] [(.int (1 : Int32))]) _ _ _
      refine Ends.go (fun _ k => XS.istore X22.here hx rfl (hb hby at_79) rfl (l' := #[.val (.int p0), .val (.int p1), .val (.int (1 : Int32)), .val (.int (1 : Int32)), .val (.ref w_IF_ABSENT), .val (.ref b21), .val (.int (1 : Int32))]) rfl k) ?_
      show Ends p e below s T22 (mkF m 81 #[.val (.int p0), .val (.int p1), .val (.int (1 : Int32)), .val (.int (1 : Int32)), .val (.ref w_IF_ABSENT), .val (.ref b21), .val (.int (1 : Int32))] []) _ _ _
      refine Ends.go (fun _ k => XS.goto X22.here hx rfl (pc0 := 81) (pc' := 87) rfl (hb hby at_81) (by decide) (by decide) k) ?_
      show Ends p e below s T22 (mkF m 87 #[.val (.int p0), .val (.int p1), .val (.int (1 : Int32)), .val (.int (1 : Int32)), .val (.ref w_IF_ABSENT), .val (.ref b21), .val (.int (1 : Int32))] []) _ _ _
      refine Ends.go (fun _ k => XS.aload X22.here hx rfl (hb hby at_87) rfl rfl k) ?_
      show Ends p e below s T22 (mkF m 89 #[.val (.int p0), .val (.int p1), .val (.int (1 : Int32)), .val (.int (1 : Int32)), .val (.ref w_IF_ABSENT), .val (.ref b21), .val (.int (1 : Int32))] [(.ref b21)]) _ _ _
      obtain ⟨cq23, kq23, q23a, q23b, q23c⟩ := isOf hZ e22 Eq22
      obtain ⟨_, _, ⟨T23, L23, k23, n23⟩, -, X23, ⟨Lc23, hQ23, l23, y23, z23⟩, st23⟩ := X22.virtualBack hx (y := (⟨"com/example/patterns_to_keys/patternstokeys/AccessPattern$Action", "refusesRepeat", "()Z"⟩ : MethodName)) (z := (⟨"com/example/patterns_to_keys/patternstokeys/AccessPattern$Action", "refusesRepeat", "()Z"⟩ : MethodName)) hown (mvT hZ (hw _ (List.mem_of_getElem? (i := 26) rfl))) (mvT hZ (hw _ (List.mem_of_getElem? (i := 27) rfl))) (notFace_of_selects (args := #[]) (mvT hZ (hw _ (List.mem_of_getElem? (i := 29) rfl)))) (mvT hZ (hw _ (List.mem_of_getElem? (i := 29) rfl))) (mvT hZ (hw _ (List.mem_of_getElem? (i := 28) rfl))) (by decide) (own_backOf (W := 0) (rmF l Z a0 hw [] n0 h22 O22 b21 w_NONE w_IF_ABSENT w_IF_PRESENT FF0 (1 : Int32) w_IF_ABSENT Fd22 Fp22 (1 : Int32) (by rw [if_pos rfl])) hZ (hw _ (List.mem_of_getElem? (i := 30) rfl)) (hw _ (List.mem_of_getElem? (i := 6) rfl)) (by decide) (by decide)) q23a q23c (g := (mkF m 89 #[.val (.int p0), .val (.int p1), .val (.int (1 : Int32)), .val (.int (1 : Int32)), .val (.ref w_IF_ABSENT), .val (.ref b21), .val (.int (1 : Int32))] [(.ref b21)])) rfl (by rw [hml]; rfl) (Steps.refl _) (argsL := []) (rest := []) (lenOf pd0_1 rfl) rfl (by show 2 * 0 + _ ≤ _; exact Nat.le_of_eq rfl) (hb hby at_89) (fun _ _ => ⟨rfl, e22, (by decide : 1 + 0 ≤ _), (by decide : 4 + 0 ≤ _)⟩)
      dsimp only [Pt.U, Pt.locs, Pt.cells, Pt.slots] at X23 l23 y23 z23 st23 hQ23
      subst l23 y23 z23
      obtain ⟨rfl, N23q, e23q⟩ := hQ23
      have N23 := Fr.app N22 N23q
      refine Ends.go (fun _ k => st23.trans k) ?_
      show Ends p e below s T23 (mkF m 92 #[.val (.int p0), .val (.int p1), .val (.int (1 : Int32)), .val (.int (1 : Int32)), .val (.ref w_IF_ABSENT), .val (.ref b21), .val (.int (1 : Int32))] [(.int (1 : Int32))]) _ _ _
      refine Ends.go (fun _ k => XS.iload X23.here hx rfl (hb hby at_92) rfl k) ?_
      show Ends p e below s T23 (mkF m 94 #[.val (.int p0), .val (.int p1), .val (.int (1 : Int32)), .val (.int (1 : Int32)), .val (.ref w_IF_ABSENT), .val (.ref b21), .val (.int (1 : Int32))] [(.int (1 : Int32)), (.int (1 : Int32))]) _ _ _
      refine Ends.go (fun _ k => XS.icmpNo X23.here hx rfl (hb hby at_94) rfl (teq (by decide : (1 : Int32) = (1 : Int32))).2 k) ?_
      show Ends p e below s T23 (mkF m 97 #[.val (.int p0), .val (.int p1), .val (.int (1 : Int32)), .val (.int (1 : Int32)), .val (.ref w_IF_ABSENT), .val (.ref b21), .val (.int (1 : Int32))] []) _ _ _
      refine Ends.go (fun _ k => XS.iconst X23.here hx rfl (hb hby at_97) k) ?_
      show Ends p e below s T23 (mkF m 98 #[.val (.int p0), .val (.int p1), .val (.int (1 : Int32)), .val (.int (1 : Int32)), .val (.ref w_IF_ABSENT), .val (.ref b21), .val (.int (1 : Int32))] [(.int (1 : Int32))]) _ _ _
      refine Ends.go (fun _ k => XS.goto X23.here hx rfl (pc0 := 98) (pc' := 102) rfl (hb hby at_98) (by decide) (by decide) k) ?_
      show Ends p e below s T23 (mkF m 102 #[.val (.int p0), .val (.int p1), .val (.int (1 : Int32)), .val (.int (1 : Int32)), .val (.ref w_IF_ABSENT), .val (.ref b21), .val (.int (1 : Int32))] [(.int (1 : Int32))]) _ _ _
      refine Ends.retZ X23 hx Bd.notSynchronized (t := .boolean) Bd.returns (by simp) (hb hby at_102) (by decide) (by decide) ?_
      exact ⟨rfl, N23⟩
    · show Ends p e below s s₁ (mkF m 18 #[.val (.int p0), .val (.int p1), .val (.int (1 : Int32)), .unset, .unset, .unset, .unset] [(.int (2 : Int32))]) _ _ _
      refine Ends.go (fun _ k => XS.istoreN X0.here hx rfl (hb hby at_18) rfl (l' := #[.val (.int p0), .val (.int p1), .val (.int (1 : Int32)), .val (.int (2 : Int32)), .unset, .unset, .unset]) rfl k) ?_
      show Ends p e below s s₁ (mkF m 19 #[.val (.int p0), .val (.int p1), .val (.int (1 : Int32)), .val (.int (2 : Int32)), .unset, .unset, .unset] []) _ _ _
      refine Ends.go (fun _ k => XS.iloadN X0.here hx rfl (hb hby at_19) rfl k) ?_
      show Ends p e below s s₁ (mkF m 20 #[.val (.int p0), .val (.int p1), .val (.int (1 : Int32)), .val (.int (2 : Int32)), .unset, .unset, .unset] [(.int (2 : Int32))]) _ _ _
      refine Ends.go (fun _ k => XS.ifYes X0.here hx rfl (pc0 := 20) (pc' := 31) rfl (hb hby at_20) rfl ((if0 _ _).trans (feq (by decide : ¬ ((2 : Int32) = (0 : Int32)))).2) (by decide) (by decide) k) ?_
      show Ends p e below s s₁ (mkF m 31 #[.val (.int p0), .val (.int p1), .val (.int (1 : Int32)), .val (.int (2 : Int32)), .unset, .unset, .unset] []) _ _ _
      refine Ends.go (fun _ k => XS.iloadN X0.here hx rfl (hb hby at_31) rfl k) ?_
      show Ends p e below s s₁ (mkF m 32 #[.val (.int p0), .val (.int p1), .val (.int (1 : Int32)), .val (.int (2 : Int32)), .unset, .unset, .unset] [(.int (2 : Int32))]) _ _ _
      refine Ends.go (fun _ k => XS.iconst X0.here hx rfl (hb hby at_32) k) ?_
      show Ends p e below s s₁ (mkF m 33 #[.val (.int p0), .val (.int p1), .val (.int (1 : Int32)), .val (.int (2 : Int32)), .unset, .unset, .unset] [(.int (1 : Int32)), (.int (2 : Int32))]) _ _ _
      refine Ends.go (fun _ k => XS.icmpYes X0.here hx rfl (pc0 := 33) (pc' := 44) rfl (hb hby at_33) rfl (feq (by decide : ¬ ((2 : Int32) = (1 : Int32)))).2 (by decide) (by decide) k) ?_
      show Ends p e below s s₁ (mkF m 44 #[.val (.int p0), .val (.int p1), .val (.int (1 : Int32)), .val (.int (2 : Int32)), .unset, .unset, .unset] []) _ _ _
      obtain ⟨T24, X24, e24, st24⟩ := getS2 X0 hx hZ hown (host := "") (Or.inl (hw _ (List.mem_of_getElem? (i := 34) rfl))) Via.refl e0 (S_IF_PRESENT.ext O0.2) (g := (mkF m 44 #[.val (.int p0), .val (.int p1), .val (.int (1 : Int32)), .val (.int (2 : Int32)), .unset, .unset, .unset] [])) rfl (hb hby at_44)
      refine Ends.go st24 ?_
      show Ends p e below s T24 (mkF m 47 #[.val (.int p0), .val (.int p1), .val (.int (1 : Int32)), .val (.int (2 : Int32)), .unset, .unset, .unset] [(.ref w_IF_PRESENT)]) _ _ _
      refine Ends.go (fun _ k => XS.astore X24.here hx rfl (hb hby at_47) rfl rfl (l' := #[.val (.int p0), .val (.int p1), .val (.int (1 : Int32)), .val (.int (2 : Int32)), .val (.ref w_IF_PRESENT), .unset, .unset]) rfl k) ?_
      show Ends p e below s T24 (mkF m 49 #[.val (.int p0), .val (.int p1), .val (.int (1 : Int32)), .val (.int (2 : Int32)), .val (.ref w_IF_PRESENT), .unset, .unset] []) _ _ _
      obtain ⟨T25, h25, X25, e25, E25, A25, D25, -, st25⟩ := newO X24 hx hZ hown (hw _ (List.mem_of_getElem? (i := 4) rfl)) (hw _ (List.mem_of_getElem? (i := 5) rfl)) (hw _ (List.mem_of_getElem? (i := 6) rfl)) e24 (g := (mkF m 49 #[.val (.int p0), .val (.int p1), .val (.int (1 : Int32)), .val (.int (2 : Int32)), .val (.ref w_IF_PRESENT), .unset, .unset] [])) rfl (hb hby at_49) (by decide) (by decide)
      obtain ⟨b25, g25⟩ : ∃ z, z = h0.size := ⟨_, rfl⟩
      rw [← g25] at A25 D25 st25
      refine Ends.go st25 ?_
      have g_b25 : n0 ≤ b25 := Nat.le_trans (own_old_le O0) (Nat.le_of_eq g25.symm)
      have sz_b25 : h0.size ≤ b25 := Nat.le_trans K0.1 (Nat.le_of_eq g25.symm)
      have K25 := K0.ext E25
      have O25 := O0.ext E25
      have F_delete_b25 : Fld Z h25 b25 "com/example/patterns_to_keys/patternstokeys/AccessPattern$Action" "delete" "Z" (.int (0 : Int32)) := D25 (Or.inr (hw _ (List.mem_of_getElem? (i := 19) rfl))) (ty := .boolean) (by decide)
      have F_entity_b25 : Fld Z h25 b25 "com/example/patterns_to_keys/patternstokeys/AccessPattern$Action" "entity" "Lcom/example/patterns_to_keys/patternstokeys/Entity;" .null := D25 (Or.inr (hw _ (List.mem_of_getElem? (i := 21) rfl))) (ty := (.object "com/example/patterns_to_keys/patternstokeys/Entity")) (by decide)
      have F_values_b25 : Fld Z h25 b25 "com/example/patterns_to_keys/patternstokeys/AccessPattern$Action" "values" "Ljava/util/Map;" .null := D25 (Or.inr (hw _ (List.mem_of_getElem? (i := 23) rfl))) (ty := (.object "java/util/Map")) (by decide)
      have F_precondition_b25 : Fld Z h25 b25 "com/example/patterns_to_keys/patternstokeys/AccessPattern$Action" "precondition" "Lcom/example/patterns_to_keys/patternstokeys/AccessPattern$Precondition;" .null := D25 (Or.inr (hw _ (List.mem_of_getElem? (i := 25) rfl))) (ty := (.object "com/example/patterns_to_keys/patternstokeys/AccessPattern$Precondition")) (by decide)
      show Ends p e below s T25 (mkF m 52 #[.val (.int p0), .val (.int p1), .val (.int (1 : Int32)), .val (.int (2 : Int32)), .val (.ref w_IF_PRESENT), .unset, .unset] [(.ref b25)]) _ _ _
      refine Ends.go (fun _ k => XS.dup X25.here hx rfl (hb hby at_52) rfl rfl k) ?_
      show Ends p e below s T25 (mkF m 53 #[.val (.int p0), .val (.int p1), .val (.int (1 : Int32)), .val (.int (2 : Int32)), .val (.ref w_IF_PRESENT), .unset, .unset] [(.ref b25), (.ref b25)]) _ _ _
      refine Ends.go (fun _ k => XS.iloadN X25.here hx rfl (hb hby at_53) rfl k) ?_
      show Ends p e below s T25 (mkF m 54 #[.val (.int p0), .val (.int p1), .val (.int (1 : Int32)), .val (.int (2 : Int32)), .val (.ref w_IF_PRESENT), .unset, .unset] [(.int (1 : Int32)), (.ref b25), (.ref b25)]) _ _ _
      refine Ends.go (fun _ k => XS.aconstNull X25.here hx rfl (hb hby at_54) k) ?_
      show Ends p e below s T25 (mkF m 55 #[.val (.int p0), .val (.int p1), .val (.int (1 : Int32)), .val (.int (2 : Int32)), .val (.ref w_IF_PRESENT), .unset, .unset] [.null, (.int (1 : Int32)), (.ref b25), (.ref b25)]) _ _ _
      refine Ends.go (fun _ k => XS.aconstNull X25.here hx rfl (hb hby at_55) k) ?_
      show Ends p e below s T25 (mkF m 56 #[.val (.int p0), .val (.int p1), .val (.int (1 : Int32)), .val (.int (2 : Int32)), .val (.ref w_IF_PRESENT), .unset, .unset] [.null, .null, (.int (1 : Int32)), (.ref b25), (.ref b25)]) _ _ _
      refine Ends.go (fun _ k => XS.aload X25.here hx rfl (hb hby at_56) rfl rfl k) ?_
      show Ends p e below s T25 (mkF m 58 #[.val (.int p0), .val (.int p1), .val (.int (1 : Int32)), .val (.int (2 : Int32)), .val (.ref w_IF_PRESENT), .unset, .unset] [(.ref w_IF_PRESENT), .null, .null, (.int (1 : Int32)), (.ref b25), (.ref b25)]) _ _ _
      obtain ⟨_, _, ⟨T26, L26, k26, n26⟩, -, X26, ⟨Lc26, hQ26, l26, y26, z26⟩, st26⟩ := X25.specialBack hx (y := (⟨"com/example/patterns_to_keys/patternstokeys/AccessPattern$Action", "<init>", "(ZLcom/example/patterns_to_keys/patternstokeys/Entity;Ljava/util/Map;Lcom/example/patterns_to_keys/patternstokeys/AccessPattern$Precondition;)V"⟩ : MethodName)) rfl hown (mvT hZ (hw _ (List.mem_of_getElem? (i := 7) rfl))) (mvT hZ (hw _ (List.mem_of_getElem? (i := 8) rfl))) (mvT hZ (hw _ (List.mem_of_getElem? (i := 9) rfl))) (by decide) (own_backOf (W := 1) (rmI l Z a0 hw [] n0 h25 O25 b25 (1 : Int32) w_IF_PRESENT g_b25 A25 F_delete_b25 F_entity_b25 F_values_b25 F_precondition_b25 (1 : Int32) rfl) hZ (hw _ (List.mem_of_getElem? (i := 9) rfl)) (hw _ (List.mem_of_getElem? (i := 6) rfl)) (by decide) (by decide)) (g := (mkF m 58 #[.val (.int p0), .val (.int p1), .val (.int (1 : Int32)), .val (.int (2 : Int32)), .val (.ref w_IF_PRESENT), .unset, .unset] [(.ref w_IF_PRESENT), .null, .null, (.int (1 : Int32)), (.ref b25), (.ref b25)])) rfl (by rw [hml]; rfl) (Steps.refl _) (a := b25) (argsL := [(.int (1 : Int32)), .null, .null, (.ref w_IF_PRESENT)]) (rest := [(.ref b25)]) (lenOf pd0_0 rfl) rfl (by show 2 * 0 + _ ≤ _; exact Nat.le_of_eq rfl) (hb hby at_58) (fun _ _ => ⟨rfl, e25, (by decide : 1 + 0 ≤ _), (by decide : 4 + 0 ≤ _)⟩)
      dsimp only [Pt.U, Pt.locs, Pt.cells, Pt.slots] at X26 l26 y26 z26 st26 hQ26
      subst l26 y26 z26
      obtain ⟨rfl, N26q, K26c, Eq26, Fd26, Fp26⟩ := hQ26
      have N26 := Fr.app N0 N26q
      refine Ends.go (fun _ k => st26.trans k) ?_
      obtain ⟨h26, e26⟩ : ∃ z, T26.heap = z := ⟨_, rfl⟩
      rw [e26] at K26c Eq26 Fd26 Fp26
      have K26 := K25.trans K26c (allS (Or.inr sz_b25) all0)
      have O26 := O25.keep K26c (allS g_b25 all0)
      show Ends p e below s T26 (mkF m 61 #[.val (.int p0), .val (.int p1), .val (.int (1 : Int32)), .val (.int (2 : Int32)), .val (.ref w_IF_PRESENT), .unset, .unset] [(.ref b25)]) _ _ _
      refine Ends.go (fun _ k => XS.astore X26.here hx rfl (hb hby at_61) rfl rfl (l' := #[.val (.int p0), .val (.int p1), .val (.int (1 : Int32)), .val (.int (2 : Int32)), .val (.ref w_IF_PRESENT), .val (.ref b25), .unset]) rfl k) ?_
      show Ends p e below s T26 (mkF m 63 #[.val (.int p0), .val (.int p1), .val (.int (1 : Int32)), .val (.int (2 : Int32)), .val (.ref w_IF_PRESENT), .val (.ref b25), .unset] []) _ _ _
      refine Ends.go (fun _ k => XS.iloadN X26.here hx rfl (hb hby at_63) rfl k) ?_
      show Ends p e below s T26 (mkF m 64 #[.val (.int p0), .val (.int p1), .val (.int (1 : Int32)), .val (.int (2 : Int32)), .val (.ref w_IF_PRESENT), .val (.ref b25), .unset] [(.int (2 : Int32))]) _ _ _
      refine Ends.go (fun _ k => XS.ifYes X26.here hx rfl (pc0 := 64) (pc' := 73) rfl (hb hby at_64) rfl ((if0 _ _).trans (feq (by decide : ¬ ((2 : Int32) = (0 : Int32)))).2) (by decide) (by decide) k) ?_
      show Ends p e below s T26 (mkF m 73 #[.val (.int p0), .val (.int p1), .val (.int (1 : Int32)), .val (.int (2 : Int32)), .val (.ref w_IF_PRESENT), .val (.ref b25), .unset] []) _ _ _
      refine Ends.go (fun _ k => XS.iloadN X26.here hx rfl (hb hby at_73) rfl k) ?_
      show Ends p e below s T26 (mkF m 74 #[.val (.int p0), .val (.int p1), .val (.int (1 : Int32)), .val (.int (2 : Int32)), .val (.ref w_IF_PRESENT), .val (.ref b25), .unset] [(.int (2 : Int32))]) _ _ _
      refine Ends.go (fun _ k => XS.iconst X26.here hx rfl (hb hby at_74) k) ?_
      show Ends p e below s T26 (mkF m 75 #[.val (.int p0), .val (.int p1), .val (.int (1 : Int32)), .val (.int (2 : Int32)), .val (.ref w_IF_PRESENT), .val (.ref b25), .unset] [(.int (1 : Int32)), (.int (2 : Int32))]) _ _ _
      refine Ends.go (fun _ k => XS.icmpYes X26.here hx rfl (pc0 := 75) (pc' := 84) rfl (hb hby at_75) rfl (feq (by decide : ¬ ((2 : Int32) = (1 : Int32)))).2 (by decide) (by decide) k) ?_
      show Ends p e below s T26 (mkF m 84 #[.val (.int p0), .val (.int p1), .val (.int (1 : Int32)), .val (.int (2 : Int32)), .val (.ref w_IF_PRESENT), .val (.ref b25), .unset] []) _ _ _
      refine Ends.go (fun _ k => XS.iloadN X26.here hx rfl (hb hby at_84) rfl k) ?_
      show Ends p e below s T26 (mkF m 85 #[.val (.int p0), .val (.int p1), .val (.int (1 : Int32)), .val (.int (2 : Int32)), .val (.ref w_IF_PRESENT), .val (.ref b25), .unset] [(.int (1 : Int32))]) _ _ _
      refine Ends.go (fun _ k => XS.istore X26.here hx rfl (hb hby at_85) rfl (l' := #[.val (.int p0), .val (.int p1), .val (.int (1 : Int32)), .val (.int (2 : Int32)), .val (.ref w_IF_PRESENT), .val (.ref b25), .val (.int (1 : Int32))]) rfl k) ?_
      show Ends p e below s T26 (mkF m 87 #[.val (.int p0), .val (.int p1), .val (.int (1 : Int32)), .val (.int (2 : Int32)), .val (.ref w_IF_PRESENT), .val (.ref b25), .val (.int (1 : Int32))] []) _ _ _
      refine Ends.go (fun _ k => XS.aload X26.here hx rfl (hb hby at_87) rfl rfl k) ?_
      show Ends p e below s T26 (mkF m 89 #[.val (.int p0), .val (.int p1), .val (.int (1 : Int32)), .val (.int (2 : Int32)), .val (.ref w_IF_PRESENT), .val (.ref b25), .val (.int (1 : Int32))] [(.ref b25)]) _ _ _
      obtain ⟨cq27, kq27, q27a, q27b, q27c⟩ := isOf hZ e26 Eq26
      obtain ⟨_, _, ⟨T27, L27, k27, n27⟩, -, X27, ⟨Lc27, hQ27, l27, y27, z27⟩, st27⟩ := X26.virtualBack hx (y := (⟨"com/example/patterns_to_keys/patternstokeys/AccessPattern$Action", "refusesRepeat", "()Z"⟩ : MethodName)) (z := (⟨"com/example/patterns_to_keys/patternstokeys/AccessPattern$Action", "refusesRepeat", "()Z"⟩ : MethodName)) hown (mvT hZ (hw _ (List.mem_of_getElem? (i := 26) rfl))) (mvT hZ (hw _ (List.mem_of_getElem? (i := 27) rfl))) (notFace_of_selects (args := #[]) (mvT hZ (hw _ (List.mem_of_getElem? (i := 29) rfl)))) (mvT hZ (hw _ (List.mem_of_getElem? (i := 29) rfl))) (mvT hZ (hw _ (List.mem_of_getElem? (i := 28) rfl))) (by decide) (own_backOf (W := 0) (rmF l Z a0 hw [] n0 h26 O26 b25 w_NONE w_IF_ABSENT w_IF_PRESENT FF0 (1 : Int32) w_IF_PRESENT Fd26 Fp26 (1 : Int32) (by rw [if_neg (Fld.ne F_ordinal_IF_PRESENT F_ordinal_IF_ABSENT (by decide)), if_neg (by decide), if_pos rfl])) hZ (hw _ (List.mem_of_getElem? (i := 30) rfl)) (hw _ (List.mem_of_getElem? (i := 6) rfl)) (by decide) (by decide)) q27a q27c (g := (mkF m 89 #[.val (.int p0), .val (.int p1), .val (.int (1 : Int32)), .val (.int (2 : Int32)), .val (.ref w_IF_PRESENT), .val (.ref b25), .val (.int (1 : Int32))] [(.ref b25)])) rfl (by rw [hml]; rfl) (Steps.refl _) (argsL := []) (rest := []) (lenOf pd0_1 rfl) rfl (by show 2 * 0 + _ ≤ _; exact Nat.le_of_eq rfl) (hb hby at_89) (fun _ _ => ⟨rfl, e26, (by decide : 1 + 0 ≤ _), (by decide : 4 + 0 ≤ _)⟩)
      dsimp only [Pt.U, Pt.locs, Pt.cells, Pt.slots] at X27 l27 y27 z27 st27 hQ27
      subst l27 y27 z27
      obtain ⟨rfl, N27q, e27q⟩ := hQ27
      have N27 := Fr.app N26 N27q
      refine Ends.go (fun _ k => st27.trans k) ?_
      show Ends p e below s T27 (mkF m 92 #[.val (.int p0), .val (.int p1), .val (.int (1 : Int32)), .val (.int (2 : Int32)), .val (.ref w_IF_PRESENT), .val (.ref b25), .val (.int (1 : Int32))] [(.int (1 : Int32))]) _ _ _
      refine Ends.go (fun _ k => XS.iload X27.here hx rfl (hb hby at_92) rfl k) ?_
      show Ends p e below s T27 (mkF m 94 #[.val (.int p0), .val (.int p1), .val (.int (1 : Int32)), .val (.int (2 : Int32)), .val (.ref w_IF_PRESENT), .val (.ref b25), .val (.int (1 : Int32))] [(.int (1 : Int32)), (.int (1 : Int32))]) _ _ _
      refine Ends.go (fun _ k => XS.icmpNo X27.here hx rfl (hb hby at_94) rfl (teq (by decide : (1 : Int32) = (1 : Int32))).2 k) ?_
      show Ends p e below s T27 (mkF m 97 #[.val (.int p0), .val (.int p1), .val (.int (1 : Int32)), .val (.int (2 : Int32)), .val (.ref w_IF_PRESENT), .val (.ref b25), .val (.int (1 : Int32))] []) _ _ _
      refine Ends.go (fun _ k => XS.iconst X27.here hx rfl (hb hby at_97) k) ?_
      show Ends p e below s T27 (mkF m 98 #[.val (.int p0), .val (.int p1), .val (.int (1 : Int32)), .val (.int (2 : Int32)), .val (.ref w_IF_PRESENT), .val (.ref b25), .val (.int (1 : Int32))] [(.int (1 : Int32))]) _ _ _
      refine Ends.go (fun _ k => XS.goto X27.here hx rfl (pc0 := 98) (pc' := 102) rfl (hb hby at_98) (by decide) (by decide) k) ?_
      show Ends p e below s T27 (mkF m 102 #[.val (.int p0), .val (.int p1), .val (.int (1 : Int32)), .val (.int (2 : Int32)), .val (.ref w_IF_PRESENT), .val (.ref b25), .val (.int (1 : Int32))] [(.int (1 : Int32))]) _ _ _
      refine Ends.retZ X27 hx Bd.notSynchronized (t := .boolean) Bd.returns (by simp) (hb hby at_102) (by decide) (by decide) ?_
      exact ⟨rfl, N27⟩
set_option maxRecDepth 65536 in
set_option maxHeartbeats 40000000 in
theorem comes_1 {Post : Tables → Env → Array Value → State → Outcome → State → Prop} (hpost : ∀ tb e args s v u, (limb_1_1.after args s (.returned v) u = true ∧ limb_1_2.after args s (.returned v) u = true ∧ True) → FrameEnd s (.returned v) u (Jvm.fieldLocs frame_1_writes args s ++ Jvm.arrayLocs frame_1_arrays args s ++ Jvm.staticLocs frame_1_statics s) 16 128 → Post tb e args s (.returned v) u) :
    ArmFor flags0 classFile x code maxLocals ret World_1 tables_1 room_1 Calls_1 rest_1 Pre_1 Post := by
  intro l hfl _ _ p e ha hc hk s m args below hf hA hF happ hP
  obtain ⟨hcalls, hrest, hpre⟩ := hP
  obtain ⟨-, -, -, hnamed, -, -, -, hat⟩ := (Spec.applies_iff hf).mp happ
  obtain ⟨hg, hn⟩ := and_e (Cond.before_iff.mp (show (Jvm.Cond.and given_1 narrow_1).before args s = true from hpre))
  obtain ⟨g0a, g0b⟩ := and_e hg
  obtain ⟨g1a, g1b⟩ := and_e g0b
  obtain ⟨w0, w1, rfl⟩ : ∃ w0 w1 : Value, args = #[w0, w1] := by
    have hs : args.size = 2 := by simpa [Cond.value, given_1] using g0a
    obtain ⟨L⟩ := args
    match L, hs with
    | [w0, w1], _ => exact ⟨w0, w1, rfl⟩
  have hw := fun d (hd : d ∈ tables_1) => atoms_spec (ws := Jvm.Cond.code x code maxLocals ret :: tables_1) hat d (List.mem_cons_of_mem _ hd)
  have hfit : Fit s := fun {y c} hc i hi => by
    obtain ⟨ha, rfl⟩ := Array.getElem?_eq_some_iff.mp hc
    have q := List.all_eq_true.mp ((Array.all_eq_true_iff_forall_mem.mp hF) _ (Array.getElem_mem ha)) i (List.mem_range.mpr hi)
    simpa [Array.getElem?_eq_getElem hi] using q
  obtain ⟨i0, ei0⟩ := is_v g1a
  obtain rfl : w0 = (.int i0) := Option.some.inj ei0
  obtain ⟨i1, ei1⟩ := is_v g1b
  obtain rfl : w1 = (.int i1) := Option.some.inj ei1
  obtain ⟨n0a, n0b⟩ := and_e hn
  obtain ⟨w_NONE, ev_NONE⟩ := exa_v n0a
  obtain ⟨n1a, n1b⟩ := and_e n0b
  obtain ⟨w_IF_ABSENT, ev_IF_ABSENT⟩ := exa_v n1a
  obtain ⟨n2a, n2b⟩ := and_e n1b
  obtain ⟨n3a, n3b⟩ := and_e n2b
  obtain ⟨n4a, n4b⟩ := and_e n3b
  obtain ⟨w_IF_PRESENT, ev_IF_PRESENT⟩ := exa_v n4a
  obtain ⟨n, o, h1, h2, h3, _, L, rfl, ⟨rfl, N⟩, hq⟩ := rm0 l s _ hw tables_1 s.heap.size s.heap (Old.start s) i0 i1 w_NONE w_IF_ABSENT w_IF_PRESENT ⟨Sta.start ev_NONE (Or.inr ⟨(hw _ (List.mem_of_getElem? (i := 2) rfl)), (hw _ (List.mem_of_getElem? (i := 3) rfl))⟩), Exa.start ev_NONE n0a, Sta.start ev_IF_ABSENT (Or.inr ⟨(hw _ (List.mem_of_getElem? (i := 2) rfl)), (hw _ (List.mem_of_getElem? (i := 32) rfl))⟩), Exa.start ev_IF_ABSENT n1a, Fld.start ((fld_at ev_NONE).symm.trans (own_eqI n2a)), Fld.start ((fld_at ev_IF_ABSENT).symm.trans (own_eqI n3a)), Sta.start ev_IF_PRESENT (Or.inr ⟨(hw _ (List.mem_of_getElem? (i := 2) rfl)), (hw _ (List.mem_of_getElem? (i := 35) rfl))⟩), Exa.start ev_IF_PRESENT n4a, Fld.start ((fld_at ev_IF_PRESENT).symm.trans (own_eqI n4b))⟩ p e ha hc hk s m _ below hf ((Spec.applies_iff_loose hf).mp happ).1 ⟨rfl, State.Warmed39.refl s, rfl⟩ trivial
  refine ⟨n, _, h1, h2, h3, hpost _ _ _ _ _ _ ⟨Cond.after_iff.mpr rfl, Cond.after_iff.mpr (eq_i res_at (Term.int_eval (1)) rfl), trivial⟩ ⟨hq.1, hq.2.1, (hq.2.2.sift fun y hy => Or.inr (N y hy)).mono (by decide) (by decide)⟩⟩
theorem main_1_1 : Claimed_1_1 := comes_1 fun _ _ _ _ _ _ h hF => ⟨h.1, hF⟩
theorem main_1_2 : Claimed_1_2 := comes_1 fun _ _ _ _ _ _ h hF => ⟨h.2.1, hF⟩
end Jvm.Pilot.@@N@@
namespace Jvm.Pilot.@@N@@
open Jvm Jvm.ClassFile Sem Op Lib Jvm.Free Jvm.Stand Jvm.Pilot.@@N@@.Jvm.D
/-! MADE BY PROGRAM (witnessworld.py) out of the Statement's table words and the real class files: 14 classes; the members and pool entries that the words name. The judged class is class 1, her method 1. -/
namespace start1
open Jvm.ClassFile
def u (s : String) : CpInfo := .utf8 (stringToUtf16 s)
/-- a pool by its gaps: so many unusable entries, then the entry; so many at the end -/
def gap : Nat → List CpInfo → List CpInfo
  | 0, r => r
  | n + 1, r => .unusable :: gap n r
def poolList (es : List (Nat × CpInfo)) (last : Nat) : List CpInfo := es.foldr (fun e r => gap e.1 (e.2 :: r)) (gap last [])
def pool (es : List (Nat × CpInfo)) (last : Nat) : Array CpInfo := ⟨poolList es last⟩
def fileOf (pool : Array CpInfo) (this : Nat) (attrs : Array Attribute := #[]) (ms : Array MethodInfo := #[]) (fl : Nat := 33) (sup : Nat := 0) (ifs : Array Nat := #[]) (fds : Array FieldInfo := #[]) : ClassFile where
  minorVersion := 0
  majorVersion := 65
  constantPool := pool
  accessFlags := fl
  thisClass := this
  superClass := sup
  interfaces := ifs
  fields := fds
  methods := ms
  attributes := attrs
def plain (name : String) (sup : Option ClassId) : Class where
  name := name
  kind := .ordinary
  loader := none
  accessFlags := 33
  super := sup
  interfaces := #[]
  cf := none
  fields := #[]
  methods := #[]
  instanceTypes := #[]
  staticTypes := #[]
  resolved := #[]
  callSites := []
  init := .initialized
  statics := none
  mirror := none

def pool0 : Array CpInfo := pool [(5, u "<init>"), (0, u "()V"), (1, .class_ 10), (1, u "java/lang/Object")] 113

def k0c0 : Code := { maxStack := 0, maxLocals := 1, code := object_method_1_code, exceptionTable := #[], attributes := #[] }
def k0m0 : Method := { name := "<init>", desc := "()V", sig := { parameters := [], returnType := none }, accessFlags := 1, code := some k0c0 }
/-- java/lang/Object -/
def k0 : Class := { plain "java/lang/Object" none with
  accessFlags := 33
  interfaces := #[]
  cf := some (fileOf pool0 8 #[] #[{ accessFlags := 1, nameIndex := 5, descriptorIndex := 6, attributes := #[] }] 33 0 #[] #[])
  fields := #[]
  methods := #[k0m0]
  instanceTypes := #[]
  staticTypes := #[]
  resolved := Array.replicate 124 none
  statics := none }

def pool1 : Array CpInfo := pool [(2, .class_ 4), (1, u "java/lang/Object"), (0, u "<init>"), (0, u "()V"), (0, .integer 2147483647), (0, .fieldref 9 10), (0, .class_ 11), (0, .nameAndType 12 13), (0, u "com/example/patterns_to_keys/patternstokeys/AccessPattern$Precondition"), (0, u "NONE"), (0, u "Lcom/example/patterns_to_keys/patternstokeys/AccessPattern$Precondition;"), (0, .fieldref 9 15), (0, .nameAndType 16 13), (0, u "IF_ABSENT"), (0, .fieldref 9 18), (0, .nameAndType 19 13), (0, u "IF_PRESENT"), (0, .class_ 21), (0, u "com/example/patterns_to_keys/patternstokeys/AccessPattern$Action"), (0, .methodref 20 23), (0, .nameAndType 5 24), (0, u "(ZLcom/example/patterns_to_keys/patternstokeys/Entity;Ljava/util/Map;Lcom/example/patterns_to_keys/patternstokeys/AccessPattern$Precondition;)V"), (0, .methodref 20 26), (0, .nameAndType 27 28), (0, u "refusesRepeat"), (0, u "()Z"), (0, .class_ 30), (0, u "com/example/patterns_to_keys/patternstokeys/ActionRefusesRepeatPinLaw"), (2, u "law"), (0, u "(II)Z")] 8

def k1m0 : Method := { name := "<init>", desc := "()V", sig := { parameters := [], returnType := none }, accessFlags := 2, code := none }
def k1c1 : Code := { maxStack := 6, maxLocals := 7, code := code, exceptionTable := #[], attributes := #[] }
def k1m1 : Method := { name := "law", desc := "(II)Z", sig := { parameters := [.int, .int], returnType := some .boolean }, accessFlags := 9, code := some k1c1 }
/-- com/example/patterns_to_keys/patternstokeys/ActionRefusesRepeatPinLaw -/
def k1 : Class := { plain "com/example/patterns_to_keys/patternstokeys/ActionRefusesRepeatPinLaw" (some 0) with
  accessFlags := 49
  interfaces := #[]
  cf := some (fileOf pool1 29 #[] #[{ accessFlags := 2, nameIndex := 5, descriptorIndex := 6, attributes := #[] }, { accessFlags := 9, nameIndex := 33, descriptorIndex := 34, attributes := #[] }] 49 2 #[] #[])
  fields := #[]
  methods := #[k1m0, k1m1]
  instanceTypes := #[]
  staticTypes := #[]
  resolved := Array.replicate 43 none
  statics := none }

def pool2 : Array CpInfo := pool [(1, .class_ 2), (0, u "java/lang/constant/Constable"), (0, .class_ 4), (0, u "java/lang/Object")] 6

/-- java/lang/constant/Constable -/
def k2 : Class := { plain "java/lang/constant/Constable" (some 0) with
  accessFlags := 1537
  interfaces := #[]
  cf := some (fileOf pool2 1 #[] #[] 1537 3 #[] #[])
  fields := #[]
  methods := #[]
  instanceTypes := #[]
  staticTypes := #[]
  resolved := Array.replicate 11 none
  statics := none }

def pool3 : Array CpInfo := pool [(1, .class_ 2), (0, u "java/lang/Comparable"), (0, .class_ 4), (0, u "java/lang/Object")] 7

/-- java/lang/Comparable -/
def k3 : Class := { plain "java/lang/Comparable" (some 0) with
  accessFlags := 1537
  interfaces := #[]
  cf := some (fileOf pool3 1 #[] #[] 1537 3 #[] #[])
  fields := #[]
  methods := #[]
  instanceTypes := #[]
  staticTypes := #[]
  resolved := Array.replicate 12 none
  statics := none }

def pool4 : Array CpInfo := pool [(1, .class_ 2), (0, u "java/io/Serializable"), (0, .class_ 4), (0, u "java/lang/Object")] 2

/-- java/io/Serializable -/
def k4 : Class := { plain "java/io/Serializable" (some 0) with
  accessFlags := 1537
  interfaces := #[]
  cf := some (fileOf pool4 1 #[] #[] 1537 3 #[] #[])
  fields := #[]
  methods := #[]
  instanceTypes := #[]
  staticTypes := #[]
  resolved := Array.replicate 7 none
  statics := none }

def pool5 : Array CpInfo := pool [(2, .class_ 4), (1, u "java/lang/Enum"), (0, u "name"), (0, u "Ljava/lang/String;"), (2, u "ordinal"), (0, u "I"), (1, .class_ 14), (1, u "java/lang/Object"), (4, u "hash"), (86, .class_ 108), (1, u "java/lang/Enum$EnumDesc"), (2, .class_ 112), (0, u "java/lang/constant/Constable"), (0, .class_ 114), (0, u "java/lang/Comparable"), (0, .class_ 116), (0, u "java/io/Serializable")] 87

/-- java/lang/Enum -/
def k5 : Class := { plain "java/lang/Enum" (some 0) with
  accessFlags := 1057
  interfaces := #[2, 3, 4]
  cf := some (fileOf pool5 2 #[.nestMembers #[106]] #[] 1057 12 #[111, 113, 115] #[{ accessFlags := 18, nameIndex := 5, descriptorIndex := 6, attributes := #[] }, { accessFlags := 18, nameIndex := 9, descriptorIndex := 10, attributes := #[] }, { accessFlags := 2, nameIndex := 19, descriptorIndex := 10, attributes := #[] }])
  fields := #[{ name := "name", type := (.object "java/lang/String"), accessFlags := 18, slot := 0, constantValue := 0 }, { name := "ordinal", type := .int, accessFlags := 18, slot := 1, constantValue := 0 }, { name := "hash", type := .int, accessFlags := 2, slot := 2, constantValue := 0 }]
  methods := #[]
  instanceTypes := #[(.object "java/lang/String"), .int, .int]
  staticTypes := #[]
  resolved := Array.replicate 204 none
  statics := none }

def pool6 : Array CpInfo := pool [(1, .class_ 2), (0, u "com/example/patterns_to_keys/patternstokeys/AccessPattern$Precondition"), (2, u "NONE"), (0, u "Lcom/example/patterns_to_keys/patternstokeys/AccessPattern$Precondition;"), (2, u "IF_ABSENT"), (2, u "IF_PRESENT"), (2, u "$VALUES"), (0, u "[Lcom/example/patterns_to_keys/patternstokeys/AccessPattern$Precondition;"), (6, .class_ 25), (1, u "java/lang/Enum"), (8, u "function"), (0, u "Ljava/lang/String;"), (49, .class_ 86), (0, u "com/example/patterns_to_keys/patternstokeys/AccessPattern")] 30

/-- com/example/patterns_to_keys/patternstokeys/AccessPattern$Precondition -/
def k6 : Class := { plain "com/example/patterns_to_keys/patternstokeys/AccessPattern$Precondition" (some 5) with
  accessFlags := 16433
  interfaces := #[]
  cf := some (fileOf pool6 1 #[.nestHost 85] #[] 16433 23 #[] #[{ accessFlags := 16409, nameIndex := 5, descriptorIndex := 6, attributes := #[] }, { accessFlags := 16409, nameIndex := 9, descriptorIndex := 6, attributes := #[] }, { accessFlags := 16409, nameIndex := 12, descriptorIndex := 6, attributes := #[] }, { accessFlags := 18, nameIndex := 34, descriptorIndex := 35, attributes := #[] }, { accessFlags := 4122, nameIndex := 15, descriptorIndex := 16, attributes := #[] }])
  fields := #[{ name := "NONE", type := (.object "com/example/patterns_to_keys/patternstokeys/AccessPattern$Precondition"), accessFlags := 16409, slot := 0, constantValue := 0 }, { name := "IF_ABSENT", type := (.object "com/example/patterns_to_keys/patternstokeys/AccessPattern$Precondition"), accessFlags := 16409, slot := 1, constantValue := 0 }, { name := "IF_PRESENT", type := (.object "com/example/patterns_to_keys/patternstokeys/AccessPattern$Precondition"), accessFlags := 16409, slot := 2, constantValue := 0 }, { name := "function", type := (.object "java/lang/String"), accessFlags := 18, slot := 3, constantValue := 0 }, { name := "$VALUES", type := (.array (.object "com/example/patterns_to_keys/patternstokeys/AccessPattern$Precondition")), accessFlags := 4122, slot := 3, constantValue := 0 }]
  methods := #[]
  instanceTypes := #[(.object "java/lang/String"), .int, .int, (.object "java/lang/String")]
  staticTypes := #[(.object "com/example/patterns_to_keys/patternstokeys/AccessPattern$Precondition"), (.object "com/example/patterns_to_keys/patternstokeys/AccessPattern$Precondition"), (.object "com/example/patterns_to_keys/patternstokeys/AccessPattern$Precondition"), (.array (.object "com/example/patterns_to_keys/patternstokeys/AccessPattern$Precondition"))]
  resolved := Array.replicate 117 none
  statics := some 0 }

def pool7 : Array CpInfo := pool [(1, .methodref 2 3), (0, .class_ 4), (0, .nameAndType 5 6), (0, u "java/lang/Object"), (0, u "<init>"), (0, u "()V"), (0, .class_ 8), (0, u "java/lang/Record")] 13

def k7c0 : Code := { maxStack := 1, maxLocals := 1, code := jdk_30_method_1_code, exceptionTable := #[], attributes := #[] }
def k7m0 : Method := { name := "<init>", desc := "()V", sig := { parameters := [], returnType := none }, accessFlags := 4, code := some k7c0 }
/-- java/lang/Record -/
def k7 : Class := { plain "java/lang/Record" (some 0) with
  accessFlags := 1057
  interfaces := #[]
  cf := some (fileOf pool7 7 #[] #[{ accessFlags := 4, nameIndex := 5, descriptorIndex := 6, attributes := #[] }] 1057 2 #[] #[])
  fields := #[]
  methods := #[k7m0]
  instanceTypes := #[]
  staticTypes := #[]
  resolved := Array.replicate 22 none
  statics := none }

def pool8 : Array CpInfo := pool [(1, .methodref 2 3), (0, .class_ 4), (0, .nameAndType 5 6), (0, u "java/lang/Record"), (0, u "<init>"), (0, u "()V"), (0, .fieldref 8 9), (0, .class_ 10), (0, .nameAndType 11 12), (0, u "com/example/patterns_to_keys/patternstokeys/AccessPattern$Action"), (0, u "delete"), (0, u "Z"), (0, .fieldref 8 14), (0, .nameAndType 15 16), (0, u "entity"), (0, u "Lcom/example/patterns_to_keys/patternstokeys/Entity;"), (0, .fieldref 8 18), (0, .nameAndType 19 20), (0, u "values"), (0, u "Ljava/util/Map;"), (0, .fieldref 8 22), (0, .nameAndType 23 24), (0, u "precondition"), (0, u "Lcom/example/patterns_to_keys/patternstokeys/AccessPattern$Precondition;"), (0, .fieldref 26 27), (0, .class_ 28), (0, .nameAndType 29 24), (0, u "com/example/patterns_to_keys/patternstokeys/AccessPattern$Precondition"), (0, u "IF_ABSENT"), (0, .fieldref 26 31), (0, .nameAndType 32 24), (0, u "IF_PRESENT"), (14, u "(ZLcom/example/patterns_to_keys/patternstokeys/Entity;Ljava/util/Map;Lcom/example/patterns_to_keys/patternstokeys/AccessPattern$Precondition;)V"), (4, u "refusesRepeat"), (0, u "()Z"), (11, .class_ 66), (0, u "com/example/patterns_to_keys/patternstokeys/AccessPattern")] 23

def k8c0 : Code := { maxStack := 2, maxLocals := 5, code := prog_2_method_1_code, exceptionTable := #[], attributes := #[] }
def k8m0 : Method := { name := "<init>", desc := "(ZLcom/example/patterns_to_keys/patternstokeys/Entity;Ljava/util/Map;Lcom/example/patterns_to_keys/patternstokeys/AccessPattern$Precondition;)V", sig := { parameters := [.boolean, (.object "com/example/patterns_to_keys/patternstokeys/Entity"), (.object "java/util/Map"), (.object "com/example/patterns_to_keys/patternstokeys/AccessPattern$Precondition")], returnType := none }, accessFlags := 1, code := some k8c0 }
def k8c1 : Code := { maxStack := 2, maxLocals := 1, code := prog_2_method_2_code, exceptionTable := #[], attributes := #[] }
def k8m1 : Method := { name := "refusesRepeat", desc := "()Z", sig := { parameters := [], returnType := some .boolean }, accessFlags := 1, code := some k8c1 }
/-- com/example/patterns_to_keys/patternstokeys/AccessPattern$Action -/
def k8 : Class := { plain "com/example/patterns_to_keys/patternstokeys/AccessPattern$Action" (some 7) with
  accessFlags := 49
  interfaces := #[]
  cf := some (fileOf pool8 8 #[.nestHost 65] #[{ accessFlags := 1, nameIndex := 5, descriptorIndex := 47, attributes := #[] }, { accessFlags := 1, nameIndex := 52, descriptorIndex := 53, attributes := #[] }] 49 2 #[] #[{ accessFlags := 18, nameIndex := 11, descriptorIndex := 12, attributes := #[] }, { accessFlags := 18, nameIndex := 15, descriptorIndex := 16, attributes := #[] }, { accessFlags := 18, nameIndex := 19, descriptorIndex := 20, attributes := #[] }, { accessFlags := 18, nameIndex := 23, descriptorIndex := 24, attributes := #[] }])
  fields := #[{ name := "delete", type := .boolean, accessFlags := 18, slot := 0, constantValue := 0 }, { name := "entity", type := (.object "com/example/patterns_to_keys/patternstokeys/Entity"), accessFlags := 18, slot := 1, constantValue := 0 }, { name := "values", type := (.object "java/util/Map"), accessFlags := 18, slot := 2, constantValue := 0 }, { name := "precondition", type := (.object "com/example/patterns_to_keys/patternstokeys/AccessPattern$Precondition"), accessFlags := 18, slot := 3, constantValue := 0 }]
  methods := #[k8m0, k8m1]
  instanceTypes := #[.boolean, (.object "com/example/patterns_to_keys/patternstokeys/Entity"), (.object "java/util/Map"), (.object "com/example/patterns_to_keys/patternstokeys/AccessPattern$Precondition")]
  staticTypes := #[]
  resolved := Array.replicate 90 none
  statics := none }

def pool9 : Array CpInfo := pool [(1, u "java/lang/Cloneable"), (0, .class_ 1), (0, u "java/lang/Object"), (0, .class_ 3)] 3

/-- java/lang/Cloneable -/
def k9 : Class := { plain "java/lang/Cloneable" (some 0) with
  accessFlags := 1537
  interfaces := #[]
  cf := some (fileOf pool9 2 #[] #[] 1537 4 #[] #[])
  fields := #[]
  methods := #[]
  instanceTypes := #[]
  staticTypes := #[]
  resolved := Array.replicate 8 none
  statics := none }

/-- the primitive byte -/
def k10 : Class := { plain "byte" none with kind := .primitive 'B', accessFlags := 0x411 }
/-- [B -/
def k11 : Class := { plain "[B" (some 0) with kind := .array 10 .byte, interfaces := #[9, 4], accessFlags := 1041 }

/-- the primitive int -/
def k12 : Class := { plain "int" none with kind := .primitive 'I', accessFlags := 0x411 }
/-- [I -/
def k13 : Class := { plain "[I" (some 0) with kind := .array 12 .int, interfaces := #[9, 4], accessFlags := 1041 }

def heap : Heap := #[{ cls := 6, slots := #[.ref 1, .ref 2, .ref 3, .null], vm := .statics 6 },
  { cls := 6, slots := #[.null, .int 0, .int 0, .null], vm := .none },
  { cls := 6, slots := #[.null, .int 1, .int 0, .null], vm := .none },
  { cls := 6, slots := #[.null, .int 2, .int 0, .null], vm := .none }]
def classes : Array Class := #[k0, k1, k2, k3, k4, k5, k6, k7, k8, k9, k10, k11, k12, k13]
def interned : List (Array UInt16 × Addr) := []
def slotsUsed : Nat := 16
def theMethod : MethodId := ⟨1, 1⟩
def args0 : Array Value := #[.int 5, .int 1]
def aboutOver (below : List Frame) : State where
  vm := { classes := classes, interned := interned.toArray }
  heap := heap
  slotsUsed := slotsUsed
  threads := #[{ frames := .invoking theMethod args0 :: below }]
def below0 : List Frame := [.native { method := ⟨0, 0⟩, args := #[] }]
def about1 : State := aboutOver below0
def p0 : Program := .bare "" "" ""
def e0 : Env := launch0.env 0 0 0
theorem w_frames : about1.frames = Frame.invoking theMethod args0 :: below0 := rfl
set_option maxRecDepth 65536 in
theorem w_args : argsFit about1.vm theMethod args0 = true := by decide +kernel
set_option maxRecDepth 65536 in
theorem w_heap : heapFits about1 = true := by decide +kernel
set_option maxRecDepth 65536 in
theorem w_runnable : about1.curStatus? = some .runnable := by decide +kernel
set_option maxRecDepth 65536 in
theorem w_alone : about1.alone = true := by decide +kernel
set_option maxRecDepth 65536 in
theorem w_named : about1.methodNamed? x = some theMethod := by decide +kernel
set_option maxRecDepth 65536 in
theorem w_hears : about1.hears theMethod below0 = true := by decide +kernel
set_option maxRecDepth 65536 in
theorem w_ripe : about1.ripe theMethod args0 below0 = true := by decide +kernel
theorem w_running : about1.status = .running := rfl
set_option maxRecDepth 65536 in
theorem w_room : about1.hasRoom e0.platform room_1 = true :=
  launch0.hasRoom_least _ room_1 (by decide +kernel) (by decide +kernel) (by decide +kernel) (by decide +kernel) (by decide +kernel) (by decide +kernel)
theorem allAtoms_all (ts : List Jvm.Cond) (a : Array Jvm.Value) (st : Jvm.State) : (allAtoms ts).before a st = ts.all (fun c => c.before a st) := by
  induction ts with
  | nil => rfl
  | cons c t ih =>
    show (Jvm.Cond.and c (allAtoms t)).before a st = _
    rw [Jvm.Cond.before_and, ih, List.all_cons]
def words1 : List Jvm.Cond := Jvm.Cond.code x code maxLocals ret :: tables_1
/-- a 'code' word, met by the world's own term for the bytes: nothing is compared byte by byte -/
theorem code_word {y : MethodName} {bytes : ByteArray} {mx : Nat} {rt : Option FieldType} {a : Array Value} {s : State} {m : MethodId} {meth : Method} {c : Code} (h1 : s.methodNamed? y = some m) (h2 : s.vm.method? m = some meth) (h3 : meth.code = some c) (h4 : c.code = bytes)
    (h5 : (c.maxLocals == mx && c.exceptionTable.isEmpty && decide (c.maxStack ≤ mostOperands) && decide (meth.sig.returnType = rt) && !meth.locks && decide (parseMethodDescriptor y.desc = some meth.sig)) = true) : (Jvm.Cond.code y bytes mx rt).before a s = true := by
  simp only [Bool.and_eq_true, beq_iff_eq, Bool.not_eq_true', decide_eq_true_eq] at h5
  obtain ⟨⟨⟨⟨⟨g1, g2⟩, g3⟩, g4⟩, g5⟩, g6⟩ := h5
  simp [Cond.before, Cond.holds, Cond.value, h1, h2, h3, h4, g1, g2, g3, g4, g5, g6]
def isCode : Jvm.Cond → Bool
  | .code _ _ _ _ => true
  | _ => false
theorem all_split {L : List Jvm.Cond} {P : Jvm.Cond → Bool} (h1 : L.all (fun c => isCode c || P c) = true) (h2 : ∀ c ∈ L.filter isCode, P c = true) : L.all P = true := by
  refine List.all_eq_true.mpr fun c hc => ?_
  have h := List.all_eq_true.mp h1 c hc
  rcases Bool.eq_false_or_eq_true (isCode c) with hi | hi
  · exact h2 c (List.mem_filter.mpr ⟨hc, hi⟩)
  · simpa [hi] using h
set_option maxRecDepth 65536 in
theorem w_c0 : (Jvm.Cond.code x code maxLocals ret).before args0 about1 = true := code_word (m := ⟨1, 1⟩) (meth := k1m1) (c := k1c1) (by decide +kernel) rfl rfl rfl (by decide +kernel)
set_option maxRecDepth 65536 in
theorem w_c1 : (Jvm.Cond.code ({ cls := "com/example/patterns_to_keys/patternstokeys/AccessPattern$Action", name := "<init>", desc := "(ZLcom/example/patterns_to_keys/patternstokeys/Entity;Ljava/util/Map;Lcom/example/patterns_to_keys/patternstokeys/AccessPattern$Precondition;)V" } : Jvm.MethodName) prog_2_method_1_code (5 : Nat) (Option.none : Option Jvm.ClassFile.FieldType)).before args0 about1 = true := code_word (m := ⟨8, 0⟩) (meth := k8m0) (c := k8c0) (by decide +kernel) rfl rfl rfl (by decide +kernel)
set_option maxRecDepth 65536 in
theorem w_c2 : (Jvm.Cond.code ({ cls := "java/lang/Record", name := "<init>", desc := "()V" } : Jvm.MethodName) jdk_30_method_1_code (1 : Nat) (Option.none : Option Jvm.ClassFile.FieldType)).before args0 about1 = true := code_word (m := ⟨7, 0⟩) (meth := k7m0) (c := k7c0) (by decide +kernel) rfl rfl rfl (by decide +kernel)
set_option maxRecDepth 65536 in
theorem w_c3 : (Jvm.Cond.code ({ cls := "java/lang/Object", name := "<init>", desc := "()V" } : Jvm.MethodName) object_method_1_code (1 : Nat) (Option.none : Option Jvm.ClassFile.FieldType)).before args0 about1 = true := code_word (m := ⟨0, 0⟩) (meth := k0m0) (c := k0c0) (by decide +kernel) rfl rfl rfl (by decide +kernel)
set_option maxRecDepth 65536 in
theorem w_c4 : (Jvm.Cond.code ({ cls := "com/example/patterns_to_keys/patternstokeys/AccessPattern$Action", name := "refusesRepeat", desc := "()Z" } : Jvm.MethodName) prog_2_method_2_code (1 : Nat) (Option.some Jvm.ClassFile.FieldType.boolean)).before args0 about1 = true := code_word (m := ⟨8, 1⟩) (meth := k8m1) (c := k8c1) (by decide +kernel) rfl rfl rfl (by decide +kernel)
def codes1 : List Jvm.Cond := [Jvm.Cond.code x code maxLocals ret, Jvm.Cond.code ({ cls := "com/example/patterns_to_keys/patternstokeys/AccessPattern$Action", name := "<init>", desc := "(ZLcom/example/patterns_to_keys/patternstokeys/Entity;Ljava/util/Map;Lcom/example/patterns_to_keys/patternstokeys/AccessPattern$Precondition;)V" } : Jvm.MethodName) prog_2_method_1_code (5 : Nat) (Option.none : Option Jvm.ClassFile.FieldType), Jvm.Cond.code ({ cls := "java/lang/Record", name := "<init>", desc := "()V" } : Jvm.MethodName) jdk_30_method_1_code (1 : Nat) (Option.none : Option Jvm.ClassFile.FieldType), Jvm.Cond.code ({ cls := "java/lang/Object", name := "<init>", desc := "()V" } : Jvm.MethodName) object_method_1_code (1 : Nat) (Option.none : Option Jvm.ClassFile.FieldType), Jvm.Cond.code ({ cls := "com/example/patterns_to_keys/patternstokeys/AccessPattern$Action", name := "refusesRepeat", desc := "()Z" } : Jvm.MethodName) prog_2_method_2_code (1 : Nat) (Option.some Jvm.ClassFile.FieldType.boolean)]
set_option maxRecDepth 65536 in
theorem codes_eq : words1.filter isCode = codes1 := rfl
theorem w_codes : ∀ c ∈ words1.filter isCode, c.before args0 about1 = true := by
  rw [codes_eq]
  intro c hc
  simp only [codes1, List.mem_cons, List.not_mem_nil, or_false] at hc
  rcases hc with rfl | rfl | rfl | rfl | rfl
  · exact w_c0
  · exact w_c1
  · exact w_c2
  · exact w_c3
  · exact w_c4
set_option maxRecDepth 65536 in
theorem w_t1 : (words1.take 24).all (fun c => isCode c || c.before args0 about1) = true := by decide +kernel
set_option maxRecDepth 65536 in
theorem w_t2 : (words1.drop 24).all (fun c => isCode c || c.before args0 about1) = true := by decide +kernel
theorem w_tables : (allAtoms (Jvm.Cond.code x code maxLocals ret :: tables_1)).before args0 about1 = true := by
  rw [allAtoms_all]
  show words1.all (fun c => c.before args0 about1) = true
  refine all_split ?_ w_codes
  rw [← List.take_append_drop 24 words1, List.all_append, w_t1, w_t2]
  rfl
set_option maxRecDepth 65536 in
theorem w_case : (Jvm.Cond.and given_1 narrow_1).before args0 about1 = true := by decide +kernel
theorem w_applies : (headSpec (Jvm.Cond.code x code maxLocals ret :: tables_1) room_1).applies x e0.platform about1 = true :=
  (Spec.applies_iff w_frames).mpr ⟨w_running, w_runnable, w_alone, w_named, w_hears, w_ripe, w_room, w_tables⟩
theorem atStart : AtStart classFile x code maxLocals ret World_1 tables_1 room_1 Calls_1 rest_1 Pre_1 launch0 p0 e0 about1 theMethod args0 below0 :=
  ⟨lists_1, trivial, launch0.admits_env _ _ _, launch0.least_env, fairChoices_fair.cas, fairChoices_fair.clock, w_frames, w_args, w_heap, w_applies, trivial, trivial, w_case⟩
end start1
theorem witness_1 : WitnessClaimed_1 := ⟨start1.p0, start1.e0, start1.about1, start1.theMethod, start1.args0, start1.below0, start1.atStart⟩
end Jvm.Pilot.@@N@@
