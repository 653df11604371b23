import JvmDerived
import JvmDerived.Pilot.@@N@@Statement
import JvmDerived.Pilot.@@N@@Code
set_option linter.unusedVariables false
set_option linter.unusedSimpArgs false
namespace Jvm.Pilot.@@N@@
open Jvm Jvm.ClassFile Sem Op Lib Jvm.Free Jvm.Stand Jvm.LawKit Jvm.RoadKit Bundle Jvm.Pilot.@@N@@.Jvm.D

section OwnEnds
variable {p : Program} {l : Launch} {e : Env} {R : Room} {s : State} {m : MethodId} {args : Array Value} {below : List Frame} {meth : Method} {c : Code} {T : State} {locs : List Loc} {cells slots : Nat}
/-- from here the body comes to its end, returns, and leaves what Q says -/
def Ends (p : Program) (e : Env) (below : List Frame) (s T : State) (g : JFrame) (kc ks : Nat) (Q : Option Value → Heap → List Loc → Prop) : Prop :=
  ∃ s₂ o, Steps p.tables e below (T.setTop g) s₂ ∧ s₂.status = .running ∧ Ended s₂ below o ∧ ∃ v L, o = .returned v ∧ Q v s₂.heap L ∧ FrameEnd s o s₂ L kc ks
theorem Ends.go {T' : State} {g g' : JFrame} {kc ks : Nat} {Q : Option Value → Heap → List Loc → Prop} (h : ∀ target, Steps p.tables e below (T'.setTop g') target → Steps p.tables e below (T.setTop g) target) (k : Ends p e below s T' g' kc ks Q) : Ends p e below s T g kc ks Q := by
  obtain ⟨s₂, o, h1, h2⟩ := k
  exact ⟨s₂, o, h _ h1, h2⟩
theorem Ends.ret (X : Stand p l e R s m args below meth c T locs cells slots) (hx : p.tables.exec = Jvm.exec) (hlocks : meth.locks = false) {pc : Nat} {Ls : Array Slot} {w : Value} {t : FieldType} {i : Instr} {rest : List Value} (hret : meth.sig.returnType = some t) (hn : narrow t w = w)
    (hi : (i = .ireturn ∧ (t = .int ∨ t = .boolean ∨ t = .byte ∨ t = .char ∨ t = .short) ∧ ∃ z, w = .int z) ∨ (i = .lreturn ∧ t = .long ∧ ∃ z, w = .long z) ∨ (i = .dreturn ∧ t = .double ∧ ∃ z, w = .double z) ∨ (i = .freturn ∧ t = .float ∧ ∃ z, w = .float z) ∨ (i = .areturn ∧ t.isReference = true ∧ w.isRef = true))
    (hd : decode c.code pc = .ok (i, 1)) {kc ks : Nat} {Q : Option Value → Heap → List Loc → Prop} (hc : cells ≤ kc) (hs : slots ≤ ks) (hq : Q (some w) T.heap locs) : Ends p e below s T (mkF m pc Ls (w :: rest)) kc ks Q := by
  obtain ⟨fs, hr, hrun, hended, hW, hsame⟩ := X.leave (v := some w) (fun h => by rw [hret] at h; cases h) hlocks
  exact ⟨_, _, retOut X hx hret hn hi hd hr, hrun, hended, _, _, rfl, hq, ⟨_, rfl⟩, hW, hsame.mono hc hs⟩
theorem Ends.retZ (X : Stand p l e R s m args below meth c T locs cells slots) (hx : p.tables.exec = Jvm.exec) (hlocks : meth.locks = false) {pc : Nat} {Ls : Array Slot} {z : Int32} {t : FieldType} {rest : List Value} (hret : meth.sig.returnType = some t) (ht : t = .boolean ∨ t = .byte ∨ t = .char ∨ t = .short)
    (hd : decode c.code pc = .ok (.ireturn, 1)) {kc ks : Nat} {Q : Option Value → Heap → List Loc → Prop} (hc : cells ≤ kc) (hs : slots ≤ ks) (hq : Q (some (.int (nar t z))) T.heap locs) : Ends p e below s T (mkF m pc Ls (.int z :: rest)) kc ks Q := by
  obtain ⟨fs, hr, hrun, hended, hW, hsame⟩ := X.leave (v := some (.int (nar t z))) (fun h => by rw [hret] at h; cases h) hlocks
  exact ⟨_, _, retN X hx hret ht hd hr, hrun, hended, _, _, rfl, hq, ⟨_, rfl⟩, hW, hsame.mono hc hs⟩
theorem Ends.retV (X : Stand p l e R s m args below meth c T locs cells slots) (hx : p.tables.exec = Jvm.exec) (hlocks : meth.locks = false) {pc : Nat} {Ls : Array Slot} (hret : meth.sig.returnType = none)
    (hd : decode c.code pc = .ok (.return_, 1)) {kc ks : Nat} {Q : Option Value → Heap → List Loc → Prop} (hc : cells ≤ kc) (hs : slots ≤ ks) (hq : Q none T.heap locs) : Ends p e below s T (mkF m pc Ls []) kc ks Q := by
  obtain ⟨fs, hr, hrun, hended, hW, hsame⟩ := X.leave (v := none) (fun _ => rfl) hlocks
  exact ⟨_, _, X.returnOut hx hret hd hr, hrun, hended, _, _, rfl, hq, ⟨_, rfl⟩, hW, hsame.mono hc hs⟩
end OwnEnds
abbrev Meets1 (l : Launch) (y : MethodName) (bytes : ByteArray) (ml : Nat) (rt : Option FieldType) (ws : List Jvm.Cond) (rm : Room) (av : Array Value) (Z : State) (h0 : Heap) (Q : Option Value → Heap → List Loc → Prop) : Prop :=
  MetFree l y (head1 (Jvm.Cond.code y bytes ml rt :: ws) rm) (fun a U => a = av ∧ Z.Warmed39 U.vm ∧ U.heap = h0) (fun _ _ _ _ _ => True) (fun _ U o U' => ∃ v L, o = .returned v ∧ Q v U'.heap L ∧ FrameEnd U o U' L rm.cells rm.slots)
theorem own_backOf {p : Program} {l : Launch} {e : Env} {R : Room} {s : State} {args : Array Value} {below : List Frame} {Z : State} {a0 : Array Value} {h : Heap} {y : MethodName} {bytes : ByteArray} {maxL : Nat} {ret : Option FieldType} {rm : Room} {len W : Nat} {as' : Array Value} {Q : Option Value → Heap → List Loc → Prop}
    (hM : Meets1 l y bytes maxL ret [] rm as' Z h Q) (hZ : Z.Warmed39 s.vm) (wc : (Jvm.Cond.code y bytes maxL ret).before a0 Z = true) (wz : (Jvm.Cond.initialized y.cls).before a0 Z = true) (hf : rm.frames + 1 ≤ R.frames) (hl : W + (maxL + 11) + rm.locals ≤ R.locals) :
    Back l R p e below s args y len W (fun A a => a = as' ∧ A.U.heap = h ∧ A.cells + rm.cells ≤ R.cells ∧ A.slots + rm.slots ≤ R.slots)
      (fun A _ v B => ∃ L, Q v B.U.heap L ∧ B.locs = A.locs ++ L ∧ B.cells = A.cells + rm.cells ∧ B.slots = A.slots + rm.slots) := backOf (Q := Q) hM hZ wc wz hf hl
theorem own_old_le {Z : State} {n0 : Nat} {h : Heap} (O : Old Z n0 h) : n0 ≤ h.size := O.1 ▸ O.2.1
theorem own_eqI {args : Array Value} {s : State} {t : Term} {k : Int32} (h : (Jvm.Cond.eq t (.int k)).value args s none s [] = some true) : t.eval args s none [] s = some (.int k) := by
  cases ht : t.eval args s none [] s with
  | none => simp [Cond.value, ht] at h
  | some x => cases x <;> simp_all [Cond.value, Term.eval]
theorem own_mod (p0 i : Int32) (h : ((p0 &&& (2147483647 : Int32)) % (3 : Int32)) = i) : i = 0 ∨ i = 1 ∨ i = 2 := by
  have h1 := c_and p0 2147483647 (by decide)
  have h2 := (c_irem (p0 &&& 2147483647) 3 3 (by decide)).1 h1.1
  rw [h] at h2
  have h3 : i.toInt = 0 ∨ i.toInt = 1 ∨ i.toInt = 2 := by omega
  rcases h3 with q | q | q
  · exact Or.inl (Int32.toInt_inj.mp q)
  · exact Or.inr (Or.inl (Int32.toInt_inj.mp q))
  · exact Or.inr (Or.inr (Int32.toInt_inj.mp q))
def Facts (Z : State) (w_SUCCEEDED : Addr) (w_DEAD_LETTER : Addr) (w_FAILED : Addr) (w_EMPTY : Addr) : Prop :=
  Sta Z Z.heap "com/example/keryx/keryx/core/DeliveryStatus" "SUCCEEDED" "Lcom/example/keryx/keryx/core/DeliveryStatus;" (.ref w_SUCCEEDED) ∧
  Exa Z Z.heap w_SUCCEEDED "com/example/keryx/keryx/core/DeliveryStatus" ∧
  Fld Z Z.heap w_SUCCEEDED "com/example/keryx/keryx/core/DeliveryStatus" "terminal" "Z" (.int (1 : Int32)) ∧
  Sta Z Z.heap "com/example/keryx/keryx/core/DeliveryStatus" "DEAD_LETTER" "Lcom/example/keryx/keryx/core/DeliveryStatus;" (.ref w_DEAD_LETTER) ∧
  Exa Z Z.heap w_DEAD_LETTER "com/example/keryx/keryx/core/DeliveryStatus" ∧
  Fld Z Z.heap w_DEAD_LETTER "com/example/keryx/keryx/core/DeliveryStatus" "terminal" "Z" (.int (1 : Int32)) ∧
  Sta Z Z.heap "com/example/keryx/keryx/core/DeliveryStatus" "FAILED" "Lcom/example/keryx/keryx/core/DeliveryStatus;" (.ref w_FAILED) ∧
  Exa Z Z.heap w_FAILED "com/example/keryx/keryx/core/DeliveryStatus" ∧
  Fld Z Z.heap w_FAILED "com/example/keryx/keryx/core/DeliveryStatus" "terminal" "Z" (.int (1 : Int32)) ∧
  Sta Z Z.heap "java/util/Optional" "EMPTY" "Ljava/util/Optional;" (.ref w_EMPTY) ∧
  Exa Z Z.heap w_EMPTY "java/util/Optional" ∧
  Fld Z Z.heap w_EMPTY "java/util/Optional" "value" "Ljava/lang/Object;" .null
theorem d2_0 : decode prog_5_method_5_code 0 = .ok (.aload_n 0, 1) := by decide +kernel
theorem d2_1 : decode prog_5_method_5_code 1 = .ok (.getfield 45, 3) := by decide +kernel
theorem d2_4 : decode prog_5_method_5_code 4 = .ok (.ireturn, 1) := by decide +kernel
theorem pn2 : plainName "com/example/keryx/keryx/core/DeliveryStatus" = true := by first | (simp [plainName, overriddenIn]; done) | decide +kernel
theorem ef2 (m : MethodId) (o0 : Addr) : entryFrame m #[(.ref o0)] 1 = mkF m 0 #[.val (.ref o0)] [] := by first | (simp [entryFrame, mkF, argsToLocals, Value.category]; done) | rfl
set_option maxRecDepth 65536 in
set_option maxHeartbeats 40000000 in
theorem rmT (l : Launch) (Z : State) (a0 : Array Value) (hw : ∀ d ∈ tables_1, d.before a0 Z = true) (ws : List Jvm.Cond) (n0 : Nat) (h0 : Heap) (O0 : Old Z n0 h0) (o0 : Addr) (Ft : Fld Z Z.heap o0 "com/example/keryx/keryx/core/DeliveryStatus" "terminal" "Z" (.int (1 : Int32))) :
    Meets1 l (⟨"com/example/keryx/keryx/core/DeliveryStatus", "isTerminal", "()Z"⟩ : MethodName) prog_5_method_5_code 1 (some .boolean) ws ({ frames := 0, cells := 0, slots := 0, locals := 0 } : Room) #[(.ref o0)] Z h0 (fun v h L => v = some (.int (1 : Int32)) ∧ Fr n0 L ∧ h = h0) := by
  refine MetFree.of_bodySF (plainFor_of_name pn2) hisR ?_
  intro p e s m args below meth c s₁ Bd hml0 hP hK
  obtain ⟨rfl, hZ, hh⟩ := hP
  have hx := Bd.exec
  have hby := Bd.bytes
  have hml : c.maxLocals = 1 := hml0
  have hown : s.vm.findClass "com/example/keryx/keryx/core/DeliveryStatus" = some m.cls := findClass_of_methodNamed Bd.named
  have hnm := (name_of_methodNamed Bd.named Bd.method).1
  have X0 : Stand p l e ({ frames := 0, cells := 0, slots := 0, locals := 0 } : Room) s m #[(.ref o0)] below meth c s₁ [] 0 0 := Stand.of_body Bd
  have e0 : s₁.heap = h0 := by rw [← hh, Bd.state]; rfl
  have N0 := Fr.nil n0
  have Z0 := own_old_le O0
  show Ends p e below s s₁ (entryFrame m #[(.ref o0)] 1) ({ frames := 0, cells := 0, slots := 0, locals := 0 } : Room).cells ({ frames := 0, cells := 0, slots := 0, locals := 0 } : Room).slots (fun v h L => v = some (.int (1 : Int32)) ∧ Fr n0 L ∧ h = h0)
  refine Ends.go (fun _ k => castTop (ef2 m o0) k) ?_
  have K0 := Keep.refl h0 []
  show Ends p e below s s₁ (mkF m 0 #[.val (.ref o0)] []) _ _ _
  refine Ends.go (fun _ k => XS.aloadN X0.here hx rfl (hb hby d2_0) rfl rfl k) ?_
  show Ends p e below s s₁ (mkF m 1 #[.val (.ref o0)] [(.ref o0)]) _ _ _
  obtain ⟨T1, X1, e1, st1⟩ := getF X0 hx hZ hown (host := "") (Or.inl (hw _ (List.mem_of_getElem? (i := 13) rfl))) Via.refl e0 (Ft.ext O0.2) (g := (mkF m 1 #[.val (.ref o0)] [(.ref o0)])) rfl rfl (hb hby d2_1)
  refine Ends.go st1 ?_
  show Ends p e below s T1 (mkF m 4 #[.val (.ref o0)] [(.int (1 : Int32))]) _ _ _
  refine Ends.retZ X1 hx Bd.notSynchronized (t := .boolean) Bd.returns (by simp) (hb hby d2_4) (by decide) (by decide) ?_
  exact ⟨rfl, N0, e1⟩
theorem d3_0 : decode prog_6_method_1_code 0 = .ok (.aload_n 0, 1) := by decide +kernel
theorem d3_1 : decode prog_6_method_1_code 1 = .ok (.invokespecial 1, 3) := by decide +kernel
theorem d3_4 : decode prog_6_method_1_code 4 = .ok (.aload_n 0, 1) := by decide +kernel
theorem d3_5 : decode prog_6_method_1_code 5 = .ok (.aload_n 1, 1) := by decide +kernel
theorem d3_6 : decode prog_6_method_1_code 6 = .ok (.putfield 7, 3) := by decide +kernel
theorem d3_9 : decode prog_6_method_1_code 9 = .ok (.aload_n 0, 1) := by decide +kernel
theorem d3_10 : decode prog_6_method_1_code 10 = .ok (.aload_n 2, 1) := by decide +kernel
theorem d3_11 : decode prog_6_method_1_code 11 = .ok (.putfield 13, 3) := by decide +kernel
theorem d3_14 : decode prog_6_method_1_code 14 = .ok (.return_, 1) := by decide +kernel
theorem pn3 : plainName "com/example/keryx/keryx/core/DeliveryUpdate" = true := by first | (simp [plainName, overriddenIn]; done) | decide +kernel
theorem ef3 (m : MethodId) (o0 : Addr) (o1 : Addr) : entryFrame m #[(.ref o0), (.ref o1), .null] 3 = mkF m 0 #[.val (.ref o0), .val (.ref o1), .val .null] [] := by first | (simp [entryFrame, mkF, argsToLocals, Value.category]; done) | rfl
set_option maxRecDepth 65536 in
set_option maxHeartbeats 40000000 in
theorem rmI (l : Launch) (Z : State) (a0 : Array Value) (hw : ∀ d ∈ tables_1, d.before a0 Z = true) (ws : List Jvm.Cond) (n0 : Nat) (h0 : Heap) (O0 : Old Z n0 h0) (o0 : Addr) (o1 : Addr) (g_o0 : n0 ≤ o0) (Ex0 : Exa Z h0 o0 "com/example/keryx/keryx/core/DeliveryUpdate") (F0_status : Fld Z h0 o0 "com/example/keryx/keryx/core/DeliveryUpdate" "status" "Lcom/example/keryx/keryx/core/DeliveryStatus;" .null) (F0_nextAttemptAt : Fld Z h0 o0 "com/example/keryx/keryx/core/DeliveryUpdate" "nextAttemptAt" "Ljava/time/Instant;" .null) :
    Meets1 l (⟨"com/example/keryx/keryx/core/DeliveryUpdate", "<init>", "(Lcom/example/keryx/keryx/core/DeliveryStatus;Ljava/time/Instant;)V"⟩ : MethodName) prog_6_method_1_code 3 none ws ({ frames := 1, cells := 0, slots := 0, locals := 12 } : Room) #[(.ref o0), (.ref o1), .null] Z h0 (fun v h L => v = none ∧ Fr n0 L ∧ Keep h0 h [o0] ∧ Exa Z h o0 "com/example/keryx/keryx/core/DeliveryUpdate" ∧ Fld Z h o0 "com/example/keryx/keryx/core/DeliveryUpdate" "status" "Lcom/example/keryx/keryx/core/DeliveryStatus;" (.ref o1) ∧ Fld Z h o0 "com/example/keryx/keryx/core/DeliveryUpdate" "nextAttemptAt" "Ljava/time/Instant;" .null) := by
  refine MetFree.of_bodySF (plainFor_of_name pn3) hisR ?_
  intro p e s m args below meth c s₁ Bd hml0 hP hK
  obtain ⟨rfl, hZ, hh⟩ := hP
  have hx := Bd.exec
  have hby := Bd.bytes
  have hml : c.maxLocals = 3 := hml0
  have hown : s.vm.findClass "com/example/keryx/keryx/core/DeliveryUpdate" = some m.cls := findClass_of_methodNamed Bd.named
  have hnm := (name_of_methodNamed Bd.named Bd.method).1
  have X0 : Stand p l e ({ frames := 1, cells := 0, slots := 0, locals := 12 } : Room) s m #[(.ref o0), (.ref o1), .null] below meth c s₁ [] 0 0 := Stand.of_body Bd
  have e0 : s₁.heap = h0 := by rw [← hh, Bd.state]; rfl
  have N0 := Fr.nil n0
  have Z0 := own_old_le O0
  show Ends p e below s s₁ (entryFrame m #[(.ref o0), (.ref o1), .null] 3) ({ frames := 1, cells := 0, slots := 0, locals := 12 } : Room).cells ({ frames := 1, cells := 0, slots := 0, locals := 12 } : Room).slots (fun v h L => v = none ∧ Fr n0 L ∧ Keep h0 h [o0] ∧ Exa Z h o0 "com/example/keryx/keryx/core/DeliveryUpdate" ∧ Fld Z h o0 "com/example/keryx/keryx/core/DeliveryUpdate" "status" "Lcom/example/keryx/keryx/core/DeliveryStatus;" (.ref o1) ∧ Fld Z h o0 "com/example/keryx/keryx/core/DeliveryUpdate" "nextAttemptAt" "Ljava/time/Instant;" .null)
  refine Ends.go (fun _ k => castTop (ef3 m o0 o1) k) ?_
  have K0 := Keep.refl h0 [o0]
  show Ends p e below s s₁ (mkF m 0 #[.val (.ref o0), .val (.ref o1), .val .null] []) _ _ _
  refine Ends.go (fun _ k => XS.aloadN X0.here hx rfl (hb hby d3_0) rfl rfl k) ?_
  show Ends p e below s s₁ (mkF m 1 #[.val (.ref o0), .val (.ref o1), .val .null] [(.ref o0)]) _ _ _
  obtain ⟨T1, X1, e1, st1⟩ := initO X0 hx hZ hown (hw _ (List.mem_of_getElem? (i := 20) rfl)) (hw _ (List.mem_of_getElem? (i := 21) rfl)) (hw _ (List.mem_of_getElem? (i := 22) rfl)) e0 (g := (mkF m 1 #[.val (.ref o0), .val (.ref o1), .val .null] [(.ref o0)])) rfl (by rw [hml]; rfl) rfl (hb hby d3_1) (by decide) (W := 0) (by show 2 * 0 + _ ≤ _; exact Nat.le_of_eq rfl) (by decide)
  refine Ends.go st1 ?_
  show Ends p e below s T1 (mkF m 4 #[.val (.ref o0), .val (.ref o1), .val .null] []) _ _ _
  refine Ends.go (fun _ k => XS.aloadN X1.here hx rfl (hb hby d3_4) rfl rfl k) ?_
  show Ends p e below s T1 (mkF m 5 #[.val (.ref o0), .val (.ref o1), .val .null] [(.ref o0)]) _ _ _
  refine Ends.go (fun _ k => XS.aloadN X1.here hx rfl (hb hby d3_5) rfl rfl k) ?_
  show Ends p e below s T1 (mkF m 6 #[.val (.ref o0), .val (.ref o1), .val .null] [(.ref o1), (.ref o0)]) _ _ _
  obtain ⟨T2, h2, X2, e2, W2, st2⟩ := putF X1 hx hZ hown (host := "") (Or.inl (hw _ (List.mem_of_getElem? (i := 23) rfl))) Via.refl e1 F0_status Ex0 (Or.inr ⟨(hw _ (List.mem_of_getElem? (i := 24) rfl)), rfl, hnm⟩) (hw _ (List.mem_of_getElem? (i := 16) rfl)) (ty := (.object "com/example/keryx/keryx/core/DeliveryStatus")) (by decide) rfl rfl (g := (mkF m 6 #[.val (.ref o0), .val (.ref o1), .val .null] [(.ref o1), (.ref o0)])) rfl rfl (hb hby d3_6)
  refine Ends.go st2 ?_
  have Fw2 := F0_status.same W2
  have K2 := K0.wr W2 (Or.inl (List.mem_of_getElem? (i := 0) rfl))
  have O2 := O0.wr W2 g_o0
  have N2 := Fr.snoc X2 N0 g_o0
  show Ends p e below s T2 (mkF m 9 #[.val (.ref o0), .val (.ref o1), .val .null] []) _ _ _
  refine Ends.go (fun _ k => XS.aloadN X2.here hx rfl (hb hby d3_9) rfl rfl k) ?_
  show Ends p e below s T2 (mkF m 10 #[.val (.ref o0), .val (.ref o1), .val .null] [(.ref o0)]) _ _ _
  refine Ends.go (fun _ k => XS.aloadN X2.here hx rfl (hb hby d3_10) rfl rfl k) ?_
  show Ends p e below s T2 (mkF m 11 #[.val (.ref o0), .val (.ref o1), .val .null] [.null, (.ref o0)]) _ _ _
  obtain ⟨T3, h3, X3, e3, W3, st3⟩ := putF X2 hx hZ hown (host := "") (Or.inl (hw _ (List.mem_of_getElem? (i := 25) rfl))) Via.refl e2 (F0_nextAttemptAt.other W2 (Or.inr (slot_ne (Or.inr (hw _ (List.mem_of_getElem? (i := 26) rfl))) (Or.inr (hw _ (List.mem_of_getElem? (i := 24) rfl))) (by decide) (t := (.object "java/time/Instant")) (t' := (.object "com/example/keryx/keryx/core/DeliveryStatus")) (by decide) (by decide)))) (Ex0.wr W2) (Or.inr ⟨(hw _ (List.mem_of_getElem? (i := 26) rfl)), rfl, hnm⟩) (hw _ (List.mem_of_getElem? (i := 16) rfl)) (ty := (.object "java/time/Instant")) (by decide) rfl rfl (g := (mkF m 11 #[.val (.ref o0), .val (.ref o1), .val .null] [.null, (.ref o0)])) rfl rfl (hb hby d3_11)
  refine Ends.go st3 ?_
  have Fw3 := (F0_nextAttemptAt.other W2 (Or.inr (slot_ne (Or.inr (hw _ (List.mem_of_getElem? (i := 26) rfl))) (Or.inr (hw _ (List.mem_of_getElem? (i := 24) rfl))) (by decide) (t := (.object "java/time/Instant")) (t' := (.object "com/example/keryx/keryx/core/DeliveryStatus")) (by decide) (by decide)))).same W3
  have K3 := K2.wr W3 (Or.inl (List.mem_of_getElem? (i := 0) rfl))
  have O3 := O2.wr W3 g_o0
  have N3 := Fr.snoc X3 N2 g_o0
  show Ends p e below s T3 (mkF m 14 #[.val (.ref o0), .val (.ref o1), .val .null] []) _ _ _
  refine Ends.retV X3 hx Bd.notSynchronized Bd.returns (hb hby d3_14) (by decide) (by decide) ?_
  rw [e3]
  exact ⟨rfl, N3, K3, ((Ex0.wr W2).wr W3), (Fw2.other W3 (Or.inr (slot_ne (Or.inr (hw _ (List.mem_of_getElem? (i := 24) rfl))) (Or.inr (hw _ (List.mem_of_getElem? (i := 26) rfl))) (by decide) (t := (.object "com/example/keryx/keryx/core/DeliveryStatus")) (t' := (.object "java/time/Instant")) (by decide) (by decide)))), Fw3⟩
theorem d1_0 : decode prog_6_method_2_code 0 = .ok (.aload_n 0, 1) := by decide +kernel
theorem d1_1 : decode prog_6_method_2_code 1 = .ok (.invokevirtual 17, 3) := by decide +kernel
theorem d1_4 : decode prog_6_method_2_code 4 = .ok (.ifCond .ne 20, 3) := by decide +kernel
theorem d1_24 : decode prog_6_method_2_code 24 = .ok (.new 8, 3) := by decide +kernel
theorem d1_27 : decode prog_6_method_2_code 27 = .ok (.dup, 1) := by decide +kernel
theorem d1_28 : decode prog_6_method_2_code 28 = .ok (.aload_n 0, 1) := by decide +kernel
theorem d1_29 : decode prog_6_method_2_code 29 = .ok (.aconst_null, 1) := by decide +kernel
theorem d1_30 : decode prog_6_method_2_code 30 = .ok (.invokespecial 38, 3) := by decide +kernel
theorem d1_33 : decode prog_6_method_2_code 33 = .ok (.areturn, 1) := by decide +kernel
theorem pn1 : plainName "com/example/keryx/keryx/core/DeliveryUpdate" = true := by first | (simp [plainName, overriddenIn]; done) | decide +kernel
theorem pd1_0 : parseMethodDescriptor "()Z" = some ⟨[], some .boolean⟩ := by decide +kernel
theorem pd1_1 : parseMethodDescriptor "(Lcom/example/keryx/keryx/core/DeliveryStatus;Ljava/time/Instant;)V" = some ⟨[(.object "com/example/keryx/keryx/core/DeliveryStatus"), (.object "java/time/Instant")], none⟩ := by decide +kernel
theorem ef1 (m : MethodId) (o0 : Addr) : entryFrame m #[(.ref o0)] 1 = mkF m 0 #[.val (.ref o0)] [] := by first | (simp [entryFrame, mkF, argsToLocals, Value.category]; done) | rfl
set_option maxRecDepth 65536 in
set_option maxHeartbeats 40000000 in
theorem rmE (l : Launch) (Z : State) (a0 : Array Value) (hw : ∀ d ∈ tables_1, d.before a0 Z = true) (ws : List Jvm.Cond) (n0 : Nat) (h0 : Heap) (O0 : Old Z n0 h0) (o0 : Addr) (Es : Exa Z Z.heap o0 "com/example/keryx/keryx/core/DeliveryStatus") (Ft : Fld Z Z.heap o0 "com/example/keryx/keryx/core/DeliveryStatus" "terminal" "Z" (.int (1 : Int32))) :
    Meets1 l (⟨"com/example/keryx/keryx/core/DeliveryUpdate", "ended", "(Lcom/example/keryx/keryx/core/DeliveryStatus;)Lcom/example/keryx/keryx/core/DeliveryUpdate;"⟩ : MethodName) prog_6_method_2_code 1 (some (.object "com/example/keryx/keryx/core/DeliveryUpdate")) ws ({ frames := 2, cells := 1, slots := 2, locals := 27 } : Room) #[(.ref o0)] Z h0 (fun v h L => ∃ b : Addr, v = some (.ref b) ∧ Fr n0 L ∧ h0.size ≤ b ∧ Keep h0 h [] ∧ Exa Z h b "com/example/keryx/keryx/core/DeliveryUpdate" ∧ Fld Z h b "com/example/keryx/keryx/core/DeliveryUpdate" "status" "Lcom/example/keryx/keryx/core/DeliveryStatus;" (.ref o0) ∧ Fld Z h b "com/example/keryx/keryx/core/DeliveryUpdate" "nextAttemptAt" "Ljava/time/Instant;" .null) := by
  refine MetFree.of_bodySF (plainFor_of_name pn1) hisR ?_
  intro p e s m args below meth c s₁ Bd hml0 hP hK
  obtain ⟨rfl, hZ, hh⟩ := hP
  have hx := Bd.exec
  have hby := Bd.bytes
  have hml : c.maxLocals = 1 := hml0
  have hown : s.vm.findClass "com/example/keryx/keryx/core/DeliveryUpdate" = some m.cls := findClass_of_methodNamed Bd.named
  have hnm := (name_of_methodNamed Bd.named Bd.method).1
  have X0 : Stand p l e ({ frames := 2, cells := 1, slots := 2, locals := 27 } : Room) s m #[(.ref o0)] below meth c s₁ [] 0 0 := Stand.of_body Bd
  have e0 : s₁.heap = h0 := by rw [← hh, Bd.state]; rfl
  have N0 := Fr.nil n0
  have Z0 := own_old_le O0
  show Ends p e below s s₁ (entryFrame m #[(.ref o0)] 1) ({ frames := 2, cells := 1, slots := 2, locals := 27 } : Room).cells ({ frames := 2, cells := 1, slots := 2, locals := 27 } : Room).slots (fun v h L => ∃ b : Addr, v = some (.ref b) ∧ Fr n0 L ∧ h0.size ≤ b ∧ Keep h0 h [] ∧ Exa Z h b "com/example/keryx/keryx/core/DeliveryUpdate" ∧ Fld Z h b "com/example/keryx/keryx/core/DeliveryUpdate" "status" "Lcom/example/keryx/keryx/core/DeliveryStatus;" (.ref o0) ∧ Fld Z h b "com/example/keryx/keryx/core/DeliveryUpdate" "nextAttemptAt" "Ljava/time/Instant;" .null)
  refine Ends.go (fun _ k => castTop (ef1 m o0) k) ?_
  have K0 := Keep.refl h0 []
  show Ends p e below s s₁ (mkF m 0 #[.val (.ref o0)] []) _ _ _
  refine Ends.go (fun _ k => XS.aloadN X0.here hx rfl (hb hby d1_0) rfl rfl k) ?_
  show Ends p e below s s₁ (mkF m 1 #[.val (.ref o0)] [(.ref o0)]) _ _ _
  obtain ⟨cq1, kq1, q1a, q1b, q1c⟩ := isOf hZ e0 (Es.ext O0.2)
  obtain ⟨_, _, ⟨T1, L1, k1, n1⟩, -, X1, ⟨Lc1, hQ1, l1, y1, z1⟩, st1⟩ := X0.virtualBack hx (y := (⟨"com/example/keryx/keryx/core/DeliveryStatus", "isTerminal", "()Z"⟩ : MethodName)) (z := (⟨"com/example/keryx/keryx/core/DeliveryStatus", "isTerminal", "()Z"⟩ : MethodName)) hown (mvT hZ (hw _ (List.mem_of_getElem? (i := 8) rfl))) (mvT hZ (hw _ (List.mem_of_getElem? (i := 9) rfl))) (notFace_of_selects (args := #[]) (mvT hZ (hw _ (List.mem_of_getElem? (i := 11) rfl)))) (mvT hZ (hw _ (List.mem_of_getElem? (i := 11) rfl))) (mvT hZ (hw _ (List.mem_of_getElem? (i := 10) rfl))) (by decide) (own_backOf (W := 0) (rmT l Z a0 hw [] n0 h0 O0 o0 Ft) hZ (hw _ (List.mem_of_getElem? (i := 12) rfl)) (hw _ (List.mem_of_getElem? (i := 2) rfl)) (by decide) (by decide)) q1a q1c (g := (mkF m 1 #[.val (.ref o0)] [(.ref o0)])) rfl (by rw [hml]; rfl) (Steps.refl _) (argsL := []) (rest := []) (lenOf pd1_0 rfl) rfl (by show 2 * 0 + _ ≤ _; exact Nat.le_of_eq rfl) (hb hby d1_1) (fun _ _ => ⟨rfl, e0, (by decide : 0 + 0 ≤ _), (by decide : 0 + 0 ≤ _)⟩)
  dsimp only [Pt.U, Pt.locs, Pt.cells, Pt.slots] at X1 l1 y1 z1 st1 hQ1
  subst l1 y1 z1
  obtain ⟨rfl, N1q, e1q⟩ := hQ1
  have N1 := Fr.app N0 N1q
  refine Ends.go (fun _ k => st1.trans k) ?_
  show Ends p e below s T1 (mkF m 4 #[.val (.ref o0)] [(.int (1 : Int32))]) _ _ _
  refine Ends.go (fun _ k => XS.ifYes X1.here hx rfl (pc0 := 4) (pc' := 24) rfl (hb hby d1_4) rfl ((if0 _ _).trans (feq (by decide : ¬ ((1 : Int32) = (0 : Int32)))).2) (by decide) (by decide) k) ?_
  show Ends p e below s T1 (mkF m 24 #[.val (.ref o0)] []) _ _ _
  obtain ⟨T2, h2, X2, e2, E2, A2, D2, -, st2⟩ := newO X1 hx hZ hown (hw _ (List.mem_of_getElem? (i := 15) rfl)) (hw _ (List.mem_of_getElem? (i := 16) rfl)) (hw _ (List.mem_of_getElem? (i := 6) rfl)) e1q (g := (mkF m 24 #[.val (.ref o0)] [])) rfl (hb hby d1_24) (by decide) (by decide)
  obtain ⟨b2, g2⟩ : ∃ z, z = h0.size := ⟨_, rfl⟩
  rw [← g2] at A2 D2 st2
  refine Ends.go st2 ?_
  have g_b2 : n0 ≤ b2 := Nat.le_trans (own_old_le O0) (Nat.le_of_eq g2.symm)
  have sz_b2 : h0.size ≤ b2 := Nat.le_trans K0.1 (Nat.le_of_eq g2.symm)
  have K2 := K0.ext E2
  have O2 := O0.ext E2
  have F_status_b2 : Fld Z h2 b2 "com/example/keryx/keryx/core/DeliveryUpdate" "status" "Lcom/example/keryx/keryx/core/DeliveryStatus;" .null := D2 (Or.inr (hw _ (List.mem_of_getElem? (i := 24) rfl))) (ty := (.object "com/example/keryx/keryx/core/DeliveryStatus")) (by decide)
  have F_nextAttemptAt_b2 : Fld Z h2 b2 "com/example/keryx/keryx/core/DeliveryUpdate" "nextAttemptAt" "Ljava/time/Instant;" .null := D2 (Or.inr (hw _ (List.mem_of_getElem? (i := 26) rfl))) (ty := (.object "java/time/Instant")) (by decide)
  show Ends p e below s T2 (mkF m 27 #[.val (.ref o0)] [(.ref b2)]) _ _ _
  refine Ends.go (fun _ k => XS.dup X2.here hx rfl (hb hby d1_27) rfl rfl k) ?_
  show Ends p e below s T2 (mkF m 28 #[.val (.ref o0)] [(.ref b2), (.ref b2)]) _ _ _
  refine Ends.go (fun _ k => XS.aloadN X2.here hx rfl (hb hby d1_28) rfl rfl k) ?_
  show Ends p e below s T2 (mkF m 29 #[.val (.ref o0)] [(.ref o0), (.ref b2), (.ref b2)]) _ _ _
  refine Ends.go (fun _ k => XS.aconstNull X2.here hx rfl (hb hby d1_29) k) ?_
  show Ends p e below s T2 (mkF m 30 #[.val (.ref o0)] [.null, (.ref o0), (.ref b2), (.ref b2)]) _ _ _
  obtain ⟨_, _, ⟨T3, L3, k3, n3⟩, -, X3, ⟨Lc3, hQ3, l3, y3, z3⟩, st3⟩ := X2.specialBack hx (y := (⟨"com/example/keryx/keryx/core/DeliveryUpdate", "<init>", "(Lcom/example/keryx/keryx/core/DeliveryStatus;Ljava/time/Instant;)V"⟩ : MethodName)) rfl hown (mvT hZ (hw _ (List.mem_of_getElem? (i := 17) rfl))) (mvT hZ (hw _ (List.mem_of_getElem? (i := 18) rfl))) (mvT hZ (hw _ (List.mem_of_getElem? (i := 19) rfl))) (by decide) (own_backOf (W := 1) (rmI l Z a0 hw [] n0 h2 O2 b2 o0 g_b2 A2 F_status_b2 F_nextAttemptAt_b2) hZ (hw _ (List.mem_of_getElem? (i := 19) rfl)) (hw _ (List.mem_of_getElem? (i := 6) rfl)) (by decide) (by decide)) (g := (mkF m 30 #[.val (.ref o0)] [.null, (.ref o0), (.ref b2), (.ref b2)])) rfl (by rw [hml]; rfl) (Steps.refl _) (a := b2) (argsL := [(.ref o0), .null]) (rest := [(.ref b2)]) (lenOf pd1_1 rfl) rfl (by show 2 * 0 + _ ≤ _; exact Nat.le_of_eq rfl) (hb hby d1_30) (fun _ _ => ⟨rfl, e2, (by decide : 1 + 0 ≤ _), (by decide : 2 + 0 ≤ _)⟩)
  dsimp only [Pt.U, Pt.locs, Pt.cells, Pt.slots] at X3 l3 y3 z3 st3 hQ3
  subst l3 y3 z3
  obtain ⟨rfl, N3q, K3c, Eq3, Fd3, Fp3⟩ := hQ3
  have N3 := Fr.app N1 N3q
  refine Ends.go (fun _ k => st3.trans k) ?_
  obtain ⟨h3, e3⟩ : ∃ z, T3.heap = z := ⟨_, rfl⟩
  rw [e3] at K3c Eq3 Fd3 Fp3
  have K3 := K2.trans K3c (allS (Or.inr sz_b2) all0)
  have O3 := O2.keep K3c (allS g_b2 all0)
  show Ends p e below s T3 (mkF m 33 #[.val (.ref o0)] [(.ref b2)]) _ _ _
  refine Ends.ret X3 hx Bd.notSynchronized (t := (.object "com/example/keryx/keryx/core/DeliveryUpdate")) Bd.returns rfl (Or.inr (Or.inr (Or.inr (Or.inr ⟨rfl, rfl, rfl⟩)))) (hb hby d1_33) (by decide) (by decide) ?_
  rw [e3]
  exact ⟨b2, rfl, N3, sz_b2, K3, Eq3, Fd3, Fp3⟩
theorem d5_0 : decode prog_6_method_4_code 0 = .ok (.aload_n 0, 1) := by decide +kernel
theorem d5_1 : decode prog_6_method_4_code 1 = .ok (.getfield 7, 3) := by decide +kernel
theorem d5_4 : decode prog_6_method_4_code 4 = .ok (.areturn, 1) := by decide +kernel
theorem pn5 : plainName "com/example/keryx/keryx/core/DeliveryUpdate" = true := by first | (simp [plainName, overriddenIn]; done) | decide +kernel
theorem ef5 (m : MethodId) (o0 : Addr) : entryFrame m #[(.ref o0)] 1 = mkF m 0 #[.val (.ref o0)] [] := by first | (simp [entryFrame, mkF, argsToLocals, Value.category]; done) | rfl
set_option maxRecDepth 65536 in
set_option maxHeartbeats 40000000 in
theorem rmS (l : Launch) (Z : State) (a0 : Array Value) (hw : ∀ d ∈ tables_1, d.before a0 Z = true) (ws : List Jvm.Cond) (n0 : Nat) (h0 : Heap) (O0 : Old Z n0 h0) (o0 : Addr) (r : Addr) (F0 : Fld Z h0 o0 "com/example/keryx/keryx/core/DeliveryUpdate" "status" "Lcom/example/keryx/keryx/core/DeliveryStatus;" (.ref r)) :
    Meets1 l (⟨"com/example/keryx/keryx/core/DeliveryUpdate", "status", "()Lcom/example/keryx/keryx/core/DeliveryStatus;"⟩ : MethodName) prog_6_method_4_code 1 (some (.object "com/example/keryx/keryx/core/DeliveryStatus")) ws ({ frames := 0, cells := 0, slots := 0, locals := 0 } : Room) #[(.ref o0)] Z h0 (fun v h L => v = some (.ref r) ∧ Fr n0 L ∧ h = h0) := by
  refine MetFree.of_bodySF (plainFor_of_name pn5) hisR ?_
  intro p e s m args below meth c s₁ Bd hml0 hP hK
  obtain ⟨rfl, hZ, hh⟩ := hP
  have hx := Bd.exec
  have hby := Bd.bytes
  have hml : c.maxLocals = 1 := hml0
  have hown : s.vm.findClass "com/example/keryx/keryx/core/DeliveryUpdate" = some m.cls := findClass_of_methodNamed Bd.named
  have hnm := (name_of_methodNamed Bd.named Bd.method).1
  have X0 : Stand p l e ({ frames := 0, cells := 0, slots := 0, locals := 0 } : Room) s m #[(.ref o0)] below meth c s₁ [] 0 0 := Stand.of_body Bd
  have e0 : s₁.heap = h0 := by rw [← hh, Bd.state]; rfl
  have N0 := Fr.nil n0
  have Z0 := own_old_le O0
  show Ends p e below s s₁ (entryFrame m #[(.ref o0)] 1) ({ frames := 0, cells := 0, slots := 0, locals := 0 } : Room).cells ({ frames := 0, cells := 0, slots := 0, locals := 0 } : Room).slots (fun v h L => v = some (.ref r) ∧ Fr n0 L ∧ h = h0)
  refine Ends.go (fun _ k => castTop (ef5 m o0) k) ?_
  have K0 := Keep.refl h0 []
  show Ends p e below s s₁ (mkF m 0 #[.val (.ref o0)] []) _ _ _
  refine Ends.go (fun _ k => XS.aloadN X0.here hx rfl (hb hby d5_0) rfl rfl k) ?_
  show Ends p e below s s₁ (mkF m 1 #[.val (.ref o0)] [(.ref o0)]) _ _ _
  obtain ⟨T1, X1, e1, st1⟩ := getF X0 hx hZ hown (host := "") (Or.inl (hw _ (List.mem_of_getElem? (i := 23) rfl))) Via.refl e0 F0 (g := (mkF m 1 #[.val (.ref o0)] [(.ref o0)])) rfl rfl (hb hby d5_1)
  refine Ends.go st1 ?_
  show Ends p e below s T1 (mkF m 4 #[.val (.ref o0)] [(.ref r)]) _ _ _
  refine Ends.ret X1 hx Bd.notSynchronized (t := (.object "com/example/keryx/keryx/core/DeliveryStatus")) Bd.returns rfl (Or.inr (Or.inr (Or.inr (Or.inr ⟨rfl, rfl, rfl⟩)))) (hb hby d5_4) (by decide) (by decide) ?_
  exact ⟨rfl, N0, e1⟩
theorem d7_0 : decode jdk_32_method_4_code 0 = .ok (.aload_n 0, 1) := by decide +kernel
theorem d7_1 : decode jdk_32_method_4_code 1 = .ok (.ifnonnull 9, 3) := by decide +kernel
theorem d7_4 : decode jdk_32_method_4_code 4 = .ok (.getstatic 1, 3) := by decide +kernel
theorem d7_7 : decode jdk_32_method_4_code 7 = .ok (.goto 11, 3) := by decide +kernel
theorem d7_18 : decode jdk_32_method_4_code 18 = .ok (.areturn, 1) := by decide +kernel
theorem pn7 : plainName "java/util/Optional" = true := by first | (simp [plainName, overriddenIn]; done) | decide +kernel
theorem ef7 (m : MethodId)  : entryFrame m #[.null] 1 = mkF m 0 #[.val .null] [] := by first | (simp [entryFrame, mkF, argsToLocals, Value.category]; done) | rfl
set_option maxRecDepth 65536 in
set_option maxHeartbeats 40000000 in
theorem rmO (l : Launch) (Z : State) (a0 : Array Value) (hw : ∀ d ∈ tables_1, d.before a0 Z = true) (ws : List Jvm.Cond) (n0 : Nat) (h0 : Heap) (O0 : Old Z n0 h0)  (w_SUCCEEDED : Addr) (w_DEAD_LETTER : Addr) (w_FAILED : Addr) (w_EMPTY : Addr) (FF : Facts Z w_SUCCEEDED w_DEAD_LETTER w_FAILED w_EMPTY) :
    Meets1 l (⟨"java/util/Optional", "ofNullable", "(Ljava/lang/Object;)Ljava/util/Optional;"⟩ : MethodName) jdk_32_method_4_code 1 (some (.object "java/util/Optional")) ws ({ frames := 0, cells := 0, slots := 0, locals := 0 } : Room) #[.null] Z h0 (fun v h L => v = some (.ref w_EMPTY) ∧ Fr n0 L ∧ h = h0) := by
  refine MetFree.of_bodySF (plainFor_of_name pn7) hisR ?_
  intro p e s m args below meth c s₁ Bd hml0 hP hK
  obtain ⟨rfl, hZ, hh⟩ := hP
  have hx := Bd.exec
  have hby := Bd.bytes
  have hml : c.maxLocals = 1 := hml0
  have hown : s.vm.findClass "java/util/Optional" = some m.cls := findClass_of_methodNamed Bd.named
  have hnm := (name_of_methodNamed Bd.named Bd.method).1
  have X0 : Stand p l e ({ frames := 0, cells := 0, slots := 0, locals := 0 } : Room) s m #[.null] below meth c s₁ [] 0 0 := Stand.of_body Bd
  have e0 : s₁.heap = h0 := by rw [← hh, Bd.state]; rfl
  have N0 := Fr.nil n0
  have Z0 := own_old_le O0
  show Ends p e below s s₁ (entryFrame m #[.null] 1) ({ frames := 0, cells := 0, slots := 0, locals := 0 } : Room).cells ({ frames := 0, cells := 0, slots := 0, locals := 0 } : Room).slots (fun v h L => v = some (.ref w_EMPTY) ∧ Fr n0 L ∧ h = h0)
  refine Ends.go (fun _ k => castTop (ef7 m) k) ?_
  have K0 := Keep.refl h0 []
  have FF0 := FF
  obtain ⟨S_SUCCEEDED, E_SUCCEEDED, F_terminal_SUCCEEDED, S_DEAD_LETTER, E_DEAD_LETTER, F_terminal_DEAD_LETTER, S_FAILED, E_FAILED, F_terminal_FAILED, S_EMPTY, E_EMPTY, F_value_EMPTY⟩ := FF
  show Ends p e below s s₁ (mkF m 0 #[.val .null] []) _ _ _
  refine Ends.go (fun _ k => XS.aloadN X0.here hx rfl (hb hby d7_0) rfl rfl k) ?_
  show Ends p e below s s₁ (mkF m 1 #[.val .null] [.null]) _ _ _
  refine Ends.go (fun _ k => XS.ifnonnullNo X0.here hx rfl (hb hby d7_1) rfl k) ?_
  show Ends p e below s s₁ (mkF m 4 #[.val .null] []) _ _ _
  obtain ⟨T1, X1, e1, st1⟩ := getS2 X0 hx hZ hown (host := "") (Or.inl (hw _ (List.mem_of_getElem? (i := 41) rfl))) Via.refl e0 (S_EMPTY.ext O0.2) (g := (mkF m 4 #[.val .null] [])) rfl (hb hby d7_4)
  refine Ends.go st1 ?_
  show Ends p e below s T1 (mkF m 7 #[.val .null] [(.ref w_EMPTY)]) _ _ _
  refine Ends.go (fun _ k => XS.goto X1.here hx rfl (pc0 := 7) (pc' := 18) rfl (hb hby d7_7) (by decide) (by decide) k) ?_
  show Ends p e below s T1 (mkF m 18 #[.val .null] [(.ref w_EMPTY)]) _ _ _
  refine Ends.ret X1 hx Bd.notSynchronized (t := (.object "java/util/Optional")) Bd.returns rfl (Or.inr (Or.inr (Or.inr (Or.inr ⟨rfl, rfl, rfl⟩)))) (hb hby d7_18) (by decide) (by decide) ?_
  exact ⟨rfl, N0, e1⟩
theorem d6_0 : decode prog_6_method_5_code 0 = .ok (.aload_n 0, 1) := by decide +kernel
theorem d6_1 : decode prog_6_method_5_code 1 = .ok (.getfield 13, 3) := by decide +kernel
theorem d6_4 : decode prog_6_method_5_code 4 = .ok (.invokestatic 53, 3) := by decide +kernel
theorem d6_7 : decode prog_6_method_5_code 7 = .ok (.areturn, 1) := by decide +kernel
theorem pn6 : plainName "com/example/keryx/keryx/core/DeliveryUpdate" = true := by first | (simp [plainName, overriddenIn]; done) | decide +kernel
theorem pd6_0 : parseMethodDescriptor "(Ljava/lang/Object;)Ljava/util/Optional;" = some ⟨[(.object "java/lang/Object")], some (.object "java/util/Optional")⟩ := by decide +kernel
theorem ef6 (m : MethodId) (o0 : Addr) : entryFrame m #[(.ref o0)] 1 = mkF m 0 #[.val (.ref o0)] [] := by first | (simp [entryFrame, mkF, argsToLocals, Value.category]; done) | rfl
set_option maxRecDepth 65536 in
set_option maxHeartbeats 40000000 in
theorem rmN (l : Launch) (Z : State) (a0 : Array Value) (hw : ∀ d ∈ tables_1, d.before a0 Z = true) (ws : List Jvm.Cond) (n0 : Nat) (h0 : Heap) (O0 : Old Z n0 h0) (o0 : Addr) (w_SUCCEEDED : Addr) (w_DEAD_LETTER : Addr) (w_FAILED : Addr) (w_EMPTY : Addr) (FF : Facts Z w_SUCCEEDED w_DEAD_LETTER w_FAILED w_EMPTY) (F0 : Fld Z h0 o0 "com/example/keryx/keryx/core/DeliveryUpdate" "nextAttemptAt" "Ljava/time/Instant;" .null) :
    Meets1 l (⟨"com/example/keryx/keryx/core/DeliveryUpdate", "nextAttemptAt", "()Ljava/util/Optional;"⟩ : MethodName) prog_6_method_5_code 1 (some (.object "java/util/Optional")) ws ({ frames := 1, cells := 0, slots := 0, locals := 12 } : Room) #[(.ref o0)] Z h0 (fun v h L => v = some (.ref w_EMPTY) ∧ Fr n0 L ∧ h = h0) := by
  refine MetFree.of_bodySF (plainFor_of_name pn6) hisR ?_
  intro p e s m args below meth c s₁ Bd hml0 hP hK
  obtain ⟨rfl, hZ, hh⟩ := hP
  have hx := Bd.exec
  have hby := Bd.bytes
  have hml : c.maxLocals = 1 := hml0
  have hown : s.vm.findClass "com/example/keryx/keryx/core/DeliveryUpdate" = some m.cls := findClass_of_methodNamed Bd.named
  have hnm := (name_of_methodNamed Bd.named Bd.method).1
  have X0 : Stand p l e ({ frames := 1, cells := 0, slots := 0, locals := 12 } : Room) s m #[(.ref o0)] below meth c s₁ [] 0 0 := Stand.of_body Bd
  have e0 : s₁.heap = h0 := by rw [← hh, Bd.state]; rfl
  have N0 := Fr.nil n0
  have Z0 := own_old_le O0
  show Ends p e below s s₁ (entryFrame m #[(.ref o0)] 1) ({ frames := 1, cells := 0, slots := 0, locals := 12 } : Room).cells ({ frames := 1, cells := 0, slots := 0, locals := 12 } : Room).slots (fun v h L => v = some (.ref w_EMPTY) ∧ Fr n0 L ∧ h = h0)
  refine Ends.go (fun _ k => castTop (ef6 m o0) k) ?_
  have K0 := Keep.refl h0 []
  have FF0 := FF
  obtain ⟨S_SUCCEEDED, E_SUCCEEDED, F_terminal_SUCCEEDED, S_DEAD_LETTER, E_DEAD_LETTER, F_terminal_DEAD_LETTER, S_FAILED, E_FAILED, F_terminal_FAILED, S_EMPTY, E_EMPTY, F_value_EMPTY⟩ := FF
  show Ends p e below s s₁ (mkF m 0 #[.val (.ref o0)] []) _ _ _
  refine Ends.go (fun _ k => XS.aloadN X0.here hx rfl (hb hby d6_0) rfl rfl k) ?_
  show Ends p e below s s₁ (mkF m 1 #[.val (.ref o0)] [(.ref o0)]) _ _ _
  obtain ⟨T1, X1, e1, st1⟩ := getF X0 hx hZ hown (host := "") (Or.inl (hw _ (List.mem_of_getElem? (i := 25) rfl))) Via.refl e0 F0 (g := (mkF m 1 #[.val (.ref o0)] [(.ref o0)])) rfl rfl (hb hby d6_1)
  refine Ends.go st1 ?_
  show Ends p e below s T1 (mkF m 4 #[.val (.ref o0)] [.null]) _ _ _
  obtain ⟨_, _, ⟨T2, L2, k2, n2⟩, -, X2, ⟨Lc2, hQ2, l2, y2, z2⟩, st2⟩ := Jvm.LawKit.callS X1 hx (y := (⟨"java/util/Optional", "ofNullable", "(Ljava/lang/Object;)Ljava/util/Optional;"⟩ : MethodName)) hown (mvT hZ (hw _ (List.mem_of_getElem? (i := 37) rfl))) (mvT hZ (hw _ (List.mem_of_getElem? (i := 38) rfl))) (mvT hZ (hw _ (List.mem_of_getElem? (i := 39) rfl))) (mvT hZ (hw _ (List.mem_of_getElem? (i := 40) rfl))) (by decide) (own_backOf (W := 0) (rmO l Z a0 hw [] n0 h0 O0  w_SUCCEEDED w_DEAD_LETTER w_FAILED w_EMPTY FF0) hZ (hw _ (List.mem_of_getElem? (i := 40) rfl)) (hw _ (List.mem_of_getElem? (i := 39) rfl)) (by decide) (by decide)) (g := (mkF m 4 #[.val (.ref o0)] [.null])) rfl (by rw [hml]; rfl) (argsL := [.null]) (rest := []) (lenOf pd6_0 rfl) rfl (by show 2 * 0 + _ ≤ _; exact Nat.le_of_eq rfl) (hb hby d6_4) (fun _ _ => ⟨rfl, e1, (by decide : 0 + 0 ≤ _), (by decide : 0 + 0 ≤ _)⟩)
  dsimp only [Pt.U, Pt.locs, Pt.cells, Pt.slots] at X2 l2 y2 z2 st2 hQ2
  subst l2 y2 z2
  obtain ⟨rfl, N2q, e2q⟩ := hQ2
  have N2 := Fr.app N0 N2q
  refine Ends.go st2 ?_
  show Ends p e below s T2 (mkF m 7 #[.val (.ref o0)] [(.ref w_EMPTY)]) _ _ _
  refine Ends.ret X2 hx Bd.notSynchronized (t := (.object "java/util/Optional")) Bd.returns rfl (Or.inr (Or.inr (Or.inr (Or.inr ⟨rfl, rfl, rfl⟩)))) (hb hby d6_7) (by decide) (by decide) ?_
  exact ⟨rfl, N2, e2q⟩
theorem d8_0 : decode jdk_32_method_6_code 0 = .ok (.aload_n 0, 1) := by decide +kernel
theorem d8_1 : decode jdk_32_method_6_code 1 = .ok (.getfield 13, 3) := by decide +kernel
theorem d8_4 : decode jdk_32_method_6_code 4 = .ok (.ifnull 7, 3) := by decide +kernel
theorem d8_11 : decode jdk_32_method_6_code 11 = .ok (.iconst 0, 1) := by decide +kernel
theorem d8_12 : decode jdk_32_method_6_code 12 = .ok (.ireturn, 1) := by decide +kernel
theorem pn8 : plainName "java/util/Optional" = true := by first | (simp [plainName, overriddenIn]; done) | decide +kernel
theorem ef8 (m : MethodId) (o0 : Addr) : entryFrame m #[(.ref o0)] 1 = mkF m 0 #[.val (.ref o0)] [] := by first | (simp [entryFrame, mkF, argsToLocals, Value.category]; done) | rfl
set_option maxRecDepth 65536 in
set_option maxHeartbeats 40000000 in
theorem rmQ (l : Launch) (Z : State) (a0 : Array Value) (hw : ∀ d ∈ tables_1, d.before a0 Z = true) (ws : List Jvm.Cond) (n0 : Nat) (h0 : Heap) (O0 : Old Z n0 h0) (o0 : Addr) (F0 : Fld Z Z.heap o0 "java/util/Optional" "value" "Ljava/lang/Object;" .null) :
    Meets1 l (⟨"java/util/Optional", "isPresent", "()Z"⟩ : MethodName) jdk_32_method_6_code 1 (some .boolean) ws ({ frames := 0, cells := 0, slots := 0, locals := 0 } : Room) #[(.ref o0)] Z h0 (fun v h L => v = some (.int (0 : Int32)) ∧ Fr n0 L ∧ h = h0) := by
  refine MetFree.of_bodySF (plainFor_of_name pn8) hisR ?_
  intro p e s m args below meth c s₁ Bd hml0 hP hK
  obtain ⟨rfl, hZ, hh⟩ := hP
  have hx := Bd.exec
  have hby := Bd.bytes
  have hml : c.maxLocals = 1 := hml0
  have hown : s.vm.findClass "java/util/Optional" = some m.cls := findClass_of_methodNamed Bd.named
  have hnm := (name_of_methodNamed Bd.named Bd.method).1
  have X0 : Stand p l e ({ frames := 0, cells := 0, slots := 0, locals := 0 } : Room) s m #[(.ref o0)] below meth c s₁ [] 0 0 := Stand.of_body Bd
  have e0 : s₁.heap = h0 := by rw [← hh, Bd.state]; rfl
  have N0 := Fr.nil n0
  have Z0 := own_old_le O0
  show Ends p e below s s₁ (entryFrame m #[(.ref o0)] 1) ({ frames := 0, cells := 0, slots := 0, locals := 0 } : Room).cells ({ frames := 0, cells := 0, slots := 0, locals := 0 } : Room).slots (fun v h L => v = some (.int (0 : Int32)) ∧ Fr n0 L ∧ h = h0)
  refine Ends.go (fun _ k => castTop (ef8 m o0) k) ?_
  have K0 := Keep.refl h0 []
  show Ends p e below s s₁ (mkF m 0 #[.val (.ref o0)] []) _ _ _
  refine Ends.go (fun _ k => XS.aloadN X0.here hx rfl (hb hby d8_0) rfl rfl k) ?_
  show Ends p e below s s₁ (mkF m 1 #[.val (.ref o0)] [(.ref o0)]) _ _ _
  obtain ⟨T1, X1, e1, st1⟩ := getF X0 hx hZ hown (host := "") (Or.inl (hw _ (List.mem_of_getElem? (i := 47) rfl))) Via.refl e0 (F0.ext O0.2) (g := (mkF m 1 #[.val (.ref o0)] [(.ref o0)])) rfl rfl (hb hby d8_1)
  refine Ends.go st1 ?_
  show Ends p e below s T1 (mkF m 4 #[.val (.ref o0)] [.null]) _ _ _
  refine Ends.go (fun _ k => XS.ifnullYes X1.here hx rfl (pc0 := 4) (pc' := 11) rfl (hb hby d8_4) rfl (by decide) (by decide) k) ?_
  show Ends p e below s T1 (mkF m 11 #[.val (.ref o0)] []) _ _ _
  refine Ends.go (fun _ k => XS.iconst X1.here hx rfl (hb hby d8_11) k) ?_
  show Ends p e below s T1 (mkF m 12 #[.val (.ref o0)] [(.int (0 : Int32))]) _ _ _
  refine Ends.retZ X1 hx Bd.notSynchronized (t := .boolean) Bd.returns (by simp) (hb hby d8_12) (by decide) (by decide) ?_
  exact ⟨rfl, N0, e1⟩
theorem pn0 : plainName "com/example/keryx/keryx/core/DeliveryUpdateEndedPinLaw" = true := by first | (simp [plainName, overriddenIn]; done) | decide +kernel
theorem pd0_0 : parseMethodDescriptor "(Lcom/example/keryx/keryx/core/DeliveryStatus;)Lcom/example/keryx/keryx/core/DeliveryUpdate;" = some ⟨[(.object "com/example/keryx/keryx/core/DeliveryStatus")], some (.object "com/example/keryx/keryx/core/DeliveryUpdate")⟩ := by decide +kernel
theorem pd0_1 : parseMethodDescriptor "()Lcom/example/keryx/keryx/core/DeliveryStatus;" = some ⟨[], some (.object "com/example/keryx/keryx/core/DeliveryStatus")⟩ := by decide +kernel
theorem pd0_2 : parseMethodDescriptor "()Ljava/util/Optional;" = some ⟨[], some (.object "java/util/Optional")⟩ := by decide +kernel
theorem pd0_3 : parseMethodDescriptor "()Z" = some ⟨[], some .boolean⟩ := by decide +kernel
theorem ef0 (m : MethodId) (p0 : Int32) : entryFrame m #[(.int p0)] maxLocals = mkF m 0 #[.val (.int p0), .unset, .unset, .unset] [] := by first | (simp [entryFrame, mkF, argsToLocals, Value.category, maxLocals]; done) | rfl
set_option maxRecDepth 65536 in
set_option maxHeartbeats 40000000 in
theorem rm0 (l : Launch) (Z : State) (a0 : Array Value) (hw : ∀ d ∈ tables_1, d.before a0 Z = true) (ws : List Jvm.Cond) (n0 : Nat) (h0 : Heap) (O0 : Old Z n0 h0) (p0 : Int32) (w_SUCCEEDED : Addr) (w_DEAD_LETTER : Addr) (w_FAILED : Addr) (w_EMPTY : Addr) (FF : Facts Z w_SUCCEEDED w_DEAD_LETTER w_FAILED w_EMPTY) :
    Meets1 l x code maxLocals ret ws room_1 #[(.int p0)] Z h0 (fun v h L => v = some (.int (1 : Int32)) ∧ Fr n0 L) := by
  refine MetFree.of_bodySF (plainFor_of_name pn0) hisR ?_
  intro p e s m args below meth c s₁ Bd hml0 hP hK
  obtain ⟨rfl, hZ, hh⟩ := hP
  have hx := Bd.exec
  have hby := Bd.bytes
  have hml : c.maxLocals = 4 := hml0
  have hown : s.vm.findClass "com/example/keryx/keryx/core/DeliveryUpdateEndedPinLaw" = some m.cls := findClass_of_methodNamed Bd.named
  have hnm := (name_of_methodNamed Bd.named Bd.method).1
  have X0 : Stand p l e room_1 s m #[(.int p0)] below meth c s₁ [] 0 0 := Stand.of_body Bd
  have e0 : s₁.heap = h0 := by rw [← hh, Bd.state]; rfl
  have N0 := Fr.nil n0
  have Z0 := own_old_le O0
  show Ends p e below s s₁ (entryFrame m #[(.int p0)] maxLocals) room_1.cells room_1.slots (fun v h L => v = some (.int (1 : Int32)) ∧ Fr n0 L)
  refine Ends.go (fun _ k => castTop (ef0 m p0) k) ?_
  have K0 := Keep.refl h0 []
  have FF0 := FF
  obtain ⟨S_SUCCEEDED, E_SUCCEEDED, F_terminal_SUCCEEDED, S_DEAD_LETTER, E_DEAD_LETTER, F_terminal_DEAD_LETTER, S_FAILED, E_FAILED, F_terminal_FAILED, S_EMPTY, E_EMPTY, F_value_EMPTY⟩ := FF
  show Ends p e below s s₁ (mkF m 0 #[.val (.int p0), .unset, .unset, .unset] []) _ _ _
  refine Ends.go (fun _ k => XS.iloadN X0.here hx rfl (hb hby at_0) rfl k) ?_
  show Ends p e below s s₁ (mkF m 1 #[.val (.int p0), .unset, .unset, .unset] [(.int p0)]) _ _ _
  refine Ends.go (X0.ldcInt hx hown (mvT hZ (hw _ (List.mem_of_getElem? (i := 0) rfl))) (g := (mkF m 1 #[.val (.int p0), .unset, .unset, .unset] [(.int p0)])) rfl (hb hby at_1)) ?_
  show Ends p e below s s₁ (mkF m 3 #[.val (.int p0), .unset, .unset, .unset] [(.int (2147483647 : Int32)), (.int p0)]) _ _ _
  refine Ends.go (fun _ k => XS.iand X0.here hx rfl (hb hby at_3) rfl k) ?_
  show Ends p e below s s₁ (mkF m 4 #[.val (.int p0), .unset, .unset, .unset] [(.int (p0 &&& (2147483647 : Int32)))]) _ _ _
  refine Ends.go (fun _ k => XS.iconst X0.here hx rfl (hb hby at_4) k) ?_
  show Ends p e below s s₁ (mkF m 5 #[.val (.int p0), .unset, .unset, .unset] [(.int (3 : Int32)), (.int (p0 &&& (2147483647 : Int32)))]) _ _ _
  refine Ends.go (fun _ k => iremM X0 hx rfl (hb hby at_5) rfl (by decide) k) ?_
  show Ends p e below s s₁ (mkF m 6 #[.val (.int p0), .unset, .unset, .unset] [(.int ((p0 &&& (2147483647 : Int32)) % (3 : Int32)))]) _ _ _
  generalize hi1 : ((p0 &&& (2147483647 : Int32)) % (3 : Int32)) = i1
  rcases own_mod p0 i1 hi1 with rfl | rfl | rfl
  · show Ends p e below s s₁ (mkF m 6 #[.val (.int p0), .unset, .unset, .unset] [(.int (0 : Int32))]) _ _ _
    refine Ends.go (fun _ k => XS.istoreN X0.here hx rfl (hb hby at_6) rfl (l' := #[.val (.int p0), .val (.int (0 : Int32)), .unset, .unset]) rfl k) ?_
    show Ends p e below s s₁ (mkF m 7 #[.val (.int p0), .val (.int (0 : Int32)), .unset, .unset] []) _ _ _
    refine Ends.go (fun _ k => XS.iloadN X0.here hx rfl (hb hby at_7) rfl k) ?_
    show Ends p e below s s₁ (mkF m 8 #[.val (.int p0), .val (.int (0 : Int32)), .unset, .unset] [(.int (0 : Int32))]) _ _ _
    refine Ends.go (fun _ k => XS.ifNo X0.here hx rfl (hb hby at_8) rfl ((if0 _ _).trans (teq (by decide : (0 : Int32) = (0 : Int32))).2) k) ?_
    show Ends p e below s s₁ (mkF m 11 #[.val (.int p0), .val (.int (0 : Int32)), .unset, .unset] []) _ _ _
    obtain ⟨T2, X2, e2, st2⟩ := getS2 X0 hx hZ hown (host := "") (Or.inl (hw _ (List.mem_of_getElem? (i := 1) rfl))) Via.refl e0 (S_SUCCEEDED.ext O0.2) (g := (mkF m 11 #[.val (.int p0), .val (.int (0 : Int32)), .unset, .unset] [])) rfl (hb hby at_11)
    refine Ends.go st2 ?_
    show Ends p e below s T2 (mkF m 14 #[.val (.int p0), .val (.int (0 : Int32)), .unset, .unset] [(.ref w_SUCCEEDED)]) _ _ _
    refine Ends.go (fun _ k => XS.astoreN X2.here hx rfl (hb hby at_14) rfl rfl (l' := #[.val (.int p0), .val (.int (0 : Int32)), .val (.ref w_SUCCEEDED), .unset]) rfl k) ?_
    show Ends p e below s T2 (mkF m 15 #[.val (.int p0), .val (.int (0 : Int32)), .val (.ref w_SUCCEEDED), .unset] []) _ _ _
    refine Ends.go (fun _ k => XS.goto X2.here hx rfl (pc0 := 15) (pc' := 34) rfl (hb hby at_15) (by decide) (by decide) k) ?_
    show Ends p e below s T2 (mkF m 34 #[.val (.int p0), .val (.int (0 : Int32)), .val (.ref w_SUCCEEDED), .unset] []) _ _ _
    refine Ends.go (fun _ k => XS.aloadN X2.here hx rfl (hb hby at_34) rfl rfl k) ?_
    show Ends p e below s T2 (mkF m 35 #[.val (.int p0), .val (.int (0 : Int32)), .val (.ref w_SUCCEEDED), .unset] [(.ref w_SUCCEEDED)]) _ _ _
    obtain ⟨_, _, ⟨T3, L3, k3, n3⟩, -, X3, ⟨Lc3, hQ3, l3, y3, z3⟩, st3⟩ := Jvm.LawKit.callS X2 hx (y := (⟨"com/example/keryx/keryx/core/DeliveryUpdate", "ended", "(Lcom/example/keryx/keryx/core/DeliveryStatus;)Lcom/example/keryx/keryx/core/DeliveryUpdate;"⟩ : MethodName)) hown (mvT hZ (hw _ (List.mem_of_getElem? (i := 4) rfl))) (mvT hZ (hw _ (List.mem_of_getElem? (i := 5) rfl))) (mvT hZ (hw _ (List.mem_of_getElem? (i := 6) rfl))) (mvT hZ (hw _ (List.mem_of_getElem? (i := 7) rfl))) (by decide) (own_backOf (W := 0) (rmE l Z a0 hw [] n0 h0 O0 w_SUCCEEDED E_SUCCEEDED F_terminal_SUCCEEDED) hZ (hw _ (List.mem_of_getElem? (i := 7) rfl)) (hw _ (List.mem_of_getElem? (i := 6) rfl)) (by decide) (by decide)) (g := (mkF m 35 #[.val (.int p0), .val (.int (0 : Int32)), .val (.ref w_SUCCEEDED), .unset] [(.ref w_SUCCEEDED)])) rfl (by rw [hml]; rfl) (argsL := [(.ref w_SUCCEEDED)]) (rest := []) (lenOf pd0_0 rfl) rfl (by show 2 * 0 + _ ≤ _; exact Nat.le_of_eq rfl) (hb hby at_35) (fun _ _ => ⟨rfl, e2, (by decide : 0 + 1 ≤ _), (by decide : 0 + 2 ≤ _)⟩)
    dsimp only [Pt.U, Pt.locs, Pt.cells, Pt.slots] at X3 l3 y3 z3 st3 hQ3
    subst l3 y3 z3
    obtain ⟨b3, rfl, N3q, hb3, K3c, Eq3, Fs3, Fn3⟩ := hQ3
    have N3 := Fr.app N0 N3q
    refine Ends.go st3 ?_
    have g_b3 : n0 ≤ b3 := Nat.le_trans (own_old_le O0) hb3
    have sz_b3 : h0.size ≤ b3 := Nat.le_trans K0.1 hb3
    obtain ⟨h3, e3⟩ : ∃ z, T3.heap = z := ⟨_, rfl⟩
    rw [e3] at K3c Eq3 Fs3 Fn3
    have K3 := K0.trans K3c all0
    have O3 := O0.keep K3c all0
    show Ends p e below s T3 (mkF m 38 #[.val (.int p0), .val (.int (0 : Int32)), .val (.ref w_SUCCEEDED), .unset] [(.ref b3)]) _ _ _
    refine Ends.go (fun _ k => XS.astoreN X3.here hx rfl (hb hby at_38) rfl rfl (l' := #[.val (.int p0), .val (.int (0 : Int32)), .val (.ref w_SUCCEEDED), .val (.ref b3)]) rfl k) ?_
    show Ends p e below s T3 (mkF m 39 #[.val (.int p0), .val (.int (0 : Int32)), .val (.ref w_SUCCEEDED), .val (.ref b3)] []) _ _ _
    refine Ends.go (fun _ k => XS.aloadN X3.here hx rfl (hb hby at_39) rfl rfl k) ?_
    show Ends p e below s T3 (mkF m 40 #[.val (.int p0), .val (.int (0 : Int32)), .val (.ref w_SUCCEEDED), .val (.ref b3)] [(.ref b3)]) _ _ _
    obtain ⟨cq4, kq4, q4a, q4b, q4c⟩ := isOf hZ e3 Eq3
    obtain ⟨_, _, ⟨T4, L4, k4, n4⟩, -, X4, ⟨Lc4, hQ4, l4, y4, z4⟩, st4⟩ := X3.virtualBack hx (y := (⟨"com/example/keryx/keryx/core/DeliveryUpdate", "status", "()Lcom/example/keryx/keryx/core/DeliveryStatus;"⟩ : MethodName)) (z := (⟨"com/example/keryx/keryx/core/DeliveryUpdate", "status", "()Lcom/example/keryx/keryx/core/DeliveryStatus;"⟩ : MethodName)) hown (mvT hZ (hw _ (List.mem_of_getElem? (i := 27) rfl))) (mvT hZ (hw _ (List.mem_of_getElem? (i := 28) rfl))) (notFace_of_selects (args := #[]) (mvT hZ (hw _ (List.mem_of_getElem? (i := 30) rfl)))) (mvT hZ (hw _ (List.mem_of_getElem? (i := 30) rfl))) (mvT hZ (hw _ (List.mem_of_getElem? (i := 29) rfl))) (by decide) (own_backOf (W := 0) (rmS l Z a0 hw [] n0 h3 O3 b3 w_SUCCEEDED Fs3) hZ (hw _ (List.mem_of_getElem? (i := 31) rfl)) (hw _ (List.mem_of_getElem? (i := 6) rfl)) (by decide) (by decide)) q4a q4c (g := (mkF m 40 #[.val (.int p0), .val (.int (0 : Int32)), .val (.ref w_SUCCEEDED), .val (.ref b3)] [(.ref b3)])) rfl (by rw [hml]; rfl) (Steps.refl _) (argsL := []) (rest := []) (lenOf pd0_1 rfl) rfl (by show 2 * 0 + _ ≤ _; exact Nat.le_of_eq rfl) (hb hby at_40) (fun _ _ => ⟨rfl, e3, (by decide : 1 + 0 ≤ _), (by decide : 2 + 0 ≤ _)⟩)
    dsimp only [Pt.U, Pt.locs, Pt.cells, Pt.slots] at X4 l4 y4 z4 st4 hQ4
    subst l4 y4 z4
    obtain ⟨rfl, N4q, e4q⟩ := hQ4
    have N4 := Fr.app N3 N4q
    refine Ends.go (fun _ k => st4.trans k) ?_
    show Ends p e below s T4 (mkF m 43 #[.val (.int p0), .val (.int (0 : Int32)), .val (.ref w_SUCCEEDED), .val (.ref b3)] [(.ref w_SUCCEEDED)]) _ _ _
    refine Ends.go (fun _ k => XS.aloadN X4.here hx rfl (hb hby at_43) rfl rfl k) ?_
    show Ends p e below s T4 (mkF m 44 #[.val (.int p0), .val (.int (0 : Int32)), .val (.ref w_SUCCEEDED), .val (.ref b3)] [(.ref w_SUCCEEDED), (.ref w_SUCCEEDED)]) _ _ _
    refine Ends.go (fun _ k => Jvm.RoadKit.acmp (g := (mkF m 44 #[.val (.int p0), .val (.int (0 : Int32)), .val (.ref w_SUCCEEDED), .val (.ref b3)] [(.ref w_SUCCEEDED), (.ref w_SUCCEEDED)])) X4 hx rfl rfl rfl (pc0 := 44) (pc' := 47) (same := true) rfl (hb hby at_44) rfl (decide_eq_true rfl) (by decide) (by decide) k) ?_
    show Ends p e below s T4 (mkF m 47 #[.val (.int p0), .val (.int (0 : Int32)), .val (.ref w_SUCCEEDED), .val (.ref b3)] []) _ _ _
    refine Ends.go (fun _ k => XS.aloadN X4.here hx rfl (hb hby at_47) rfl rfl k) ?_
    show Ends p e below s T4 (mkF m 48 #[.val (.int p0), .val (.int (0 : Int32)), .val (.ref w_SUCCEEDED), .val (.ref b3)] [(.ref b3)]) _ _ _
    obtain ⟨cq5, kq5, q5a, q5b, q5c⟩ := isOf hZ e4q Eq3
    obtain ⟨_, _, ⟨T5, L5, k5, n5⟩, -, X5, ⟨Lc5, hQ5, l5, y5, z5⟩, st5⟩ := X4.virtualBack hx (y := (⟨"com/example/keryx/keryx/core/DeliveryUpdate", "nextAttemptAt", "()Ljava/util/Optional;"⟩ : MethodName)) (z := (⟨"com/example/keryx/keryx/core/DeliveryUpdate", "nextAttemptAt", "()Ljava/util/Optional;"⟩ : MethodName)) hown (mvT hZ (hw _ (List.mem_of_getElem? (i := 32) rfl))) (mvT hZ (hw _ (List.mem_of_getElem? (i := 33) rfl))) (notFace_of_selects (args := #[]) (mvT hZ (hw _ (List.mem_of_getElem? (i := 35) rfl)))) (mvT hZ (hw _ (List.mem_of_getElem? (i := 35) rfl))) (mvT hZ (hw _ (List.mem_of_getElem? (i := 34) rfl))) (by decide) (own_backOf (W := 0) (rmN l Z a0 hw [] n0 h3 O3 b3 w_SUCCEEDED w_DEAD_LETTER w_FAILED w_EMPTY FF0 Fn3) hZ (hw _ (List.mem_of_getElem? (i := 36) rfl)) (hw _ (List.mem_of_getElem? (i := 6) rfl)) (by decide) (by decide)) q5a q5c (g := (mkF m 48 #[.val (.int p0), .val (.int (0 : Int32)), .val (.ref w_SUCCEEDED), .val (.ref b3)] [(.ref b3)])) rfl (by rw [hml]; rfl) (Steps.refl _) (argsL := []) (rest := []) (lenOf pd0_2 rfl) rfl (by show 2 * 0 + _ ≤ _; exact Nat.le_of_eq rfl) (hb hby at_48) (fun _ _ => ⟨rfl, e4q, (by decide : 1 + 0 ≤ _), (by decide : 2 + 0 ≤ _)⟩)
    dsimp only [Pt.U, Pt.locs, Pt.cells, Pt.slots] at X5 l5 y5 z5 st5 hQ5
    subst l5 y5 z5
    obtain ⟨rfl, N5q, e5q⟩ := hQ5
    have N5 := Fr.app N4 N5q
    refine Ends.go (fun _ k => st5.trans k) ?_
    show Ends p e below s T5 (mkF m 51 #[.val (.int p0), .val (.int (0 : Int32)), .val (.ref w_SUCCEEDED), .val (.ref b3)] [(.ref w_EMPTY)]) _ _ _
    obtain ⟨cq6, kq6, q6a, q6b, q6c⟩ := isOf hZ e5q (E_EMPTY.ext O3.2)
    obtain ⟨_, _, ⟨T6, L6, k6, n6⟩, -, X6, ⟨Lc6, hQ6, l6, y6, z6⟩, st6⟩ := X5.virtualBack hx (y := (⟨"java/util/Optional", "isPresent", "()Z"⟩ : MethodName)) (z := (⟨"java/util/Optional", "isPresent", "()Z"⟩ : MethodName)) hown (mvT hZ (hw _ (List.mem_of_getElem? (i := 42) rfl))) (mvT hZ (hw _ (List.mem_of_getElem? (i := 43) rfl))) (notFace_of_selects (args := #[]) (mvT hZ (hw _ (List.mem_of_getElem? (i := 45) rfl)))) (mvT hZ (hw _ (List.mem_of_getElem? (i := 45) rfl))) (mvT hZ (hw _ (List.mem_of_getElem? (i := 44) rfl))) (by decide) (own_backOf (W := 0) (rmQ l Z a0 hw [] n0 h3 O3 w_EMPTY F_value_EMPTY) hZ (hw _ (List.mem_of_getElem? (i := 46) rfl)) (hw _ (List.mem_of_getElem? (i := 39) rfl)) (by decide) (by decide)) q6a q6c (g := (mkF m 51 #[.val (.int p0), .val (.int (0 : Int32)), .val (.ref w_SUCCEEDED), .val (.ref b3)] [(.ref w_EMPTY)])) rfl (by rw [hml]; rfl) (Steps.refl _) (argsL := []) (rest := []) (lenOf pd0_3 rfl) rfl (by show 2 * 0 + _ ≤ _; exact Nat.le_of_eq rfl) (hb hby at_51) (fun _ _ => ⟨rfl, e5q, (by decide : 1 + 0 ≤ _), (by decide : 2 + 0 ≤ _)⟩)
    dsimp only [Pt.U, Pt.locs, Pt.cells, Pt.slots] at X6 l6 y6 z6 st6 hQ6
    subst l6 y6 z6
    obtain ⟨rfl, N6q, e6q⟩ := hQ6
    have N6 := Fr.app N5 N6q
    refine Ends.go (fun _ k => st6.trans k) ?_
    show Ends p e below s T6 (mkF m 54 #[.val (.int p0), .val (.int (0 : Int32)), .val (.ref w_SUCCEEDED), .val (.ref b3)] [(.int (0 : Int32))]) _ _ _
    refine Ends.go (fun _ k => XS.ifNo X6.here hx rfl (hb hby at_54) rfl ((if0 _ _).trans (teq (by decide : (0 : Int32) = (0 : Int32))).2) k) ?_
    show Ends p e below s T6 (mkF m 57 #[.val (.int p0), .val (.int (0 : Int32)), .val (.ref w_SUCCEEDED), .val (.ref b3)] []) _ _ _
    refine Ends.go (fun _ k => XS.iconst X6.here hx rfl (hb hby at_57) k) ?_
    show Ends p e below s T6 (mkF m 58 #[.val (.int p0), .val (.int (0 : Int32)), .val (.ref w_SUCCEEDED), .val (.ref b3)] [(.int (1 : Int32))]) _ _ _
    refine Ends.go (fun _ k => XS.goto X6.here hx rfl (pc0 := 58) (pc' := 62) rfl (hb hby at_58) (by decide) (by decide) k) ?_
    show Ends p e below s T6 (mkF m 62 #[.val (.int p0), .val (.int (0 : Int32)), .val (.ref w_SUCCEEDED), .val (.ref b3)] [(.int (1 : Int32))]) _ _ _
    refine Ends.retZ X6 hx Bd.notSynchronized (t := .boolean) Bd.returns (by simp) (hb hby at_62) (by decide) (by decide) ?_
    exact ⟨rfl, N6⟩
  · show Ends p e below s s₁ (mkF m 6 #[.val (.int p0), .unset, .unset, .unset] [(.int (1 : Int32))]) _ _ _
    refine Ends.go (fun _ k => XS.istoreN X0.here hx rfl (hb hby at_6) rfl (l' := #[.val (.int p0), .val (.int (1 : Int32)), .unset, .unset]) rfl k) ?_
    show Ends p e below s s₁ (mkF m 7 #[.val (.int p0), .val (.int (1 : Int32)), .unset, .unset] []) _ _ _
    refine Ends.go (fun _ k => XS.iloadN X0.here hx rfl (hb hby at_7) rfl k) ?_
    show Ends p e below s s₁ (mkF m 8 #[.val (.int p0), .val (.int (1 : Int32)), .unset, .unset] [(.int (1 : Int32))]) _ _ _
    refine Ends.go (fun _ k => XS.ifYes X0.here hx rfl (pc0 := 8) (pc' := 18) rfl (hb hby at_8) rfl ((if0 _ _).trans (feq (by decide : ¬ ((1 : Int32) = (0 : Int32)))).2) (by decide) (by decide) k) ?_
    show Ends p e below s s₁ (mkF m 18 #[.val (.int p0), .val (.int (1 : Int32)), .unset, .unset] []) _ _ _
    refine Ends.go (fun _ k => XS.iloadN X0.here hx rfl (hb hby at_18) rfl k) ?_
    show Ends p e below s s₁ (mkF m 19 #[.val (.int p0), .val (.int (1 : Int32)), .unset, .unset] [(.int (1 : Int32))]) _ _ _
    refine Ends.go (fun _ k => XS.iconst X0.here hx rfl (hb hby at_19) k) ?_
    show Ends p e below s s₁ (mkF m 20 #[.val (.int p0), .val (.int (1 : Int32)), .unset, .unset] [(.int (1 : Int32)), (.int (1 : Int32))]) _ _ _
    refine Ends.go (fun _ k => XS.icmpNo X0.here hx rfl (hb hby at_20) rfl (teq (by decide : (1 : Int32) = (1 : Int32))).2 k) ?_
    show Ends p e below s s₁ (mkF m 23 #[.val (.int p0), .val (.int (1 : Int32)), .unset, .unset] []) _ _ _
    obtain ⟨T7, X7, e7, st7⟩ := getS2 X0 hx hZ hown (host := "") (Or.inl (hw _ (List.mem_of_getElem? (i := 51) rfl))) Via.refl e0 (S_FAILED.ext O0.2) (g := (mkF m 23 #[.val (.int p0), .val (.int (1 : Int32)), .unset, .unset] [])) rfl (hb hby at_23)
    refine Ends.go st7 ?_
    show Ends p e below s T7 (mkF m 26 #[.val (.int p0), .val (.int (1 : Int32)), .unset, .unset] [(.ref w_FAILED)]) _ _ _
    refine Ends.go (fun _ k => XS.astoreN X7.here hx rfl (hb hby at_26) rfl rfl (l' := #[.val (.int p0), .val (.int (1 : Int32)), .val (.ref w_FAILED), .unset]) rfl k) ?_
    show Ends p e below s T7 (mkF m 27 #[.val (.int p0), .val (.int (1 : Int32)), .val (.ref w_FAILED), .unset] []) _ _ _
    refine Ends.go (fun _ k => XS.goto X7.here hx rfl (pc0 := 27) (pc' := 34) rfl (hb hby at_27) (by decide) (by decide) k) ?_
    show Ends p e below s T7 (mkF m 34 #[.val (.int p0), .val (.int (1 : Int32)), .val (.ref w_FAILED), .unset] []) _ _ _
    refine Ends.go (fun _ k => XS.aloadN X7.here hx rfl (hb hby at_34) rfl rfl k) ?_
    show Ends p e below s T7 (mkF m 35 #[.val (.int p0), .val (.int (1 : Int32)), .val (.ref w_FAILED), .unset] [(.ref w_FAILED)]) _ _ _
    obtain ⟨_, _, ⟨T8, L8, k8, n8⟩, -, X8, ⟨Lc8, hQ8, l8, y8, z8⟩, st8⟩ := Jvm.LawKit.callS X7 hx (y := (⟨"com/example/keryx/keryx/core/DeliveryUpdate", "ended", "(Lcom/example/keryx/keryx/core/DeliveryStatus;)Lcom/example/keryx/keryx/core/DeliveryUpdate;"⟩ : MethodName)) hown (mvT hZ (hw _ (List.mem_of_getElem? (i := 4) rfl))) (mvT hZ (hw _ (List.mem_of_getElem? (i := 5) rfl))) (mvT hZ (hw _ (List.mem_of_getElem? (i := 6) rfl))) (mvT hZ (hw _ (List.mem_of_getElem? (i := 7) rfl))) (by decide) (own_backOf (W := 0) (rmE l Z a0 hw [] n0 h0 O0 w_FAILED E_FAILED F_terminal_FAILED) hZ (hw _ (List.mem_of_getElem? (i := 7) rfl)) (hw _ (List.mem_of_getElem? (i := 6) rfl)) (by decide) (by decide)) (g := (mkF m 35 #[.val (.int p0), .val (.int (1 : Int32)), .val (.ref w_FAILED), .unset] [(.ref w_FAILED)])) rfl (by rw [hml]; rfl) (argsL := [(.ref w_FAILED)]) (rest := []) (lenOf pd0_0 rfl) rfl (by show 2 * 0 + _ ≤ _; exact Nat.le_of_eq rfl) (hb hby at_35) (fun _ _ => ⟨rfl, e7, (by decide : 0 + 1 ≤ _), (by decide : 0 + 2 ≤ _)⟩)
    dsimp only [Pt.U, Pt.locs, Pt.cells, Pt.slots] at X8 l8 y8 z8 st8 hQ8
    subst l8 y8 z8
    obtain ⟨b8, rfl, N8q, hb8, K8c, Eq8, Fs8, Fn8⟩ := hQ8
    have N8 := Fr.app N0 N8q
    refine Ends.go st8 ?_
    have g_b8 : n0 ≤ b8 := Nat.le_trans (own_old_le O0) hb8
    have sz_b8 : h0.size ≤ b8 := Nat.le_trans K0.1 hb8
    obtain ⟨h8, e8⟩ : ∃ z, T8.heap = z := ⟨_, rfl⟩
    rw [e8] at K8c Eq8 Fs8 Fn8
    have K8 := K0.trans K8c all0
    have O8 := O0.keep K8c all0
    show Ends p e below s T8 (mkF m 38 #[.val (.int p0), .val (.int (1 : Int32)), .val (.ref w_FAILED), .unset] [(.ref b8)]) _ _ _
    refine Ends.go (fun _ k => XS.astoreN X8.here hx rfl (hb hby at_38) rfl rfl (l' := #[.val (.int p0), .val (.int (1 : Int32)), .val (.ref w_FAILED), .val (.ref b8)]) rfl k) ?_
    show Ends p e below s T8 (mkF m 39 #[.val (.int p0), .val (.int (1 : Int32)), .val (.ref w_FAILED), .val (.ref b8)] []) _ _ _
    refine Ends.go (fun _ k => XS.aloadN X8.here hx rfl (hb hby at_39) rfl rfl k) ?_
    show Ends p e below s T8 (mkF m 40 #[.val (.int p0), .val (.int (1 : Int32)), .val (.ref w_FAILED), .val (.ref b8)] [(.ref b8)]) _ _ _
    obtain ⟨cq9, kq9, q9a, q9b, q9c⟩ := isOf hZ e8 Eq8
    obtain ⟨_, _, ⟨T9, L9, k9, n9⟩, -, X9, ⟨Lc9, hQ9, l9, y9, z9⟩, st9⟩ := X8.virtualBack hx (y := (⟨"com/example/keryx/keryx/core/DeliveryUpdate", "status", "()Lcom/example/keryx/keryx/core/DeliveryStatus;"⟩ : MethodName)) (z := (⟨"com/example/keryx/keryx/core/DeliveryUpdate", "status", "()Lcom/example/keryx/keryx/core/DeliveryStatus;"⟩ : MethodName)) hown (mvT hZ (hw _ (List.mem_of_getElem? (i := 27) rfl))) (mvT hZ (hw _ (List.mem_of_getElem? (i := 28) rfl))) (notFace_of_selects (args := #[]) (mvT hZ (hw _ (List.mem_of_getElem? (i := 30) rfl)))) (mvT hZ (hw _ (List.mem_of_getElem? (i := 30) rfl))) (mvT hZ (hw _ (List.mem_of_getElem? (i := 29) rfl))) (by decide) (own_backOf (W := 0) (rmS l Z a0 hw [] n0 h8 O8 b8 w_FAILED Fs8) hZ (hw _ (List.mem_of_getElem? (i := 31) rfl)) (hw _ (List.mem_of_getElem? (i := 6) rfl)) (by decide) (by decide)) q9a q9c (g := (mkF m 40 #[.val (.int p0), .val (.int (1 : Int32)), .val (.ref w_FAILED), .val (.ref b8)] [(.ref b8)])) rfl (by rw [hml]; rfl) (Steps.refl _) (argsL := []) (rest := []) (lenOf pd0_1 rfl) rfl (by show 2 * 0 + _ ≤ _; exact Nat.le_of_eq rfl) (hb hby at_40) (fun _ _ => ⟨rfl, e8, (by decide : 1 + 0 ≤ _), (by decide : 2 + 0 ≤ _)⟩)
    dsimp only [Pt.U, Pt.locs, Pt.cells, Pt.slots] at X9 l9 y9 z9 st9 hQ9
    subst l9 y9 z9
    obtain ⟨rfl, N9q, e9q⟩ := hQ9
    have N9 := Fr.app N8 N9q
    refine Ends.go (fun _ k => st9.trans k) ?_
    show Ends p e below s T9 (mkF m 43 #[.val (.int p0), .val (.int (1 : Int32)), .val (.ref w_FAILED), .val (.ref b8)] [(.ref w_FAILED)]) _ _ _
    refine Ends.go (fun _ k => XS.aloadN X9.here hx rfl (hb hby at_43) rfl rfl k) ?_
    show Ends p e below s T9 (mkF m 44 #[.val (.int p0), .val (.int (1 : Int32)), .val (.ref w_FAILED), .val (.ref b8)] [(.ref w_FAILED), (.ref w_FAILED)]) _ _ _
    refine Ends.go (fun _ k => Jvm.RoadKit.acmp (g := (mkF m 44 #[.val (.int p0), .val (.int (1 : Int32)), .val (.ref w_FAILED), .val (.ref b8)] [(.ref w_FAILED), (.ref w_FAILED)])) X9 hx rfl rfl rfl (pc0 := 44) (pc' := 47) (same := true) rfl (hb hby at_44) rfl (decide_eq_true rfl) (by decide) (by decide) k) ?_
    show Ends p e below s T9 (mkF m 47 #[.val (.int p0), .val (.int (1 : Int32)), .val (.ref w_FAILED), .val (.ref b8)] []) _ _ _
    refine Ends.go (fun _ k => XS.aloadN X9.here hx rfl (hb hby at_47) rfl rfl k) ?_
    show Ends p e below s T9 (mkF m 48 #[.val (.int p0), .val (.int (1 : Int32)), .val (.ref w_FAILED), .val (.ref b8)] [(.ref b8)]) _ _ _
    obtain ⟨cq10, kq10, q10a, q10b, q10c⟩ := isOf hZ e9q Eq8
    obtain ⟨_, _, ⟨T10, L10, k10, n10⟩, -, X10, ⟨Lc10, hQ10, l10, y10, z10⟩, st10⟩ := X9.virtualBack hx (y := (⟨"com/example/keryx/keryx/core/DeliveryUpdate", "nextAttemptAt", "()Ljava/util/Optional;"⟩ : MethodName)) (z := (⟨"com/example/keryx/keryx/core/DeliveryUpdate", "nextAttemptAt", "()Ljava/util/Optional;"⟩ : MethodName)) hown (mvT hZ (hw _ (List.mem_of_getElem? (i := 32) rfl))) (mvT hZ (hw _ (List.mem_of_getElem? (i := 33) rfl))) (notFace_of_selects (args := #[]) (mvT hZ (hw _ (List.mem_of_getElem? (i := 35) rfl)))) (mvT hZ (hw _ (List.mem_of_getElem? (i := 35) rfl))) (mvT hZ (hw _ (List.mem_of_getElem? (i := 34) rfl))) (by decide) (own_backOf (W := 0) (rmN l Z a0 hw [] n0 h8 O8 b8 w_SUCCEEDED w_DEAD_LETTER w_FAILED w_EMPTY FF0 Fn8) hZ (hw _ (List.mem_of_getElem? (i := 36) rfl)) (hw _ (List.mem_of_getElem? (i := 6) rfl)) (by decide) (by decide)) q10a q10c (g := (mkF m 48 #[.val (.int p0), .val (.int (1 : Int32)), .val (.ref w_FAILED), .val (.ref b8)] [(.ref b8)])) rfl (by rw [hml]; rfl) (Steps.refl _) (argsL := []) (rest := []) (lenOf pd0_2 rfl) rfl (by show 2 * 0 + _ ≤ _; exact Nat.le_of_eq rfl) (hb hby at_48) (fun _ _ => ⟨rfl, e9q, (by decide : 1 + 0 ≤ _), (by decide : 2 + 0 ≤ _)⟩)
    dsimp only [Pt.U, Pt.locs, Pt.cells, Pt.slots] at X10 l10 y10 z10 st10 hQ10
    subst l10 y10 z10
    obtain ⟨rfl, N10q, e10q⟩ := hQ10
    have N10 := Fr.app N9 N10q
    refine Ends.go (fun _ k => st10.trans k) ?_
    show Ends p e below s T10 (mkF m 51 #[.val (.int p0), .val (.int (1 : Int32)), .val (.ref w_FAILED), .val (.ref b8)] [(.ref w_EMPTY)]) _ _ _
    obtain ⟨cq11, kq11, q11a, q11b, q11c⟩ := isOf hZ e10q (E_EMPTY.ext O8.2)
    obtain ⟨_, _, ⟨T11, L11, k11, n11⟩, -, X11, ⟨Lc11, hQ11, l11, y11, z11⟩, st11⟩ := X10.virtualBack hx (y := (⟨"java/util/Optional", "isPresent", "()Z"⟩ : MethodName)) (z := (⟨"java/util/Optional", "isPresent", "()Z"⟩ : MethodName)) hown (mvT hZ (hw _ (List.mem_of_getElem? (i := 42) rfl))) (mvT hZ (hw _ (List.mem_of_getElem? (i := 43) rfl))) (notFace_of_selects (args := #[]) (mvT hZ (hw _ (List.mem_of_getElem? (i := 45) rfl)))) (mvT hZ (hw _ (List.mem_of_getElem? (i := 45) rfl))) (mvT hZ (hw _ (List.mem_of_getElem? (i := 44) rfl))) (by decide) (own_backOf (W := 0) (rmQ l Z a0 hw [] n0 h8 O8 w_EMPTY F_value_EMPTY) hZ (hw _ (List.mem_of_getElem? (i := 46) rfl)) (hw _ (List.mem_of_getElem? (i := 39) rfl)) (by decide) (by decide)) q11a q11c (g := (mkF m 51 #[.val (.int p0), .val (.int (1 : Int32)), .val (.ref w_FAILED), .val (.ref b8)] [(.ref w_EMPTY)])) rfl (by rw [hml]; rfl) (Steps.refl _) (argsL := []) (rest := []) (lenOf pd0_3 rfl) rfl (by show 2 * 0 + _ ≤ _; exact Nat.le_of_eq rfl) (hb hby at_51) (fun _ _ => ⟨rfl, e10q, (by decide : 1 + 0 ≤ _), (by decide : 2 + 0 ≤ _)⟩)
    dsimp only [Pt.U, Pt.locs, Pt.cells, Pt.slots] at X11 l11 y11 z11 st11 hQ11
    subst l11 y11 z11
    obtain ⟨rfl, N11q, e11q⟩ := hQ11
    have N11 := Fr.app N10 N11q
    refine Ends.go (fun _ k => st11.trans k) ?_
    show Ends p e below s T11 (mkF m 54 #[.val (.int p0), .val (.int (1 : Int32)), .val (.ref w_FAILED), .val (.ref b8)] [(.int (0 : Int32))]) _ _ _
    refine Ends.go (fun _ k => XS.ifNo X11.here hx rfl (hb hby at_54) rfl ((if0 _ _).trans (teq (by decide : (0 : Int32) = (0 : Int32))).2) k) ?_
    show Ends p e below s T11 (mkF m 57 #[.val (.int p0), .val (.int (1 : Int32)), .val (.ref w_FAILED), .val (.ref b8)] []) _ _ _
    refine Ends.go (fun _ k => XS.iconst X11.here hx rfl (hb hby at_57) k) ?_
    show Ends p e below s T11 (mkF m 58 #[.val (.int p0), .val (.int (1 : Int32)), .val (.ref w_FAILED), .val (.ref b8)] [(.int (1 : Int32))]) _ _ _
    refine Ends.go (fun _ k => XS.goto X11.here hx rfl (pc0 := 58) (pc' := 62) rfl (hb hby at_58) (by decide) (by decide) k) ?_
    show Ends p e below s T11 (mkF m 62 #[.val (.int p0), .val (.int (1 : Int32)), .val (.ref w_FAILED), .val (.ref b8)] [(.int (1 : Int32))]) _ _ _
    refine Ends.retZ X11 hx Bd.notSynchronized (t := .boolean) Bd.returns (by simp) (hb hby at_62) (by decide) (by decide) ?_
    exact ⟨rfl, N11⟩
  · show Ends p e below s s₁ (mkF m 6 #[.val (.int p0), .unset, .unset, .unset] [(.int (2 : Int32))]) _ _ _
    refine Ends.go (fun _ k => XS.istoreN X0.here hx rfl (hb hby at_6) rfl (l' := #[.val (.int p0), .val (.int (2 : Int32)), .unset, .unset]) rfl k) ?_
    show Ends p e below s s₁ (mkF m 7 #[.val (.int p0), .val (.int (2 : Int32)), .unset, .unset] []) _ _ _
    refine Ends.go (fun _ k => XS.iloadN X0.here hx rfl (hb hby at_7) rfl k) ?_
    show Ends p e below s s₁ (mkF m 8 #[.val (.int p0), .val (.int (2 : Int32)), .unset, .unset] [(.int (2 : Int32))]) _ _ _
    refine Ends.go (fun _ k => XS.ifYes X0.here hx rfl (pc0 := 8) (pc' := 18) rfl (hb hby at_8) rfl ((if0 _ _).trans (feq (by decide : ¬ ((2 : Int32) = (0 : Int32)))).2) (by decide) (by decide) k) ?_
    show Ends p e below s s₁ (mkF m 18 #[.val (.int p0), .val (.int (2 : Int32)), .unset, .unset] []) _ _ _
    refine Ends.go (fun _ k => XS.iloadN X0.here hx rfl (hb hby at_18) rfl k) ?_
    show Ends p e below s s₁ (mkF m 19 #[.val (.int p0), .val (.int (2 : Int32)), .unset, .unset] [(.int (2 : Int32))]) _ _ _
    refine Ends.go (fun _ k => XS.iconst X0.here hx rfl (hb hby at_19) k) ?_
    show Ends p e below s s₁ (mkF m 20 #[.val (.int p0), .val (.int (2 : Int32)), .unset, .unset] [(.int (1 : Int32)), (.int (2 : Int32))]) _ _ _
    refine Ends.go (fun _ k => XS.icmpYes X0.here hx rfl (pc0 := 20) (pc' := 30) rfl (hb hby at_20) rfl (feq (by decide : ¬ ((2 : Int32) = (1 : Int32)))).2 (by decide) (by decide) k) ?_
    show Ends p e below s s₁ (mkF m 30 #[.val (.int p0), .val (.int (2 : Int32)), .unset, .unset] []) _ _ _
    obtain ⟨T12, X12, e12, st12⟩ := getS2 X0 hx hZ hown (host := "") (Or.inl (hw _ (List.mem_of_getElem? (i := 49) rfl))) Via.refl e0 (S_DEAD_LETTER.ext O0.2) (g := (mkF m 30 #[.val (.int p0), .val (.int (2 : Int32)), .unset, .unset] [])) rfl (hb hby at_30)
    refine Ends.go st12 ?_
    show Ends p e below s T12 (mkF m 33 #[.val (.int p0), .val (.int (2 : Int32)), .unset, .unset] [(.ref w_DEAD_LETTER)]) _ _ _
    refine Ends.go (fun _ k => XS.astoreN X12.here hx rfl (hb hby at_33) rfl rfl (l' := #[.val (.int p0), .val (.int (2 : Int32)), .val (.ref w_DEAD_LETTER), .unset]) rfl k) ?_
    show Ends p e below s T12 (mkF m 34 #[.val (.int p0), .val (.int (2 : Int32)), .val (.ref w_DEAD_LETTER), .unset] []) _ _ _
    refine Ends.go (fun _ k => XS.aloadN X12.here hx rfl (hb hby at_34) rfl rfl k) ?_
    show Ends p e below s T12 (mkF m 35 #[.val (.int p0), .val (.int (2 : Int32)), .val (.ref w_DEAD_LETTER), .unset] [(.ref w_DEAD_LETTER)]) _ _ _
    obtain ⟨_, _, ⟨T13, L13, k13, n13⟩, -, X13, ⟨Lc13, hQ13, l13, y13, z13⟩, st13⟩ := Jvm.LawKit.callS X12 hx (y := (⟨"com/example/keryx/keryx/core/DeliveryUpdate", "ended", "(Lcom/example/keryx/keryx/core/DeliveryStatus;)Lcom/example/keryx/keryx/core/DeliveryUpdate;"⟩ : MethodName)) hown (mvT hZ (hw _ (List.mem_of_getElem? (i := 4) rfl))) (mvT hZ (hw _ (List.mem_of_getElem? (i := 5) rfl))) (mvT hZ (hw _ (List.mem_of_getElem? (i := 6) rfl))) (mvT hZ (hw _ (List.mem_of_getElem? (i := 7) rfl))) (by decide) (own_backOf (W := 0) (rmE l Z a0 hw [] n0 h0 O0 w_DEAD_LETTER E_DEAD_LETTER F_terminal_DEAD_LETTER) hZ (hw _ (List.mem_of_getElem? (i := 7) rfl)) (hw _ (List.mem_of_getElem? (i := 6) rfl)) (by decide) (by decide)) (g := (mkF m 35 #[.val (.int p0), .val (.int (2 : Int32)), .val (.ref w_DEAD_LETTER), .unset] [(.ref w_DEAD_LETTER)])) rfl (by rw [hml]; rfl) (argsL := [(.ref w_DEAD_LETTER)]) (rest := []) (lenOf pd0_0 rfl) rfl (by show 2 * 0 + _ ≤ _; exact Nat.le_of_eq rfl) (hb hby at_35) (fun _ _ => ⟨rfl, e12, (by decide : 0 + 1 ≤ _), (by decide : 0 + 2 ≤ _)⟩)
    dsimp only [Pt.U, Pt.locs, Pt.cells, Pt.slots] at X13 l13 y13 z13 st13 hQ13
    subst l13 y13 z13
    obtain ⟨b13, rfl, N13q, hb13, K13c, Eq13, Fs13, Fn13⟩ := hQ13
    have N13 := Fr.app N0 N13q
    refine Ends.go st13 ?_
    have g_b13 : n0 ≤ b13 := Nat.le_trans (own_old_le O0) hb13
    have sz_b13 : h0.size ≤ b13 := Nat.le_trans K0.1 hb13
    obtain ⟨h13, e13⟩ : ∃ z, T13.heap = z := ⟨_, rfl⟩
    rw [e13] at K13c Eq13 Fs13 Fn13
    have K13 := K0.trans K13c all0
    have O13 := O0.keep K13c all0
    show Ends p e below s T13 (mkF m 38 #[.val (.int p0), .val (.int (2 : Int32)), .val (.ref w_DEAD_LETTER), .unset] [(.ref b13)]) _ _ _
    refine Ends.go (fun _ k => XS.astoreN X13.here hx rfl (hb hby at_38) rfl rfl (l' := #[.val (.int p0), .val (.int (2 : Int32)), .val (.ref w_DEAD_LETTER), .val (.ref b13)]) rfl k) ?_
    show Ends p e below s T13 (mkF m 39 #[.val (.int p0), .val (.int (2 : Int32)), .val (.ref w_DEAD_LETTER), .val (.ref b13)] []) _ _ _
    refine Ends.go (fun _ k => XS.aloadN X13.here hx rfl (hb hby at_39) rfl rfl k) ?_
    show Ends p e below s T13 (mkF m 40 #[.val (.int p0), .val (.int (2 : Int32)), .val (.ref w_DEAD_LETTER), .val (.ref b13)] [(.ref b13)]) _ _ _
    obtain ⟨cq14, kq14, q14a, q14b, q14c⟩ := isOf hZ e13 Eq13
    obtain ⟨_, _, ⟨T14, L14, k14, n14⟩, -, X14, ⟨Lc14, hQ14, l14, y14, z14⟩, st14⟩ := X13.virtualBack hx (y := (⟨"com/example/keryx/keryx/core/DeliveryUpdate", "status", "()Lcom/example/keryx/keryx/core/DeliveryStatus;"⟩ : MethodName)) (z := (⟨"com/example/keryx/keryx/core/DeliveryUpdate", "status", "()Lcom/example/keryx/keryx/core/DeliveryStatus;"⟩ : MethodName)) hown (mvT hZ (hw _ (List.mem_of_getElem? (i := 27) rfl))) (mvT hZ (hw _ (List.mem_of_getElem? (i := 28) rfl))) (notFace_of_selects (args := #[]) (mvT hZ (hw _ (List.mem_of_getElem? (i := 30) rfl)))) (mvT hZ (hw _ (List.mem_of_getElem? (i := 30) rfl))) (mvT hZ (hw _ (List.mem_of_getElem? (i := 29) rfl))) (by decide) (own_backOf (W := 0) (rmS l Z a0 hw [] n0 h13 O13 b13 w_DEAD_LETTER Fs13) hZ (hw _ (List.mem_of_getElem? (i := 31) rfl)) (hw _ (List.mem_of_getElem? (i := 6) rfl)) (by decide) (by decide)) q14a q14c (g := (mkF m 40 #[.val (.int p0), .val (.int (2 : Int32)), .val (.ref w_DEAD_LETTER), .val (.ref b13)] [(.ref b13)])) rfl (by rw [hml]; rfl) (Steps.refl _) (argsL := []) (rest := []) (lenOf pd0_1 rfl) rfl (by show 2 * 0 + _ ≤ _; exact Nat.le_of_eq rfl) (hb hby at_40) (fun _ _ => ⟨rfl, e13, (by decide : 1 + 0 ≤ _), (by decide : 2 + 0 ≤ _)⟩)
    dsimp only [Pt.U, Pt.locs, Pt.cells, Pt.slots] at X14 l14 y14 z14 st14 hQ14
    subst l14 y14 z14
    obtain ⟨rfl, N14q, e14q⟩ := hQ14
    have N14 := Fr.app N13 N14q
    refine Ends.go (fun _ k => st14.trans k) ?_
    show Ends p e below s T14 (mkF m 43 #[.val (.int p0), .val (.int (2 : Int32)), .val (.ref w_DEAD_LETTER), .val (.ref b13)] [(.ref w_DEAD_LETTER)]) _ _ _
    refine Ends.go (fun _ k => XS.aloadN X14.here hx rfl (hb hby at_43) rfl rfl k) ?_
    show Ends p e below s T14 (mkF m 44 #[.val (.int p0), .val (.int (2 : Int32)), .val (.ref w_DEAD_LETTER), .val (.ref b13)] [(.ref w_DEAD_LETTER), (.ref w_DEAD_LETTER)]) _ _ _
    refine Ends.go (fun _ k => Jvm.RoadKit.acmp (g := (mkF m 44 #[.val (.int p0), .val (.int (2 : Int32)), .val (.ref w_DEAD_LETTER), .val (.ref b13)] [(.ref w_DEAD_LETTER), (.ref w_DEAD_LETTER)])) X14 hx rfl rfl rfl (pc0 := 44) (pc' := 47) (same := true) rfl (hb hby at_44) rfl (decide_eq_true rfl) (by decide) (by decide) k) ?_
    show Ends p e below s T14 (mkF m 47 #[.val (.int p0), .val (.int (2 : Int32)), .val (.ref w_DEAD_LETTER), .val (.ref b13)] []) _ _ _
    refine Ends.go (fun _ k => XS.aloadN X14.here hx rfl (hb hby at_47) rfl rfl k) ?_
    show Ends p e below s T14 (mkF m 48 #[.val (.int p0), .val (.int (2 : Int32)), .val (.ref w_DEAD_LETTER), .val (.ref b13)] [(.ref b13)]) _ _ _
    obtain ⟨cq15, kq15, q15a, q15b, q15c⟩ := isOf hZ e14q Eq13
    obtain ⟨_, _, ⟨T15, L15, k15, n15⟩, -, X15, ⟨Lc15, hQ15, l15, y15, z15⟩, st15⟩ := X14.virtualBack hx (y := (⟨"com/example/keryx/keryx/core/DeliveryUpdate", "nextAttemptAt", "()Ljava/util/Optional;"⟩ : MethodName)) (z := (⟨"com/example/keryx/keryx/core/DeliveryUpdate", "nextAttemptAt", "()Ljava/util/Optional;"⟩ : MethodName)) hown (mvT hZ (hw _ (List.mem_of_getElem? (i := 32) rfl))) (mvT hZ (hw _ (List.mem_of_getElem? (i := 33) rfl))) (notFace_of_selects (args := #[]) (mvT hZ (hw _ (List.mem_of_getElem? (i := 35) rfl)))) (mvT hZ (hw _ (List.mem_of_getElem? (i := 35) rfl))) (mvT hZ (hw _ (List.mem_of_getElem? (i := 34) rfl))) (by decide) (own_backOf (W := 0) (rmN l Z a0 hw [] n0 h13 O13 b13 w_SUCCEEDED w_DEAD_LETTER w_FAILED w_EMPTY FF0 Fn13) hZ (hw _ (List.mem_of_getElem? (i := 36) rfl)) (hw _ (List.mem_of_getElem? (i := 6) rfl)) (by decide) (by decide)) q15a q15c (g := (mkF m 48 #[.val (.int p0), .val (.int (2 : Int32)), .val (.ref w_DEAD_LETTER), .val (.ref b13)] [(.ref b13)])) rfl (by rw [hml]; rfl) (Steps.refl _) (argsL := []) (rest := []) (lenOf pd0_2 rfl) rfl (by show 2 * 0 + _ ≤ _; exact Nat.le_of_eq rfl) (hb hby at_48) (fun _ _ => ⟨rfl, e14q, (by decide : 1 + 0 ≤ _), (by decide : 2 + 0 ≤ _)⟩)
    dsimp only [Pt.U, Pt.locs, Pt.cells, Pt.slots] at X15 l15 y15 z15 st15 hQ15
    subst l15 y15 z15
    obtain ⟨rfl, N15q, e15q⟩ := hQ15
    have N15 := Fr.app N14 N15q
    refine Ends.go (fun _ k => st15.trans k) ?_
    show Ends p e below s T15 (mkF m 51 #[.val (.int p0), .val (.int (2 : Int32)), .val (.ref w_DEAD_LETTER), .val (.ref b13)] [(.ref w_EMPTY)]) _ _ _
    obtain ⟨cq16, kq16, q16a, q16b, q16c⟩ := isOf hZ e15q (E_EMPTY.ext O13.2)
    obtain ⟨_, _, ⟨T16, L16, k16, n16⟩, -, X16, ⟨Lc16, hQ16, l16, y16, z16⟩, st16⟩ := X15.virtualBack hx (y := (⟨"java/util/Optional", "isPresent", "()Z"⟩ : MethodName)) (z := (⟨"java/util/Optional", "isPresent", "()Z"⟩ : MethodName)) hown (mvT hZ (hw _ (List.mem_of_getElem? (i := 42) rfl))) (mvT hZ (hw _ (List.mem_of_getElem? (i := 43) rfl))) (notFace_of_selects (args := #[]) (mvT hZ (hw _ (List.mem_of_getElem? (i := 45) rfl)))) (mvT hZ (hw _ (List.mem_of_getElem? (i := 45) rfl))) (mvT hZ (hw _ (List.mem_of_getElem? (i := 44) rfl))) (by decide) (own_backOf (W := 0) (rmQ l Z a0 hw [] n0 h13 O13 w_EMPTY F_value_EMPTY) hZ (hw _ (List.mem_of_getElem? (i := 46) rfl)) (hw _ (List.mem_of_getElem? (i := 39) rfl)) (by decide) (by decide)) q16a q16c (g := (mkF m 51 #[.val (.int p0), .val (.int (2 : Int32)), .val (.ref w_DEAD_LETTER), .val (.ref b13)] [(.ref w_EMPTY)])) rfl (by rw [hml]; rfl) (Steps.refl _) (argsL := []) (rest := []) (lenOf pd0_3 rfl) rfl (by show 2 * 0 + _ ≤ _; exact Nat.le_of_eq rfl) (hb hby at_51) (fun _ _ => ⟨rfl, e15q, (by decide : 1 + 0 ≤ _), (by decide : 2 + 0 ≤ _)⟩)
    dsimp only [Pt.U, Pt.locs, Pt.cells, Pt.slots] at X16 l16 y16 z16 st16 hQ16
    subst l16 y16 z16
    obtain ⟨rfl, N16q, e16q⟩ := hQ16
    have N16 := Fr.app N15 N16q
    refine Ends.go (fun _ k => st16.trans k) ?_
    show Ends p e below s T16 (mkF m 54 #[.val (.int p0), .val (.int (2 : Int32)), .val (.ref w_DEAD_LETTER), .val (.ref b13)] [(.int (0 : Int32))]) _ _ _
    refine Ends.go (fun _ k => XS.ifNo X16.here hx rfl (hb hby at_54) rfl ((if0 _ _).trans (teq (by decide : (0 : Int32) = (0 : Int32))).2) k) ?_
    show Ends p e below s T16 (mkF m 57 #[.val (.int p0), .val (.int (2 : Int32)), .val (.ref w_DEAD_LETTER), .val (.ref b13)] []) _ _ _
    refine Ends.go (fun _ k => XS.iconst X16.here hx rfl (hb hby at_57) k) ?_
    show Ends p e below s T16 (mkF m 58 #[.val (.int p0), .val (.int (2 : Int32)), .val (.ref w_DEAD_LETTER), .val (.ref b13)] [(.int (1 : Int32))]) _ _ _
    refine Ends.go (fun _ k => XS.goto X16.here hx rfl (pc0 := 58) (pc' := 62) rfl (hb hby at_58) (by decide) (by decide) k) ?_
    show Ends p e below s T16 (mkF m 62 #[.val (.int p0), .val (.int (2 : Int32)), .val (.ref w_DEAD_LETTER), .val (.ref b13)] [(.int (1 : Int32))]) _ _ _
    refine Ends.retZ X16 hx Bd.notSynchronized (t := .boolean) Bd.returns (by simp) (hb hby at_62) (by decide) (by decide) ?_
    exact ⟨rfl, N16⟩
set_option maxRecDepth 65536 in
set_option maxHeartbeats 40000000 in
theorem comes_1 {Post : Tables → Env → Array Value → State → Outcome → State → Prop} (hpost : ∀ tb e args s v u, (limb_1_1.after args s (.returned v) u = true ∧ limb_1_2.after args s (.returned v) u = true ∧ True) → FrameEnd s (.returned v) u (Jvm.fieldLocs frame_1_writes args s ++ Jvm.arrayLocs frame_1_arrays args s ++ Jvm.staticLocs frame_1_statics s) 16 128 → Post tb e args s (.returned v) u) :
    ArmFor flags0 classFile x code maxLocals ret World_1 tables_1 room_1 Calls_1 rest_1 Pre_1 Post := by
  intro l hfl _ _ p e ha hc hk s m args below hf hA hF happ hP
  obtain ⟨hcalls, hrest, hpre⟩ := hP
  obtain ⟨-, -, -, hnamed, -, -, -, hat⟩ := (Spec.applies_iff hf).mp happ
  obtain ⟨hg, hn⟩ := and_e (Cond.before_iff.mp (show (Jvm.Cond.and given_1 narrow_1).before args s = true from hpre))
  obtain ⟨g0a, g0b⟩ := and_e hg
  obtain ⟨w0, rfl⟩ : ∃ w0 : Value, args = #[w0] := by
    have hs : args.size = 1 := by simpa [Cond.value, given_1] using g0a
    obtain ⟨L⟩ := args
    match L, hs with
    | [w0], _ => exact ⟨w0, rfl⟩
  have hw := fun d (hd : d ∈ tables_1) => atoms_spec (ws := Jvm.Cond.code x code maxLocals ret :: tables_1) hat d (List.mem_cons_of_mem _ hd)
  have hfit : Fit s := fun {y c} hc i hi => by
    obtain ⟨ha, rfl⟩ := Array.getElem?_eq_some_iff.mp hc
    have q := List.all_eq_true.mp ((Array.all_eq_true_iff_forall_mem.mp hF) _ (Array.getElem_mem ha)) i (List.mem_range.mpr hi)
    simpa [Array.getElem?_eq_getElem hi] using q
  obtain ⟨hsets, hown0⟩ := atoms_of _ (rest_1_c_eq ▸ (show rest_1_c.before _ s = true from hrest))
  have hr0 := Cond.before_iff.mp hown0
  obtain ⟨i0, ei0⟩ := is_v g0b
  obtain rfl : w0 = (.int i0) := Option.some.inj ei0
  obtain ⟨n0a, n0b⟩ := and_e hn
  obtain ⟨w_SUCCEEDED, ev_SUCCEEDED⟩ := exa_v n0a
  obtain ⟨n1a, n1b⟩ := and_e n0b
  obtain ⟨n2a, n2b⟩ := and_e n1b
  obtain ⟨w_DEAD_LETTER, ev_DEAD_LETTER⟩ := exa_v n2a
  obtain ⟨n3a, n3b⟩ := and_e n2b
  obtain ⟨n4a, n4b⟩ := and_e n3b
  obtain ⟨w_FAILED, ev_FAILED⟩ := exa_v n4a
  obtain ⟨w_EMPTY, ev_EMPTY⟩ := exa_v (Cond.before_iff.mp (hsets _ (List.mem_of_getElem? (i := 2) rfl)))
  obtain ⟨n, o, h1, h2, h3, _, L, rfl, ⟨rfl, N⟩, hq⟩ := rm0 l s _ hw tables_1 s.heap.size s.heap (Old.start s) i0 w_SUCCEEDED w_DEAD_LETTER w_FAILED w_EMPTY ⟨Sta.start ev_SUCCEEDED (Or.inr ⟨(hw _ (List.mem_of_getElem? (i := 2) rfl)), (hw _ (List.mem_of_getElem? (i := 3) rfl))⟩), Exa.start ev_SUCCEEDED n0a, Fld.start ((fld_at ev_SUCCEEDED).symm.trans (own_eqI n1a)), Sta.start ev_DEAD_LETTER (Or.inr ⟨(hw _ (List.mem_of_getElem? (i := 2) rfl)), (hw _ (List.mem_of_getElem? (i := 50) rfl))⟩), Exa.start ev_DEAD_LETTER n2a, Fld.start ((fld_at ev_DEAD_LETTER).symm.trans (own_eqI n3a)), Sta.start ev_FAILED (Or.inr ⟨(hw _ (List.mem_of_getElem? (i := 2) rfl)), (hw _ (List.mem_of_getElem? (i := 52) rfl))⟩), Exa.start ev_FAILED n4a, Fld.start ((fld_at ev_FAILED).symm.trans (own_eqI n4b)), Sta.start ev_EMPTY (Or.inl (hsets _ (List.mem_of_getElem? (i := 1) rfl))), Exa.start ev_EMPTY (Cond.before_iff.mp (hsets _ (List.mem_of_getElem? (i := 2) rfl))), Fld.start ((fld_at ev_EMPTY).symm.trans (null_v (Cond.before_iff.mp (hsets _ (List.mem_of_getElem? (i := 3) rfl)))))⟩ p e ha hc hk s m _ below hf ((Spec.applies_iff_loose hf).mp happ).1 ⟨rfl, State.Warmed39.refl s, rfl⟩ trivial
  refine ⟨n, _, h1, h2, h3, hpost _ _ _ _ _ _ ⟨Cond.after_iff.mpr rfl, Cond.after_iff.mpr (eq_i res_at (Term.int_eval (1)) rfl), trivial⟩ ⟨hq.1, hq.2.1, (hq.2.2.sift fun y hy => Or.inr (N y hy)).mono (by decide) (by decide)⟩⟩
theorem main_1_1 : Claimed_1_1 := comes_1 fun _ _ _ _ _ _ h hF => ⟨h.1, hF⟩
theorem main_1_2 : Claimed_1_2 := comes_1 fun _ _ _ _ _ _ h hF => ⟨h.2.1, hF⟩
end Jvm.Pilot.@@N@@
namespace Jvm.Pilot.@@N@@
open Jvm Jvm.ClassFile Sem Op Lib Jvm.Free Jvm.Stand Jvm.Pilot.@@N@@.Jvm.D
/-! MADE BY PROGRAM (witnessworld.py) out of the Statement's table words and the real class files: 15 classes; the members and pool entries that the words name. The judged class is class 1, her method 1. -/
namespace start1
open Jvm.ClassFile
def u (s : String) : CpInfo := .utf8 (stringToUtf16 s)
/-- a pool by its gaps: so many unusable entries, then the entry; so many at the end -/
def gap : Nat → List CpInfo → List CpInfo
  | 0, r => r
  | n + 1, r => .unusable :: gap n r
def poolList (es : List (Nat × CpInfo)) (last : Nat) : List CpInfo := es.foldr (fun e r => gap e.1 (e.2 :: r)) (gap last [])
def pool (es : List (Nat × CpInfo)) (last : Nat) : Array CpInfo := ⟨poolList es last⟩
def fileOf (pool : Array CpInfo) (this : Nat) (attrs : Array Attribute := #[]) (ms : Array MethodInfo := #[]) (fl : Nat := 33) (sup : Nat := 0) (ifs : Array Nat := #[]) (fds : Array FieldInfo := #[]) : ClassFile where
  minorVersion := 0
  majorVersion := 65
  constantPool := pool
  accessFlags := fl
  thisClass := this
  superClass := sup
  interfaces := ifs
  fields := fds
  methods := ms
  attributes := attrs
def plain (name : String) (sup : Option ClassId) : Class where
  name := name
  kind := .ordinary
  loader := none
  accessFlags := 33
  super := sup
  interfaces := #[]
  cf := none
  fields := #[]
  methods := #[]
  instanceTypes := #[]
  staticTypes := #[]
  resolved := #[]
  callSites := []
  init := .initialized
  statics := none
  mirror := none

def pool0 : Array CpInfo := pool [(5, u "<init>"), (0, u "()V"), (1, .class_ 10), (1, u "java/lang/Object")] 113

def k0c0 : Code := { maxStack := 0, maxLocals := 1, code := object_method_1_code, exceptionTable := #[], attributes := #[] }
def k0m0 : Method := { name := "<init>", desc := "()V", sig := { parameters := [], returnType := none }, accessFlags := 1, code := some k0c0 }
/-- java/lang/Object -/
def k0 : Class := { plain "java/lang/Object" none with
  accessFlags := 33
  interfaces := #[]
  cf := some (fileOf pool0 8 #[] #[{ accessFlags := 1, nameIndex := 5, descriptorIndex := 6, attributes := #[] }] 33 0 #[] #[])
  fields := #[]
  methods := #[k0m0]
  instanceTypes := #[]
  staticTypes := #[]
  resolved := Array.replicate 124 none
  statics := none }

def pool1 : Array CpInfo := pool [(2, .class_ 4), (1, u "java/lang/Object"), (0, u "<init>"), (0, u "()V"), (0, .integer 2147483647), (0, .fieldref 9 10), (0, .class_ 11), (0, .nameAndType 12 13), (0, u "com/example/keryx/keryx/core/DeliveryStatus"), (0, u "SUCCEEDED"), (0, u "Lcom/example/keryx/keryx/core/DeliveryStatus;"), (0, .fieldref 9 15), (0, .nameAndType 16 13), (0, u "FAILED"), (0, .fieldref 9 18), (0, .nameAndType 19 13), (0, u "DEAD_LETTER"), (0, .methodref 21 22), (0, .class_ 23), (0, .nameAndType 24 25), (0, u "com/example/keryx/keryx/core/DeliveryUpdate"), (0, u "ended"), (0, u "(Lcom/example/keryx/keryx/core/DeliveryStatus;)Lcom/example/keryx/keryx/core/DeliveryUpdate;"), (0, .methodref 21 27), (0, .nameAndType 28 29), (0, u "status"), (0, u "()Lcom/example/keryx/keryx/core/DeliveryStatus;"), (0, .methodref 21 31), (0, .nameAndType 32 33), (0, u "nextAttemptAt"), (0, u "()Ljava/util/Optional;"), (0, .methodref 35 36), (0, .class_ 37), (0, .nameAndType 38 39), (0, u "java/util/Optional"), (0, u "isPresent"), (0, u "()Z"), (0, .class_ 41), (0, u "com/example/keryx/keryx/core/DeliveryUpdateEndedPinLaw"), (2, u "law"), (0, u "(I)Z")] 3

def k1m0 : Method := { name := "<init>", desc := "()V", sig := { parameters := [], returnType := none }, accessFlags := 1, code := none }
def k1c1 : Code := { maxStack := 2, maxLocals := 4, code := code, exceptionTable := #[], attributes := #[] }
def k1m1 : Method := { name := "law", desc := "(I)Z", sig := { parameters := [.int], returnType := some .boolean }, accessFlags := 9, code := some k1c1 }
/-- com/example/keryx/keryx/core/DeliveryUpdateEndedPinLaw -/
def k1 : Class := { plain "com/example/keryx/keryx/core/DeliveryUpdateEndedPinLaw" (some 0) with
  accessFlags := 49
  interfaces := #[]
  cf := some (fileOf pool1 40 #[] #[{ accessFlags := 1, nameIndex := 5, descriptorIndex := 6, attributes := #[] }, { accessFlags := 9, nameIndex := 44, descriptorIndex := 45, attributes := #[] }] 49 2 #[] #[])
  fields := #[]
  methods := #[k1m0, k1m1]
  instanceTypes := #[]
  staticTypes := #[]
  resolved := Array.replicate 49 none
  statics := none }

def pool2 : Array CpInfo := pool [(1, .class_ 2), (0, u "java/lang/constant/Constable"), (0, .class_ 4), (0, u "java/lang/Object")] 6

/-- java/lang/constant/Constable -/
def k2 : Class := { plain "java/lang/constant/Constable" (some 0) with
  accessFlags := 1537
  interfaces := #[]
  cf := some (fileOf pool2 1 #[] #[] 1537 3 #[] #[])
  fields := #[]
  methods := #[]
  instanceTypes := #[]
  staticTypes := #[]
  resolved := Array.replicate 11 none
  statics := none }

def pool3 : Array CpInfo := pool [(1, .class_ 2), (0, u "java/lang/Comparable"), (0, .class_ 4), (0, u "java/lang/Object")] 7

/-- java/lang/Comparable -/
def k3 : Class := { plain "java/lang/Comparable" (some 0) with
  accessFlags := 1537
  interfaces := #[]
  cf := some (fileOf pool3 1 #[] #[] 1537 3 #[] #[])
  fields := #[]
  methods := #[]
  instanceTypes := #[]
  staticTypes := #[]
  resolved := Array.replicate 12 none
  statics := none }

def pool4 : Array CpInfo := pool [(1, .class_ 2), (0, u "java/io/Serializable"), (0, .class_ 4), (0, u "java/lang/Object")] 2

/-- java/io/Serializable -/
def k4 : Class := { plain "java/io/Serializable" (some 0) with
  accessFlags := 1537
  interfaces := #[]
  cf := some (fileOf pool4 1 #[] #[] 1537 3 #[] #[])
  fields := #[]
  methods := #[]
  instanceTypes := #[]
  staticTypes := #[]
  resolved := Array.replicate 7 none
  statics := none }

def pool5 : Array CpInfo := pool [(2, .class_ 4), (1, u "java/lang/Enum"), (0, u "name"), (0, u "Ljava/lang/String;"), (2, u "ordinal"), (0, u "I"), (1, .class_ 14), (1, u "java/lang/Object"), (4, u "hash"), (86, .class_ 108), (1, u "java/lang/Enum$EnumDesc"), (2, .class_ 112), (0, u "java/lang/constant/Constable"), (0, .class_ 114), (0, u "java/lang/Comparable"), (0, .class_ 116), (0, u "java/io/Serializable")] 87

/-- java/lang/Enum -/
def k5 : Class := { plain "java/lang/Enum" (some 0) with
  accessFlags := 1057
  interfaces := #[2, 3, 4]
  cf := some (fileOf pool5 2 #[.nestMembers #[106]] #[] 1057 12 #[111, 113, 115] #[{ accessFlags := 18, nameIndex := 5, descriptorIndex := 6, attributes := #[] }, { accessFlags := 18, nameIndex := 9, descriptorIndex := 10, attributes := #[] }, { accessFlags := 2, nameIndex := 19, descriptorIndex := 10, attributes := #[] }])
  fields := #[{ name := "name", type := (.object "java/lang/String"), accessFlags := 18, slot := 0, constantValue := 0 }, { name := "ordinal", type := .int, accessFlags := 18, slot := 1, constantValue := 0 }, { name := "hash", type := .int, accessFlags := 2, slot := 2, constantValue := 0 }]
  methods := #[]
  instanceTypes := #[(.object "java/lang/String"), .int, .int]
  staticTypes := #[]
  resolved := Array.replicate 204 none
  statics := none }

def pool6 : Array CpInfo := pool [(1, .class_ 2), (0, u "com/example/keryx/keryx/core/WireNamed"), (0, .class_ 4), (0, u "java/lang/Object")] 4

/-- com/example/keryx/keryx/core/WireNamed -/
def k6 : Class := { plain "com/example/keryx/keryx/core/WireNamed" (some 0) with
  accessFlags := 1536
  interfaces := #[]
  cf := some (fileOf pool6 1 #[] #[] 1536 3 #[] #[])
  fields := #[]
  methods := #[]
  instanceTypes := #[]
  staticTypes := #[]
  resolved := Array.replicate 9 none
  statics := none }

def pool7 : Array CpInfo := pool [(1, .class_ 2), (0, u "com/example/keryx/keryx/core/DeliveryStatus"), (2, u "PENDING"), (0, u "Lcom/example/keryx/keryx/core/DeliveryStatus;"), (2, u "IN_FLIGHT"), (2, u "RETRY_WAIT"), (2, u "SUCCEEDED"), (2, u "FAILED"), (2, u "DEAD_LETTER"), (2, u "$VALUES"), (0, u "[Lcom/example/keryx/keryx/core/DeliveryStatus;"), (6, .class_ 34), (1, u "java/lang/Enum"), (8, u "wireName"), (0, u "Ljava/lang/String;"), (0, .fieldref 1 46), (0, .nameAndType 47 48), (0, u "terminal"), (0, u "Z"), (2, u "WIRE_NAMES"), (0, u "Lcom/example/keryx/keryx/core/WireNames;"), (37, .class_ 91), (0, u "com/example/keryx/keryx/core/WireNamed"), (8, u "isTerminal"), (0, u "()Z")] 9

def k7c0 : Code := { maxStack := 1, maxLocals := 1, code := prog_5_method_5_code, exceptionTable := #[], attributes := #[] }
def k7m0 : Method := { name := "isTerminal", desc := "()Z", sig := { parameters := [], returnType := some .boolean }, accessFlags := 1, code := some k7c0 }
/-- com/example/keryx/keryx/core/DeliveryStatus -/
def k7 : Class := { plain "com/example/keryx/keryx/core/DeliveryStatus" (some 5) with
  accessFlags := 16433
  interfaces := #[6]
  cf := some (fileOf pool7 1 #[] #[{ accessFlags := 1, nameIndex := 100, descriptorIndex := 101, attributes := #[] }] 16433 32 #[90] #[{ accessFlags := 16409, nameIndex := 5, descriptorIndex := 6, attributes := #[] }, { accessFlags := 16409, nameIndex := 9, descriptorIndex := 6, attributes := #[] }, { accessFlags := 16409, nameIndex := 12, descriptorIndex := 6, attributes := #[] }, { accessFlags := 16409, nameIndex := 15, descriptorIndex := 6, attributes := #[] }, { accessFlags := 16409, nameIndex := 18, descriptorIndex := 6, attributes := #[] }, { accessFlags := 16409, nameIndex := 21, descriptorIndex := 6, attributes := #[] }, { accessFlags := 26, nameIndex := 51, descriptorIndex := 52, attributes := #[] }, { accessFlags := 18, nameIndex := 43, descriptorIndex := 44, attributes := #[] }, { accessFlags := 18, nameIndex := 47, descriptorIndex := 48, attributes := #[] }, { accessFlags := 4122, nameIndex := 24, descriptorIndex := 25, attributes := #[] }])
  fields := #[{ name := "PENDING", type := (.object "com/example/keryx/keryx/core/DeliveryStatus"), accessFlags := 16409, slot := 0, constantValue := 0 }, { name := "IN_FLIGHT", type := (.object "com/example/keryx/keryx/core/DeliveryStatus"), accessFlags := 16409, slot := 1, constantValue := 0 }, { name := "RETRY_WAIT", type := (.object "com/example/keryx/keryx/core/DeliveryStatus"), accessFlags := 16409, slot := 2, constantValue := 0 }, { name := "SUCCEEDED", type := (.object "com/example/keryx/keryx/core/DeliveryStatus"), accessFlags := 16409, slot := 3, constantValue := 0 }, { name := "FAILED", type := (.object "com/example/keryx/keryx/core/DeliveryStatus"), accessFlags := 16409, slot := 4, constantValue := 0 }, { name := "DEAD_LETTER", type := (.object "com/example/keryx/keryx/core/DeliveryStatus"), accessFlags := 16409, slot := 5, constantValue := 0 }, { name := "WIRE_NAMES", type := (.object "com/example/keryx/keryx/core/WireNames"), accessFlags := 26, slot := 6, constantValue := 0 }, { name := "wireName", type := (.object "java/lang/String"), accessFlags := 18, slot := 3, constantValue := 0 }, { name := "terminal", type := .boolean, accessFlags := 18, slot := 4, constantValue := 0 }, { name := "$VALUES", type := (.array (.object "com/example/keryx/keryx/core/DeliveryStatus")), accessFlags := 4122, slot := 7, constantValue := 0 }]
  methods := #[k7m0]
  instanceTypes := #[(.object "java/lang/String"), .int, .int, (.object "java/lang/String"), .boolean]
  staticTypes := #[(.object "com/example/keryx/keryx/core/DeliveryStatus"), (.object "com/example/keryx/keryx/core/DeliveryStatus"), (.object "com/example/keryx/keryx/core/DeliveryStatus"), (.object "com/example/keryx/keryx/core/DeliveryStatus"), (.object "com/example/keryx/keryx/core/DeliveryStatus"), (.object "com/example/keryx/keryx/core/DeliveryStatus"), (.object "com/example/keryx/keryx/core/WireNames"), (.array (.object "com/example/keryx/keryx/core/DeliveryStatus"))]
  resolved := Array.replicate 111 none
  statics := some 0 }

def pool8 : Array CpInfo := pool [(1, .methodref 2 3), (0, .class_ 4), (0, .nameAndType 5 6), (0, u "java/lang/Object"), (0, u "<init>"), (0, u "()V"), (0, .fieldref 8 9), (0, .class_ 10), (0, .nameAndType 11 12), (0, u "com/example/keryx/keryx/core/DeliveryUpdate"), (0, u "status"), (0, u "Lcom/example/keryx/keryx/core/DeliveryStatus;"), (0, .fieldref 8 14), (0, .nameAndType 15 16), (0, u "nextAttemptAt"), (0, u "Ljava/time/Instant;"), (0, .methodref 18 19), (0, .class_ 20), (0, .nameAndType 21 22), (0, u "com/example/keryx/keryx/core/DeliveryStatus"), (0, u "isTerminal"), (0, u "()Z"), (15, .methodref 8 39), (0, .nameAndType 5 40), (0, u "(Lcom/example/keryx/keryx/core/DeliveryStatus;Ljava/time/Instant;)V"), (12, .methodref 54 55), (0, .class_ 56), (0, .nameAndType 57 58), (0, u "java/util/Optional"), (0, u "ofNullable"), (0, u "(Ljava/lang/Object;)Ljava/util/Optional;"), (2, u "ended"), (0, u "(Lcom/example/keryx/keryx/core/DeliveryStatus;)Lcom/example/keryx/keryx/core/DeliveryUpdate;"), (3, u "()Lcom/example/keryx/keryx/core/DeliveryStatus;"), (0, u "()Ljava/util/Optional;")] 19

def k8c0 : Code := { maxStack := 2, maxLocals := 3, code := prog_6_method_1_code, exceptionTable := #[], attributes := #[] }
def k8m0 : Method := { name := "<init>", desc := "(Lcom/example/keryx/keryx/core/DeliveryStatus;Ljava/time/Instant;)V", sig := { parameters := [(.object "com/example/keryx/keryx/core/DeliveryStatus"), (.object "java/time/Instant")], returnType := none }, accessFlags := 2, code := some k8c0 }
def k8c1 : Code := { maxStack := 4, maxLocals := 1, code := prog_6_method_2_code, exceptionTable := #[], attributes := #[] }
def k8m1 : Method := { name := "ended", desc := "(Lcom/example/keryx/keryx/core/DeliveryStatus;)Lcom/example/keryx/keryx/core/DeliveryUpdate;", sig := { parameters := [(.object "com/example/keryx/keryx/core/DeliveryStatus")], returnType := some (.object "com/example/keryx/keryx/core/DeliveryUpdate") }, accessFlags := 9, code := some k8c1 }
def k8c2 : Code := { maxStack := 1, maxLocals := 1, code := prog_6_method_4_code, exceptionTable := #[], attributes := #[] }
def k8m2 : Method := { name := "status", desc := "()Lcom/example/keryx/keryx/core/DeliveryStatus;", sig := { parameters := [], returnType := some (.object "com/example/keryx/keryx/core/DeliveryStatus") }, accessFlags := 1, code := some k8c2 }
def k8c3 : Code := { maxStack := 1, maxLocals := 1, code := prog_6_method_5_code, exceptionTable := #[], attributes := #[] }
def k8m3 : Method := { name := "nextAttemptAt", desc := "()Ljava/util/Optional;", sig := { parameters := [], returnType := some (.object "java/util/Optional") }, accessFlags := 1, code := some k8c3 }
/-- com/example/keryx/keryx/core/DeliveryUpdate -/
def k8 : Class := { plain "com/example/keryx/keryx/core/DeliveryUpdate" (some 0) with
  accessFlags := 49
  interfaces := #[]
  cf := some (fileOf pool8 8 #[] #[{ accessFlags := 2, nameIndex := 5, descriptorIndex := 40, attributes := #[] }, { accessFlags := 9, nameIndex := 61, descriptorIndex := 62, attributes := #[] }, { accessFlags := 1, nameIndex := 11, descriptorIndex := 66, attributes := #[] }, { accessFlags := 1, nameIndex := 15, descriptorIndex := 67, attributes := #[] }] 49 2 #[] #[{ accessFlags := 18, nameIndex := 11, descriptorIndex := 12, attributes := #[] }, { accessFlags := 18, nameIndex := 15, descriptorIndex := 16, attributes := #[] }])
  fields := #[{ name := "status", type := (.object "com/example/keryx/keryx/core/DeliveryStatus"), accessFlags := 18, slot := 0, constantValue := 0 }, { name := "nextAttemptAt", type := (.object "java/time/Instant"), accessFlags := 18, slot := 1, constantValue := 0 }]
  methods := #[k8m0, k8m1, k8m2, k8m3]
  instanceTypes := #[(.object "com/example/keryx/keryx/core/DeliveryStatus"), (.object "java/time/Instant")]
  staticTypes := #[]
  resolved := Array.replicate 87 none
  statics := none }

def pool9 : Array CpInfo := pool [(1, .fieldref 2 3), (0, .class_ 4), (0, .nameAndType 5 6), (0, u "java/util/Optional"), (0, u "EMPTY"), (0, u "Ljava/util/Optional;"), (1, .class_ 10), (1, u "java/lang/Object"), (2, .fieldref 2 14), (0, .nameAndType 15 16), (0, u "value"), (0, u "Ljava/lang/Object;"), (29, u "()Z"), (17, u "ofNullable"), (0, u "(Ljava/lang/Object;)Ljava/util/Optional;"), (2, u "isPresent")] 118

def k9c0 : Code := { maxStack := 3, maxLocals := 1, code := jdk_32_method_4_code, exceptionTable := #[], attributes := #[] }
def k9m0 : Method := { name := "ofNullable", desc := "(Ljava/lang/Object;)Ljava/util/Optional;", sig := { parameters := [(.object "java/lang/Object")], returnType := some (.object "java/util/Optional") }, accessFlags := 9, code := some k9c0 }
def k9c1 : Code := { maxStack := 1, maxLocals := 1, code := jdk_32_method_6_code, exceptionTable := #[], attributes := #[] }
def k9m1 : Method := { name := "isPresent", desc := "()Z", sig := { parameters := [], returnType := some .boolean }, accessFlags := 1, code := some k9c1 }
/-- java/util/Optional -/
def k9 : Class := { plain "java/util/Optional" (some 0) with
  accessFlags := 49
  interfaces := #[]
  cf := some (fileOf pool9 2 #[] #[{ accessFlags := 9, nameIndex := 64, descriptorIndex := 65, attributes := #[] }, { accessFlags := 1, nameIndex := 68, descriptorIndex := 46, attributes := #[] }] 49 8 #[] #[{ accessFlags := 26, nameIndex := 5, descriptorIndex := 6, attributes := #[] }, { accessFlags := 18, nameIndex := 15, descriptorIndex := 16, attributes := #[] }])
  fields := #[{ name := "EMPTY", type := (.object "java/util/Optional"), accessFlags := 26, slot := 0, constantValue := 0 }, { name := "value", type := (.object "java/lang/Object"), accessFlags := 18, slot := 0, constantValue := 0 }]
  methods := #[k9m0, k9m1]
  instanceTypes := #[(.object "java/lang/Object")]
  staticTypes := #[(.object "java/util/Optional")]
  resolved := Array.replicate 187 none
  statics := some 1 }

def pool10 : Array CpInfo := pool [(1, u "java/lang/Cloneable"), (0, .class_ 1), (0, u "java/lang/Object"), (0, .class_ 3)] 3

/-- java/lang/Cloneable -/
def k10 : Class := { plain "java/lang/Cloneable" (some 0) with
  accessFlags := 1537
  interfaces := #[]
  cf := some (fileOf pool10 2 #[] #[] 1537 4 #[] #[])
  fields := #[]
  methods := #[]
  instanceTypes := #[]
  staticTypes := #[]
  resolved := Array.replicate 8 none
  statics := none }

/-- the primitive byte -/
def k11 : Class := { plain "byte" none with kind := .primitive 'B', accessFlags := 0x411 }
/-- [B -/
def k12 : Class := { plain "[B" (some 0) with kind := .array 11 .byte, interfaces := #[10, 4], accessFlags := 1041 }

/-- the primitive int -/
def k13 : Class := { plain "int" none with kind := .primitive 'I', accessFlags := 0x411 }
/-- [I -/
def k14 : Class := { plain "[I" (some 0) with kind := .array 13 .int, interfaces := #[10, 4], accessFlags := 1041 }

def heap : Heap := #[{ cls := 7, slots := #[.null, .null, .null, .ref 2, .ref 4, .ref 3, .null, .null], vm := .statics 7 },
  { cls := 9, slots := #[.ref 5], vm := .statics 9 },
  { cls := 7, slots := #[.null, .int 0, .int 0, .null, .int 1], vm := .none },
  { cls := 7, slots := #[.null, .int 0, .int 0, .null, .int 1], vm := .none },
  { cls := 7, slots := #[.null, .int 0, .int 0, .null, .int 1], vm := .none },
  { cls := 9, slots := #[.null], vm := .none }]
def classes : Array Class := #[k0, k1, k2, k3, k4, k5, k6, k7, k8, k9, k10, k11, k12, k13, k14]
def interned : List (Array UInt16 × Addr) := []
def slotsUsed : Nat := 25
def theMethod : MethodId := ⟨1, 1⟩
def args0 : Array Value := #[.int 5]
def aboutOver (below : List Frame) : State where
  vm := { classes := classes, interned := interned.toArray }
  heap := heap
  slotsUsed := slotsUsed
  threads := #[{ frames := .invoking theMethod args0 :: below }]
def below0 : List Frame := [.native { method := ⟨0, 0⟩, args := #[] }]
def about1 : State := aboutOver below0
def p0 : Program := .bare "" "" ""
def e0 : Env := launch0.env 0 0 0
theorem w_frames : about1.frames = Frame.invoking theMethod args0 :: below0 := rfl
set_option maxRecDepth 65536 in
theorem w_args : argsFit about1.vm theMethod args0 = true := by decide +kernel
set_option maxRecDepth 65536 in
theorem w_heap : heapFits about1 = true := by decide +kernel
set_option maxRecDepth 65536 in
theorem w_runnable : about1.curStatus? = some .runnable := by decide +kernel
set_option maxRecDepth 65536 in
theorem w_alone : about1.alone = true := by decide +kernel
set_option maxRecDepth 65536 in
theorem w_named : about1.methodNamed? x = some theMethod := by decide +kernel
set_option maxRecDepth 65536 in
theorem w_hears : about1.hears theMethod below0 = true := by decide +kernel
set_option maxRecDepth 65536 in
theorem w_ripe : about1.ripe theMethod args0 below0 = true := by decide +kernel
theorem w_running : about1.status = .running := rfl
set_option maxRecDepth 65536 in
theorem w_room : about1.hasRoom e0.platform room_1 = true :=
  launch0.hasRoom_least _ room_1 (by decide +kernel) (by decide +kernel) (by decide +kernel) (by decide +kernel) (by decide +kernel) (by decide +kernel)
theorem allAtoms_all (ts : List Jvm.Cond) (a : Array Jvm.Value) (st : Jvm.State) : (allAtoms ts).before a st = ts.all (fun c => c.before a st) := by
  induction ts with
  | nil => rfl
  | cons c t ih =>
    show (Jvm.Cond.and c (allAtoms t)).before a st = _
    rw [Jvm.Cond.before_and, ih, List.all_cons]
def words1 : List Jvm.Cond := Jvm.Cond.code x code maxLocals ret :: tables_1
/-- a 'code' word, met by the world's own term for the bytes: nothing is compared byte by byte -/
theorem code_word {y : MethodName} {bytes : ByteArray} {mx : Nat} {rt : Option FieldType} {a : Array Value} {s : State} {m : MethodId} {meth : Method} {c : Code} (h1 : s.methodNamed? y = some m) (h2 : s.vm.method? m = some meth) (h3 : meth.code = some c) (h4 : c.code = bytes)
    (h5 : (c.maxLocals == mx && c.exceptionTable.isEmpty && decide (c.maxStack ≤ mostOperands) && decide (meth.sig.returnType = rt) && !meth.locks && decide (parseMethodDescriptor y.desc = some meth.sig)) = true) : (Jvm.Cond.code y bytes mx rt).before a s = true := by
  simp only [Bool.and_eq_true, beq_iff_eq, Bool.not_eq_true', decide_eq_true_eq] at h5
  obtain ⟨⟨⟨⟨⟨g1, g2⟩, g3⟩, g4⟩, g5⟩, g6⟩ := h5
  simp [Cond.before, Cond.holds, Cond.value, h1, h2, h3, h4, g1, g2, g3, g4, g5, g6]
def isCode : Jvm.Cond → Bool
  | .code _ _ _ _ => true
  | _ => false
theorem all_split {L : List Jvm.Cond} {P : Jvm.Cond → Bool} (h1 : L.all (fun c => isCode c || P c) = true) (h2 : ∀ c ∈ L.filter isCode, P c = true) : L.all P = true := by
  refine List.all_eq_true.mpr fun c hc => ?_
  have h := List.all_eq_true.mp h1 c hc
  rcases Bool.eq_false_or_eq_true (isCode c) with hi | hi
  · exact h2 c (List.mem_filter.mpr ⟨hc, hi⟩)
  · simpa [hi] using h
set_option maxRecDepth 65536 in
theorem w_c0 : (Jvm.Cond.code x code maxLocals ret).before args0 about1 = true := code_word (m := ⟨1, 1⟩) (meth := k1m1) (c := k1c1) (by decide +kernel) rfl rfl rfl (by decide +kernel)
set_option maxRecDepth 65536 in
theorem w_c1 : (Jvm.Cond.code ({ cls := "com/example/keryx/keryx/core/DeliveryUpdate", name := "ended", desc := "(Lcom/example/keryx/keryx/core/DeliveryStatus;)Lcom/example/keryx/keryx/core/DeliveryUpdate;" } : Jvm.MethodName) prog_6_method_2_code (1 : Nat) (Option.some (Jvm.ClassFile.FieldType.object "com/example/keryx/keryx/core/DeliveryUpdate"))).before args0 about1 = true := code_word (m := ⟨8, 1⟩) (meth := k8m1) (c := k8c1) (by decide +kernel) rfl rfl rfl (by decide +kernel)
set_option maxRecDepth 65536 in
theorem w_c2 : (Jvm.Cond.code ({ cls := "com/example/keryx/keryx/core/DeliveryStatus", name := "isTerminal", desc := "()Z" } : Jvm.MethodName) prog_5_method_5_code (1 : Nat) (Option.some Jvm.ClassFile.FieldType.boolean)).before args0 about1 = true := code_word (m := ⟨7, 0⟩) (meth := k7m0) (c := k7c0) (by decide +kernel) rfl rfl rfl (by decide +kernel)
set_option maxRecDepth 65536 in
theorem w_c3 : (Jvm.Cond.code ({ cls := "com/example/keryx/keryx/core/DeliveryUpdate", name := "<init>", desc := "(Lcom/example/keryx/keryx/core/DeliveryStatus;Ljava/time/Instant;)V" } : Jvm.MethodName) prog_6_method_1_code (3 : Nat) (Option.none : Option Jvm.ClassFile.FieldType)).before args0 about1 = true := code_word (m := ⟨8, 0⟩) (meth := k8m0) (c := k8c0) (by decide +kernel) rfl rfl rfl (by decide +kernel)
set_option maxRecDepth 65536 in
theorem w_c4 : (Jvm.Cond.code ({ cls := "java/lang/Object", name := "<init>", desc := "()V" } : Jvm.MethodName) object_method_1_code (1 : Nat) (Option.none : Option Jvm.ClassFile.FieldType)).before args0 about1 = true := code_word (m := ⟨0, 0⟩) (meth := k0m0) (c := k0c0) (by decide +kernel) rfl rfl rfl (by decide +kernel)
set_option maxRecDepth 65536 in
theorem w_c5 : (Jvm.Cond.code ({ cls := "com/example/keryx/keryx/core/DeliveryUpdate", name := "status", desc := "()Lcom/example/keryx/keryx/core/DeliveryStatus;" } : Jvm.MethodName) prog_6_method_4_code (1 : Nat) (Option.some (Jvm.ClassFile.FieldType.object "com/example/keryx/keryx/core/DeliveryStatus"))).before args0 about1 = true := code_word (m := ⟨8, 2⟩) (meth := k8m2) (c := k8c2) (by decide +kernel) rfl rfl rfl (by decide +kernel)
set_option maxRecDepth 65536 in
theorem w_c6 : (Jvm.Cond.code ({ cls := "com/example/keryx/keryx/core/DeliveryUpdate", name := "nextAttemptAt", desc := "()Ljava/util/Optional;" } : Jvm.MethodName) prog_6_method_5_code (1 : Nat) (Option.some (Jvm.ClassFile.FieldType.object "java/util/Optional"))).before args0 about1 = true := code_word (m := ⟨8, 3⟩) (meth := k8m3) (c := k8c3) (by decide +kernel) rfl rfl rfl (by decide +kernel)
set_option maxRecDepth 65536 in
theorem w_c7 : (Jvm.Cond.code ({ cls := "java/util/Optional", name := "ofNullable", desc := "(Ljava/lang/Object;)Ljava/util/Optional;" } : Jvm.MethodName) jdk_32_method_4_code (1 : Nat) (Option.some (Jvm.ClassFile.FieldType.object "java/util/Optional"))).before args0 about1 = true := code_word (m := ⟨9, 0⟩) (meth := k9m0) (c := k9c0) (by decide +kernel) rfl rfl rfl (by decide +kernel)
set_option maxRecDepth 65536 in
theorem w_c8 : (Jvm.Cond.code ({ cls := "java/util/Optional", name := "isPresent", desc := "()Z" } : Jvm.MethodName) jdk_32_method_6_code (1 : Nat) (Option.some Jvm.ClassFile.FieldType.boolean)).before args0 about1 = true := code_word (m := ⟨9, 1⟩) (meth := k9m1) (c := k9c1) (by decide +kernel) rfl rfl rfl (by decide +kernel)
def codes1 : List Jvm.Cond := [Jvm.Cond.code x code maxLocals ret, Jvm.Cond.code ({ cls := "com/example/keryx/keryx/core/DeliveryUpdate", name := "ended", desc := "(Lcom/example/keryx/keryx/core/DeliveryStatus;)Lcom/example/keryx/keryx/core/DeliveryUpdate;" } : Jvm.MethodName) prog_6_method_2_code (1 : Nat) (Option.some (Jvm.ClassFile.FieldType.object "com/example/keryx/keryx/core/DeliveryUpdate")), Jvm.Cond.code ({ cls := "com/example/keryx/keryx/core/DeliveryStatus", name := "isTerminal", desc := "()Z" } : Jvm.MethodName) prog_5_method_5_code (1 : Nat) (Option.some Jvm.ClassFile.FieldType.boolean), Jvm.Cond.code ({ cls := "com/example/keryx/keryx/core/DeliveryUpdate", name := "<init>", desc := "(Lcom/example/keryx/keryx/core/DeliveryStatus;Ljava/time/Instant;)V" } : Jvm.MethodName) prog_6_method_1_code (3 : Nat) (Option.none : Option Jvm.ClassFile.FieldType), Jvm.Cond.code ({ cls := "java/lang/Object", name := "<init>", desc := "()V" } : Jvm.MethodName) object_method_1_code (1 : Nat) (Option.none : Option Jvm.ClassFile.FieldType), Jvm.Cond.code ({ cls := "com/example/keryx/keryx/core/DeliveryUpdate", name := "status", desc := "()Lcom/example/keryx/keryx/core/DeliveryStatus;" } : Jvm.MethodName) prog_6_method_4_code (1 : Nat) (Option.some (Jvm.ClassFile.FieldType.object "com/example/keryx/keryx/core/DeliveryStatus")), Jvm.Cond.code ({ cls := "com/example/keryx/keryx/core/DeliveryUpdate", name := "nextAttemptAt", desc := "()Ljava/util/Optional;" } : Jvm.MethodName) prog_6_method_5_code (1 : Nat) (Option.some (Jvm.ClassFile.FieldType.object "java/util/Optional")), Jvm.Cond.code ({ cls := "java/util/Optional", name := "ofNullable", desc := "(Ljava/lang/Object;)Ljava/util/Optional;" } : Jvm.MethodName) jdk_32_method_4_code (1 : Nat) (Option.some (Jvm.ClassFile.FieldType.object "java/util/Optional")), Jvm.Cond.code ({ cls := "java/util/Optional", name := "isPresent", desc := "()Z" } : Jvm.MethodName) jdk_32_method_6_code (1 : Nat) (Option.some Jvm.ClassFile.FieldType.boolean)]
set_option maxRecDepth 65536 in
theorem codes_eq : words1.filter isCode = codes1 := rfl
theorem w_codes : ∀ c ∈ words1.filter isCode, c.before args0 about1 = true := by
  rw [codes_eq]
  intro c hc
  simp only [codes1, List.mem_cons, List.not_mem_nil, or_false] at hc
  rcases hc with rfl | rfl | rfl | rfl | rfl | rfl | rfl | rfl | rfl
  · exact w_c0
  · exact w_c1
  · exact w_c2
  · exact w_c3
  · exact w_c4
  · exact w_c5
  · exact w_c6
  · exact w_c7
  · exact w_c8
set_option maxRecDepth 65536 in
theorem w_t1 : (words1.take 24).all (fun c => isCode c || c.before args0 about1) = true := by decide +kernel
set_option maxRecDepth 65536 in
theorem w_t2 : ((words1.drop 24).take 24).all (fun c => isCode c || c.before args0 about1) = true := by decide +kernel
set_option maxRecDepth 65536 in
theorem w_t3 : ((words1.drop 24).drop 24).all (fun c => isCode c || c.before args0 about1) = true := by decide +kernel
theorem w_tables : (allAtoms (Jvm.Cond.code x code maxLocals ret :: tables_1)).before args0 about1 = true := by
  rw [allAtoms_all]
  show words1.all (fun c => c.before args0 about1) = true
  refine all_split ?_ w_codes
  rw [← List.take_append_drop 24 words1, List.all_append, w_t1, ← List.take_append_drop 24 (words1.drop 24), List.all_append, w_t2, w_t3]
  rfl
set_option maxRecDepth 65536 in
theorem w_rest : rest_1_c.before args0 about1 = true := by decide +kernel
set_option maxRecDepth 65536 in
theorem w_case : (Jvm.Cond.and given_1 narrow_1).before args0 about1 = true := by decide +kernel
theorem w_applies : (headSpec (Jvm.Cond.code x code maxLocals ret :: tables_1) room_1).applies x e0.platform about1 = true :=
  (Spec.applies_iff w_frames).mpr ⟨w_running, w_runnable, w_alone, w_named, w_hears, w_ripe, w_room, w_tables⟩
theorem atStart : AtStart classFile x code maxLocals ret World_1 tables_1 room_1 Calls_1 rest_1 Pre_1 launch0 p0 e0 about1 theMethod args0 below0 :=
  ⟨lists_1, trivial, launch0.admits_env _ _ _, launch0.least_env, fairChoices_fair.cas, fairChoices_fair.clock, w_frames, w_args, w_heap, w_applies, trivial, w_rest, w_case⟩
end start1
theorem witness_1 : WitnessClaimed_1 := ⟨start1.p0, start1.e0, start1.about1, start1.theMethod, start1.args0, start1.below0, start1.atStart⟩
end Jvm.Pilot.@@N@@
